import PyProof.Rows.All
import Wide.All
import OpenK.AllK
import Wide.FinOn
import Lean
import PySem.Challenge.RW_in0265_01
set_option Elab.async false
set_option rowWalk.seconds 0
set_option compiler.extract_closed false
set_option bootstrap.genMatcherCode false
section
namespace Mine
theorem fresh_Hp : True := by
  w_top off
  trivial
end Mine
open PySem PySem.W PyProof.Rows
set_option Elab.async false
set_option maxRecDepth 100000
namespace Mine
noncomputable def f1 : Arguments × List Stmt × Scope := by
  refine (fun (K : Arguments × List Stmt × Scope) (_ : K = (match PySem.Challenge.pw_in0265_01.main.body with | _ :: PySem.Stmt.FunctionDef _ a b _ _ _ sc _ _ _ :: _ => (a, b, sc) | _ => (⟨[], [], none, [], [], none, []⟩, [], { kind := .function, names := [], isGenerator := false, isCoroutine := false }))) => K) ?K ?h
  case h =>
    unfold PySem.Challenge.pw_in0265_01
    dsimp only
    exact rfl
noncomputable def f4 : Arguments × List Stmt × Scope := by
  refine (fun (K : Arguments × List Stmt × Scope) (_ : K = (match PySem.Challenge.pw_in0265_01.main.body with | _ :: _ :: _ :: _ :: PySem.Stmt.FunctionDef _ a b _ _ _ sc _ _ _ :: _ => (a, b, sc) | _ => (⟨[], [], none, [], [], none, []⟩, [], { kind := .function, names := [], isGenerator := false, isCoroutine := false }))) => K) ?K ?h
  case h =>
    unfold PySem.Challenge.pw_in0265_01
    dsimp only
    exact rfl
noncomputable def f5 : Arguments × List Stmt × Scope := by
  refine (fun (K : Arguments × List Stmt × Scope) (_ : K = (match PySem.Challenge.pw_in0265_01.main.body with | _ :: _ :: _ :: _ :: _ :: PySem.Stmt.FunctionDef _ a b _ _ _ sc _ _ _ :: _ => (a, b, sc) | _ => (⟨[], [], none, [], [], none, []⟩, [], { kind := .function, names := [], isGenerator := false, isCoroutine := false }))) => K) ?K ?h
  case h =>
    unfold PySem.Challenge.pw_in0265_01
    dsimp only
    exact rfl
noncomputable def f7 : Arguments × List Stmt × Scope := by
  refine (fun (K : Arguments × List Stmt × Scope) (_ : K = (match PySem.Challenge.pw_in0265_01.main.body with | _ :: _ :: _ :: _ :: _ :: _ :: _ :: PySem.Stmt.FunctionDef _ a b _ _ _ sc _ _ _ :: _ => (a, b, sc) | _ => (⟨[], [], none, [], [], none, []⟩, [], { kind := .function, names := [], isGenerator := false, isCoroutine := false }))) => K) ?K ?h
  case h =>
    unfold PySem.Challenge.pw_in0265_01
    dsimp only
    exact rfl
noncomputable def f8 : Arguments × List Stmt × Scope := by
  refine (fun (K : Arguments × List Stmt × Scope) (_ : K = (match PySem.Challenge.pw_in0265_01.main.body with | _ :: _ :: _ :: _ :: _ :: _ :: _ :: _ :: PySem.Stmt.FunctionDef _ a b _ _ _ sc _ _ _ :: _ => (a, b, sc) | _ => (⟨[], [], none, [], [], none, []⟩, [], { kind := .function, names := [], isGenerator := false, isCoroutine := false }))) => K) ?K ?h
  case h =>
    unfold PySem.Challenge.pw_in0265_01
    dsimp only
    exact rfl
noncomputable def f10 : Arguments × List Stmt × Scope := by
  refine (fun (K : Arguments × List Stmt × Scope) (_ : K = (match PySem.Challenge.pw_in0265_01.main.body with | _ :: _ :: _ :: _ :: _ :: _ :: _ :: _ :: _ :: _ :: PySem.Stmt.FunctionDef _ a b _ _ _ sc _ _ _ :: _ => (a, b, sc) | _ => (⟨[], [], none, [], [], none, []⟩, [], { kind := .function, names := [], isGenerator := false, isCoroutine := false }))) => K) ?K ?h
  case h =>
    unfold PySem.Challenge.pw_in0265_01
    dsimp only
    exact rfl
noncomputable def f12 : Arguments × List Stmt × Scope := by
  refine (fun (K : Arguments × List Stmt × Scope) (_ : K = (match PySem.Challenge.pw_in0265_01.main.body with | _ :: _ :: _ :: _ :: _ :: _ :: _ :: _ :: _ :: _ :: _ :: _ :: PySem.Stmt.FunctionDef _ a b _ _ _ sc _ _ _ :: _ => (a, b, sc) | _ => (⟨[], [], none, [], [], none, []⟩, [], { kind := .function, names := [], isGenerator := false, isCoroutine := false }))) => K) ?K ?h
  case h =>
    unfold PySem.Challenge.pw_in0265_01
    dsimp only
    exact rfl
noncomputable def f15 : Arguments × List Stmt × Scope := by
  refine (fun (K : Arguments × List Stmt × Scope) (_ : K = (match PySem.Challenge.pw_in0265_01.main.body with | _ :: _ :: _ :: _ :: _ :: _ :: _ :: _ :: _ :: _ :: _ :: _ :: _ :: _ :: _ :: PySem.Stmt.FunctionDef _ a b _ _ _ sc _ _ _ :: _ => (a, b, sc) | _ => (⟨[], [], none, [], [], none, []⟩, [], { kind := .function, names := [], isGenerator := false, isCoroutine := false }))) => K) ?K ?h
  case h =>
    unfold PySem.Challenge.pw_in0265_01
    dsimp only
    exact rfl
noncomputable def f16 : Arguments × List Stmt × Scope := by
  refine (fun (K : Arguments × List Stmt × Scope) (_ : K = (match PySem.Challenge.pw_in0265_01.main.body with | _ :: _ :: _ :: _ :: _ :: _ :: _ :: _ :: _ :: _ :: _ :: _ :: _ :: _ :: _ :: _ :: PySem.Stmt.FunctionDef _ a b _ _ _ sc _ _ _ :: _ => (a, b, sc) | _ => (⟨[], [], none, [], [], none, []⟩, [], { kind := .function, names := [], isGenerator := false, isCoroutine := false }))) => K) ?K ?h
  case h =>
    unfold PySem.Challenge.pw_in0265_01
    dsimp only
    exact rfl
noncomputable def f19 : Arguments × List Stmt × Scope := by
  refine (fun (K : Arguments × List Stmt × Scope) (_ : K = (match PySem.Challenge.pw_in0265_01.main.body with | _ :: _ :: _ :: _ :: _ :: _ :: _ :: _ :: _ :: _ :: _ :: _ :: _ :: _ :: _ :: _ :: _ :: _ :: _ :: PySem.Stmt.FunctionDef _ a b _ _ _ sc _ _ _ :: _ => (a, b, sc) | _ => (⟨[], [], none, [], [], none, []⟩, [], { kind := .function, names := [], isGenerator := false, isCoroutine := false }))) => K) ?K ?h
  case h =>
    unfold PySem.Challenge.pw_in0265_01
    dsimp only
    exact rfl
noncomputable def f22 : Arguments × List Stmt × Scope := by
  refine (fun (K : Arguments × List Stmt × Scope) (_ : K = (match PySem.Challenge.pw_in0265_01.main.body with | _ :: _ :: _ :: _ :: _ :: _ :: _ :: _ :: _ :: _ :: _ :: _ :: _ :: _ :: _ :: _ :: _ :: _ :: _ :: _ :: _ :: _ :: PySem.Stmt.FunctionDef _ a b _ _ _ sc _ _ _ :: _ => (a, b, sc) | _ => (⟨[], [], none, [], [], none, []⟩, [], { kind := .function, names := [], isGenerator := false, isCoroutine := false }))) => K) ?K ?h
  case h =>
    unfold PySem.Challenge.pw_in0265_01
    dsimp only
    exact rfl
noncomputable def f24 : Arguments × List Stmt × Scope := by
  refine (fun (K : Arguments × List Stmt × Scope) (_ : K = (match PySem.Challenge.pw_in0265_01.main.body with | _ :: _ :: _ :: _ :: _ :: _ :: _ :: _ :: _ :: _ :: _ :: _ :: _ :: _ :: _ :: _ :: _ :: _ :: _ :: _ :: _ :: _ :: _ :: _ :: PySem.Stmt.FunctionDef _ a b _ _ _ sc _ _ _ :: _ => (a, b, sc) | _ => (⟨[], [], none, [], [], none, []⟩, [], { kind := .function, names := [], isGenerator := false, isCoroutine := false }))) => K) ?K ?h
  case h =>
    unfold PySem.Challenge.pw_in0265_01
    dsimp only
    exact rfl
noncomputable def f25 : Arguments × List Stmt × Scope := by
  refine (fun (K : Arguments × List Stmt × Scope) (_ : K = (match PySem.Challenge.pw_in0265_01.main.body with | _ :: _ :: _ :: _ :: _ :: _ :: _ :: _ :: _ :: _ :: _ :: _ :: _ :: _ :: _ :: _ :: _ :: _ :: _ :: _ :: _ :: _ :: _ :: _ :: _ :: PySem.Stmt.FunctionDef _ a b _ _ _ sc _ _ _ :: _ => (a, b, sc) | _ => (⟨[], [], none, [], [], none, []⟩, [], { kind := .function, names := [], isGenerator := false, isCoroutine := false }))) => K) ?K ?h
  case h =>
    unfold PySem.Challenge.pw_in0265_01
    dsimp only
    exact rfl
noncomputable def f27 : Arguments × List Stmt × Scope := by
  refine (fun (K : Arguments × List Stmt × Scope) (_ : K = (match PySem.Challenge.pw_in0265_01.main.body with | _ :: _ :: _ :: _ :: _ :: _ :: _ :: _ :: _ :: _ :: _ :: _ :: _ :: _ :: _ :: _ :: _ :: _ :: _ :: _ :: _ :: _ :: _ :: _ :: _ :: _ :: _ :: PySem.Stmt.FunctionDef _ a b _ _ _ sc _ _ _ :: _ => (a, b, sc) | _ => (⟨[], [], none, [], [], none, []⟩, [], { kind := .function, names := [], isGenerator := false, isCoroutine := false }))) => K) ?K ?h
  case h =>
    unfold PySem.Challenge.pw_in0265_01
    dsimp only
    exact rfl
noncomputable def f28 : Arguments × List Stmt × Scope := by
  refine (fun (K : Arguments × List Stmt × Scope) (_ : K = (match PySem.Challenge.pw_in0265_01.main.body with | _ :: _ :: _ :: _ :: _ :: _ :: _ :: _ :: _ :: _ :: _ :: _ :: _ :: _ :: _ :: _ :: _ :: _ :: _ :: _ :: _ :: _ :: _ :: _ :: _ :: _ :: _ :: _ :: PySem.Stmt.FunctionDef _ a b _ _ _ sc _ _ _ :: _ => (a, b, sc) | _ => (⟨[], [], none, [], [], none, []⟩, [], { kind := .function, names := [], isGenerator := false, isCoroutine := false }))) => K) ?K ?h
  case h =>
    unfold PySem.Challenge.pw_in0265_01
    dsimp only
    exact rfl
noncomputable def f29 : Arguments × List Stmt × Scope := by
  refine (fun (K : Arguments × List Stmt × Scope) (_ : K = (match PySem.Challenge.pw_in0265_01.main.body with | _ :: _ :: _ :: _ :: _ :: _ :: _ :: _ :: _ :: _ :: _ :: _ :: _ :: _ :: _ :: _ :: _ :: _ :: _ :: _ :: _ :: _ :: _ :: _ :: _ :: _ :: _ :: _ :: _ :: PySem.Stmt.FunctionDef _ a b _ _ _ sc _ _ _ :: _ => (a, b, sc) | _ => (⟨[], [], none, [], [], none, []⟩, [], { kind := .function, names := [], isGenerator := false, isCoroutine := false }))) => K) ?K ?h
  case h =>
    unfold PySem.Challenge.pw_in0265_01
    dsimp only
    exact rfl
noncomputable def f30 : Arguments × List Stmt × Scope := by
  refine (fun (K : Arguments × List Stmt × Scope) (_ : K = (match PySem.Challenge.pw_in0265_01.main.body with | _ :: _ :: _ :: _ :: _ :: _ :: _ :: _ :: _ :: _ :: _ :: _ :: _ :: _ :: _ :: _ :: _ :: _ :: _ :: _ :: _ :: _ :: _ :: _ :: _ :: _ :: _ :: _ :: _ :: _ :: PySem.Stmt.FunctionDef _ a b _ _ _ sc _ _ _ :: _ => (a, b, sc) | _ => (⟨[], [], none, [], [], none, []⟩, [], { kind := .function, names := [], isGenerator := false, isCoroutine := false }))) => K) ?K ?h
  case h =>
    unfold PySem.Challenge.pw_in0265_01
    dsimp only
    exact rfl
set_option maxHeartbeats 4000000 in
noncomputable def heap (P : Params) : Frag := by
  refine (fun (x38 x58 x65 x72 x79 x87 x96 x104 x111 x123 x135 x142 x149 x156 x161 x168 x173 : Obj)
      (_ : x38 = (PySem.Obj.mk (PySem.Value.type "function") (@Option.none Nat) (PySem.Data.func (PySem.FuncData.mk (PySem.Str.ofString "_wall") (PySem.Str.ofString "_wall") f1.1 (PySem.FuncBody.stmts f1.2.1) f1.2.2 (3 : Nat) [] PySem.Value.none PySem.Value.none PySem.Value.none (PySem.Value.str (PySem.Str.ofString "__main__") (164 : Nat)) (@Option.none Nat) (PySem.Value.ref (37 : Nat)) PySem.Value.none (0 : Nat))) (List.toArray [])))
      (_ : x58 = (PySem.Obj.mk (PySem.Value.type "function") (@Option.none Nat) (PySem.Data.func (PySem.FuncData.mk (PySem.Str.ofString "skip_until") (PySem.Str.ofString "skip_until") f4.1 (PySem.FuncBody.stmts f4.2.1) f4.2.2 (3 : Nat) [] PySem.Value.none PySem.Value.none PySem.Value.none (PySem.Value.str (PySem.Str.ofString "cpy313.tomllib._parser") (289 : Nat)) (@Option.none Nat) (PySem.Value.ref (57 : Nat)) PySem.Value.none (0 : Nat))) (List.toArray [])))
      (_ : x65 = (PySem.Obj.mk (PySem.Value.type "function") (@Option.none Nat) (PySem.Data.func (PySem.FuncData.mk (PySem.Str.ofString "suffixed_err") (PySem.Str.ofString "suffixed_err") f5.1 (PySem.FuncBody.stmts f5.2.1) f5.2.2 (3 : Nat) [] PySem.Value.none PySem.Value.none PySem.Value.none (PySem.Value.str (PySem.Str.ofString "cpy313.tomllib._parser") (289 : Nat)) (@Option.none Nat) (PySem.Value.ref (64 : Nat)) PySem.Value.none (0 : Nat))) (List.toArray [])))
      (_ : x72 = (PySem.Obj.mk (PySem.Value.type "function") (@Option.none Nat) (PySem.Data.func (PySem.FuncData.mk (PySem.Str.ofString "_buffer") (PySem.Str.ofString "_buffer") f7.1 (PySem.FuncBody.stmts f7.2.1) f7.2.2 (3 : Nat) [] PySem.Value.none PySem.Value.none PySem.Value.none (PySem.Value.str (PySem.Str.ofString "binascii") (331 : Nat)) (@Option.none Nat) (PySem.Value.ref (71 : Nat)) PySem.Value.none (0 : Nat))) (List.toArray [])))
      (_ : x79 = (PySem.Obj.mk (PySem.Value.type "function") (@Option.none Nat) (PySem.Data.func (PySem.FuncData.mk (PySem.Str.ofString "_truth") (PySem.Str.ofString "_truth") f8.1 (PySem.FuncBody.stmts f8.2.1) f8.2.2 (3 : Nat) [] PySem.Value.none PySem.Value.none PySem.Value.none (PySem.Value.str (PySem.Str.ofString "binascii") (331 : Nat)) (@Option.none Nat) (PySem.Value.ref (78 : Nat)) PySem.Value.none (0 : Nat))) (List.toArray [])))
      (_ : x87 = (PySem.Obj.mk (PySem.Value.type "function") (@Option.none Nat) (PySem.Data.func (PySem.FuncData.mk (PySem.Str.ofString "b2a_base64") (PySem.Str.ofString "b2a_base64") f10.1 (PySem.FuncBody.stmts f10.2.1) f10.2.2 (3 : Nat) [] PySem.Value.none (PySem.Value.ref (80 : Nat)) PySem.Value.none (PySem.Value.str (PySem.Str.ofString "binascii") (331 : Nat)) (@Option.none Nat) (PySem.Value.ref (86 : Nat)) PySem.Value.none (0 : Nat))) (List.toArray [])))
      (_ : x96 = (PySem.Obj.mk (PySem.Value.type "function") (@Option.none Nat) (PySem.Data.func (PySem.FuncData.mk (PySem.Str.ofString "b2a_hex") (PySem.Str.ofString "b2a_hex") f12.1 (PySem.FuncBody.stmts f12.2.1) f12.2.2 (3 : Nat) [] (PySem.Value.ref (89 : Nat)) PySem.Value.none PySem.Value.none (PySem.Value.str (PySem.Str.ofString "binascii") (331 : Nat)) (@Option.none Nat) (PySem.Value.ref (95 : Nat)) PySem.Value.none (0 : Nat))) (List.toArray [])))
      (_ : x104 = (PySem.Obj.mk (PySem.Value.type "function") (@Option.none Nat) (PySem.Data.func (PySem.FuncData.mk (PySem.Str.ofString "b64encode") (PySem.Str.ofString "b64encode") f15.1 (PySem.FuncBody.stmts f15.2.1) f15.2.2 (3 : Nat) [] (PySem.Value.ref (97 : Nat)) PySem.Value.none PySem.Value.none (PySem.Value.str (PySem.Str.ofString "cpy313.base64") (378 : Nat)) (@Option.none Nat) (PySem.Value.ref (103 : Nat)) PySem.Value.none (0 : Nat))) (List.toArray [])))
      (_ : x111 = (PySem.Obj.mk (PySem.Value.type "function") (@Option.none Nat) (PySem.Data.func (PySem.FuncData.mk (PySem.Str.ofString "b16encode") (PySem.Str.ofString "b16encode") f16.1 (PySem.FuncBody.stmts f16.2.1) f16.2.2 (3 : Nat) [] PySem.Value.none PySem.Value.none PySem.Value.none (PySem.Value.str (PySem.Str.ofString "cpy313.base64") (378 : Nat)) (@Option.none Nat) (PySem.Value.ref (110 : Nat)) PySem.Value.none (0 : Nat))) (List.toArray [])))
      (_ : x123 = (PySem.Obj.mk (PySem.Value.type "function") (@Option.none Nat) (PySem.Data.func (PySem.FuncData.mk (PySem.Str.ofString "translate") (PySem.Str.ofString "translate") f19.1 (PySem.FuncBody.stmts f19.2.1) f19.2.2 (3 : Nat) [] PySem.Value.none PySem.Value.none PySem.Value.none (PySem.Value.str (PySem.Str.ofString "cpy313.fnmatch") (396 : Nat)) (@Option.none Nat) (PySem.Value.ref (122 : Nat)) PySem.Value.none (0 : Nat))) (List.toArray [])))
      (_ : x135 = (PySem.Obj.mk (PySem.Value.type "function") (@Option.none Nat) (PySem.Data.func (PySem.FuncData.mk (PySem.Str.ofString "escape") (PySem.Str.ofString "escape") f22.1 (PySem.FuncBody.stmts f22.2.1) f22.2.2 (3 : Nat) [] PySem.Value.none PySem.Value.none PySem.Value.none (PySem.Value.str (PySem.Str.ofString "re") (445 : Nat)) (@Option.none Nat) (PySem.Value.ref (134 : Nat)) PySem.Value.none (0 : Nat))) (List.toArray [])))
      (_ : x142 = (PySem.Obj.mk (PySem.Value.type "function") (@Option.none Nat) (PySem.Data.func (PySem.FuncData.mk (PySem.Str.ofString "_translate") (PySem.Str.ofString "_translate") f24.1 (PySem.FuncBody.stmts f24.2.1) f24.2.2 (3 : Nat) [] PySem.Value.none PySem.Value.none PySem.Value.none (PySem.Value.str (PySem.Str.ofString "cpy313.fnmatch") (600 : Nat)) (@Option.none Nat) (PySem.Value.ref (141 : Nat)) PySem.Value.none (0 : Nat))) (List.toArray [])))
      (_ : x149 = (PySem.Obj.mk (PySem.Value.type "function") (@Option.none Nat) (PySem.Data.func (PySem.FuncData.mk (PySem.Str.ofString "_join_translated_parts") (PySem.Str.ofString "_join_translated_parts") f25.1 (PySem.FuncBody.stmts f25.2.1) f25.2.2 (3 : Nat) [] PySem.Value.none PySem.Value.none PySem.Value.none (PySem.Value.str (PySem.Str.ofString "cpy313.fnmatch") (600 : Nat)) (@Option.none Nat) (PySem.Value.ref (148 : Nat)) PySem.Value.none (0 : Nat))) (List.toArray [])))
      (_ : x156 = (PySem.Obj.mk (PySem.Value.type "function") (@Option.none Nat) (PySem.Data.func (PySem.FuncData.mk (PySem.Str.ofString "_law_turned") (PySem.Str.ofString "_law_turned") f27.1 (PySem.FuncBody.stmts f27.2.1) f27.2.2 (3 : Nat) [] PySem.Value.none PySem.Value.none PySem.Value.none (PySem.Value.str (PySem.Str.ofString "law_in0265_01") (634 : Nat)) (@Option.none Nat) (PySem.Value.ref (155 : Nat)) PySem.Value.none (0 : Nat))) (List.toArray [])))
      (_ : x161 = (PySem.Obj.mk (PySem.Value.type "function") (@Option.none Nat) (PySem.Data.func (PySem.FuncData.mk (PySem.Str.ofString "_law_written") (PySem.Str.ofString "_law_written") f28.1 (PySem.FuncBody.stmts f28.2.1) f28.2.2 (3 : Nat) [] PySem.Value.none PySem.Value.none PySem.Value.none (PySem.Value.str (PySem.Str.ofString "law_in0265_01") (634 : Nat)) (@Option.none Nat) (PySem.Value.ref (160 : Nat)) PySem.Value.none (0 : Nat))) (List.toArray [])))
      (_ : x168 = (PySem.Obj.mk (PySem.Value.type "function") (@Option.none Nat) (PySem.Data.func (PySem.FuncData.mk (PySem.Str.ofString "_law_places") (PySem.Str.ofString "_law_places") f29.1 (PySem.FuncBody.stmts f29.2.1) f29.2.2 (3 : Nat) [] PySem.Value.none PySem.Value.none PySem.Value.none (PySem.Value.str (PySem.Str.ofString "law_in0265_01") (634 : Nat)) (@Option.none Nat) (PySem.Value.ref (167 : Nat)) PySem.Value.none (0 : Nat))) (List.toArray [])))
      (_ : x173 = (PySem.Obj.mk (PySem.Value.type "function") (@Option.none Nat) (PySem.Data.func (PySem.FuncData.mk (PySem.Str.ofString "law") (PySem.Str.ofString "law") f30.1 (PySem.FuncBody.stmts f30.2.1) f30.2.2 (3 : Nat) [] PySem.Value.none PySem.Value.none PySem.Value.none (PySem.Value.str (PySem.Str.ofString "law_in0265_01") (634 : Nat)) (@Option.none Nat) (PySem.Value.ref (172 : Nat)) PySem.Value.none (0 : Nat))) (List.toArray [])))
      => (((nat_lit 2, (PySem.Obj.mk PySem.Value.none (@Option.none Nat) (PySem.Data.dict (List.toArray [(PySem.DictEntry.mk (PySem.PyData.keyHash P (PySem.Str.ofString "\x69mport.loaded._sre")) (PySem.Value.str (PySem.Str.ofString "\x69mport.loaded._sre") (183 : Nat)) (PySem.Value.bool Bool.true)), (PySem.DictEntry.mk (PySem.PyData.keyHash P (PySem.Str.ofString "class._frozen_importlib.BuiltinImporter")) (PySem.Value.str (PySem.Str.ofString "class._frozen_importlib.BuiltinImporter") (185 : Nat)) (PySem.Value.ref (14 : Nat))), (PySem.DictEntry.mk (PySem.PyData.keyHash P (PySem.Str.ofString "watched.\x69mport")) (PySem.Value.str (PySem.Str.ofString "watched.\x69mport") (206 : Nat)) (PySem.Value.ref (18 : Nat))), (PySem.DictEntry.mk (PySem.PyData.keyHash P (PySem.Str.ofString "class._frozen_importlib.ModuleSpec")) (PySem.Value.str (PySem.Str.ofString "class._frozen_importlib.ModuleSpec") (216 : Nat)) (PySem.Value.ref (22 : Nat))), (PySem.DictEntry.mk (PySem.PyData.keyHash P (PySem.Str.ofString "sys.modules.booked-epoch")) (PySem.Value.str (PySem.Str.ofString "sys.modules.booked-epoch") (245 : Nat)) (PySem.Value.int 3 (0 : Nat))), (PySem.DictEntry.mk (PySem.PyData.keyHash P (PySem.Str.ofString "\x69mport.later-laid._sre")) (PySem.Value.str (PySem.Str.ofString "\x69mport.later-laid._sre") (270 : Nat)) (PySem.Value.bool Bool.true)), (PySem.DictEntry.mk (PySem.PyData.keyHash P (PySem.Str.ofString "watched.library")) (PySem.Value.str (PySem.Str.ofString "watched.library") (272 : Nat)) (PySem.Value.ref (27 : Nat))), (PySem.DictEntry.mk (PySem.PyData.keyHash P (PySem.Str.ofString "watched.library-objects")) (PySem.Value.str (PySem.Str.ofString "watched.library-objects") (0 : Nat)) (PySem.Value.str (PySem.Str.ofString "\x0c") (0 : Nat))), (PySem.DictEntry.mk (PySem.PyData.keyHash P (PySem.Str.ofString "watched.library-deep._sre")) (PySem.Value.str (PySem.Str.ofString "watched.library-deep._sre") (273 : Nat)) (PySem.Value.str (PySem.Str.ofString "\x04\x00\x00\x0b\x04\x00\x00\x0b\x04\x00\x00\x03\x04\x00\x00\x0b\x08\x04dict\x02") (0 : Nat)))]) (9 : Nat)) (List.toArray []))) ::
    (nat_lit 3, (PySem.Obj.mk (PySem.Value.type "dict") (@Option.none Nat) (PySem.Data.dict (List.toArray ((PySem.DictEntry.mk (PySem.PyData.keyHash P (PySem.Str.ofString "__name__")) (PySem.Value.str (PySem.Str.ofString "__name__") (165 : Nat)) (PySem.Value.str (PySem.Str.ofString "law_in0265_01") (634 : Nat))) :: (PySem.DictEntry.mk (PySem.PyData.keyHash P (PySem.Str.ofString "__doc__")) (PySem.Value.str (PySem.Str.ofString "__doc__") (166 : Nat)) PySem.Value.none) :: (PySem.DictEntry.mk (PySem.PyData.keyHash P (PySem.Str.ofString "__package__")) (PySem.Value.str (PySem.Str.ofString "__package__") (167 : Nat)) PySem.Value.none) :: (PySem.DictEntry.mk (PySem.PyData.keyHash P (PySem.Str.ofString "__loader__")) (PySem.Value.str (PySem.Str.ofString "__loader__") (168 : Nat)) (PySem.Value.builtin "__main__.__loader__#opaque")) :: (PySem.DictEntry.mk (PySem.PyData.keyHash P (PySem.Str.ofString "__spec__")) (PySem.Value.str (PySem.Str.ofString "__spec__") (169 : Nat)) PySem.Value.none) :: (PySem.DictEntry.mk (PySem.PyData.keyHash P (PySem.Str.ofString "__annotations__")) (PySem.Value.str (PySem.Str.ofString "__annotations__") (170 : Nat)) (PySem.Value.ref (6 : Nat))) :: (PySem.DictEntry.mk (PySem.PyData.keyHash P (PySem.Str.ofString "__builtins__")) (PySem.Value.str (PySem.Str.ofString "__builtins__") (171 : Nat)) (PySem.Value.ref (4 : Nat))) :: (PySem.DictEntry.mk (PySem.PyData.keyHash P (PySem.Str.ofString "__file__")) (PySem.Value.str (PySem.Str.ofString "__file__") (173 : Nat)) (PySem.Value.str (PySem.Str.ofString "/claim/cut.py") (172 : Nat))) :: (PySem.DictEntry.mk (PySem.PyData.keyHash P (PySem.Str.ofString "__cached__")) (PySem.Value.str (PySem.Str.ofString "__cached__") (174 : Nat)) PySem.Value.none) :: (PySem.DictEntry.mk (PySem.PyData.keyHash P (PySem.Str.ofString "_sre")) (PySem.Value.str (PySem.Str.ofString "_sre") (275 : Nat)) (PySem.Value.ref (12 : Nat))) :: (PySem.DictEntry.mk (PySem.PyData.keyHash P (PySem.Str.ofString "_wall")) (PySem.Value.str (PySem.Str.ofString "_wall") (288 : Nat)) (PySem.Value.ref (38 : Nat))) :: (PySem.DictEntry.mk (PySem.PyData.keyHash P (PySem.Str.ofString "TOMLDecodeError")) (PySem.Value.str (PySem.Str.ofString "TOMLDecodeError") (308 : Nat)) (PySem.Value.ref (48 : Nat))) :: (PySem.DictEntry.mk (PySem.PyData.keyHash P (PySem.Str.ofString "skip_until")) (PySem.Value.str (PySem.Str.ofString "skip_until") (320 : Nat)) (PySem.Value.ref (58 : Nat))) :: (PySem.DictEntry.mk (PySem.PyData.keyHash P (PySem.Str.ofString "suffixed_err")) (PySem.Value.str (PySem.Str.ofString "suffixed_err") (330 : Nat)) (PySem.Value.ref (65 : Nat))) :: (PySem.DictEntry.mk (PySem.PyData.keyHash P (PySem.Str.ofString "_buffer")) (PySem.Value.str (PySem.Str.ofString "_buffer") (340 : Nat)) (PySem.Value.ref (72 : Nat))) :: (PySem.DictEntry.mk (PySem.PyData.keyHash P (PySem.Str.ofString "_truth")) (PySem.Value.str (PySem.Str.ofString "_truth") (348 : Nat)) (PySem.Value.ref (79 : Nat))) :: (PySem.DictEntry.mk (PySem.PyData.keyHash P (PySem.Str.ofString "_B64")) (PySem.Value.str (PySem.Str.ofString "_B64") (350 : Nat)) (PySem.Value.bytes (List.toArray (65 :: 66 :: 67 :: 68 :: 69 :: 70 :: 71 :: 72 :: 73 :: 74 :: 75 :: 76 :: 77 :: 78 :: 79 :: 80 :: 81 :: 82 :: 83 :: 84 :: 85 :: 86 :: 87 :: 88 :: 89 :: 90 :: 97 :: 98 :: 99 :: 100 :: 101 :: 102 :: 103 :: 104 :: 105 :: 106 :: 107 :: 108 :: 109 :: 110 :: 111 :: 112 :: 113 :: 114 :: 115 :: 116 :: 117 :: 118 :: 119 :: 120 :: 121 :: 122 :: 48 :: 49 :: 50 :: 51 :: 52 :: 53 :: 54 :: 55 :: 56 :: 57 :: 43 :: 47 :: [])) (349 : Nat))) :: (PySem.DictEntry.mk (PySem.PyData.keyHash P (PySem.Str.ofString "b2a_base64")) (PySem.Value.str (PySem.Str.ofString "b2a_base64") (364 : Nat)) (PySem.Value.ref (87 : Nat))) :: (PySem.DictEntry.mk (PySem.PyData.keyHash P (PySem.Str.ofString "_NO_SEP")) (PySem.Value.str (PySem.Str.ofString "_NO_SEP") (365 : Nat)) (PySem.Value.ref (88 : Nat))) :: (PySem.DictEntry.mk (PySem.PyData.keyHash P (PySem.Str.ofString "b2a_hex")) (PySem.Value.str (PySem.Str.ofString "b2a_hex") (376 : Nat)) (PySem.Value.ref (96 : Nat))) :: (PySem.DictEntry.mk (PySem.PyData.keyHash P (PySem.Str.ofString "hexlify")) (PySem.Value.str (PySem.Str.ofString "hexlify") (377 : Nat)) (PySem.Value.ref (96 : Nat))) :: (PySem.DictEntry.mk (PySem.PyData.keyHash P (PySem.Str.ofString "b64encode")) (PySem.Value.str (PySem.Str.ofString "b64encode") (388 : Nat)) (PySem.Value.ref (104 : Nat))) :: (PySem.DictEntry.mk (PySem.PyData.keyHash P (PySem.Str.ofString "b16encode")) (PySem.Value.str (PySem.Str.ofString "b16encode") (395 : Nat)) (PySem.Value.ref (111 : Nat))) :: (PySem.DictEntry.mk (PySem.PyData.keyHash P (PySem.Str.ofString "_twin_re_1")) (PySem.Value.str (PySem.Str.ofString "_twin_re_1") (435 : Nat)) (PySem.Value.ref (116 : Nat))) :: (PySem.DictEntry.mk (PySem.PyData.keyHash P (PySem.Str.ofString "translate")) (PySem.Value.str (PySem.Str.ofString "translate") (444 : Nat)) (PySem.Value.ref (123 : Nat))) :: (PySem.DictEntry.mk (PySem.PyData.keyHash P (PySem.Str.ofString "_special_chars_map")) (PySem.Value.str (PySem.Str.ofString "_special_chars_map") (592 : Nat)) (PySem.Value.ref (125 : Nat))) :: (PySem.DictEntry.mk (PySem.PyData.keyHash P (PySem.Str.ofString "escape")) (PySem.Value.str (PySem.Str.ofString "escape") (599 : Nat)) (PySem.Value.ref (135 : Nat))) :: (PySem.DictEntry.mk (PySem.PyData.keyHash P (PySem.Str.ofString "_translate")) (PySem.Value.str (PySem.Str.ofString "_translate") (620 : Nat)) (PySem.Value.ref (142 : Nat))) :: (PySem.DictEntry.mk (PySem.PyData.keyHash P (PySem.Str.ofString "_join_translated_parts")) (PySem.Value.str (PySem.Str.ofString "_join_translated_parts") (633 : Nat)) (PySem.Value.ref (149 : Nat))) :: (PySem.DictEntry.mk (PySem.PyData.keyHash P (PySem.Str.ofString "_law_turned")) (PySem.Value.str (PySem.Str.ofString "_law_turned") (643 : Nat)) (PySem.Value.ref (156 : Nat))) :: (PySem.DictEntry.mk (PySem.PyData.keyHash P (PySem.Str.ofString "_law_written")) (PySem.Value.str (PySem.Str.ofString "_law_written") (649 : Nat)) (PySem.Value.ref (161 : Nat))) :: (PySem.DictEntry.mk (PySem.PyData.keyHash P (PySem.Str.ofString "_law_places")) (PySem.Value.str (PySem.Str.ofString "_law_places") (660 : Nat)) (PySem.Value.ref (168 : Nat))) :: (PySem.DictEntry.mk (PySem.PyData.keyHash P (PySem.Str.ofString "law")) (PySem.Value.str (PySem.Str.ofString "law") (666 : Nat)) (PySem.Value.ref (173 : Nat))) :: [])) (33 : Nat)) (List.toArray []))) ::
    (nat_lit 32, (PySem.Obj.mk (PySem.Value.type "tuple") (@Option.none Nat) (PySem.Data.seq (List.toArray []) (0 : Nat)) (List.toArray []))) ::
    (nat_lit 34, (PySem.Obj.mk (PySem.Value.type "tuple") (@Option.none Nat) (PySem.Data.seq (List.toArray [(PySem.Value.str (PySem.Str.ofString "k") (285 : Nat))]) (0 : Nat)) (List.toArray []))) ::
    (nat_lit 35, (PySem.Obj.mk (PySem.Value.type "tuple") (@Option.none Nat) (PySem.Data.seq (List.toArray []) (0 : Nat)) (List.toArray []))) ::
    (nat_lit 37, (PySem.Obj.mk (PySem.Value.type "code") (@Option.none Nat) (PySem.Data.fields (List.toArray ((PySem.Value.str (PySem.Str.ofString "_wall") (282 : Nat)) :: (PySem.Value.str (PySem.Str.ofString "_wall") (283 : Nat)) :: (PySem.Value.str (PySem.Str.ofString "/claim/cut.py") (284 : Nat)) :: (PySem.Value.int 2 (0 : Nat)) :: (PySem.Value.int 1 (0 : Nat)) :: (PySem.Value.int 0 (0 : Nat)) :: (PySem.Value.int 0 (0 : Nat)) :: (PySem.Value.int 3 (0 : Nat)) :: (PySem.Value.ref (32 : Nat)) :: (PySem.Value.bool Bool.true) :: (PySem.Value.int 276 (0 : Nat)) :: (PySem.Value.ref (33 : Nat)) :: PySem.Value.none :: (PySem.Value.ref (34 : Nat)) :: (PySem.Value.ref (35 : Nat)) :: (PySem.Value.ref (36 : Nat)) :: (PySem.Value.int 286 (0 : Nat)) :: (PySem.Value.int 2 (0 : Nat)) :: (PySem.Value.str (PySem.Str.ofString "/claim/cut.py") (287 : Nat)) :: []))) (List.toArray []))) ::
    (nat_lit 38, x38) ::
    (nat_lit 39, (PySem.Obj.mk (PySem.Value.type "tuple") (@Option.none Nat) (PySem.Data.seq (List.toArray [(PySem.Value.type "ValueError")]) (0 : Nat)) (List.toArray []))) ::
    (nat_lit 46, (PySem.Obj.mk (PySem.Value.type "tuple") (@Option.none Nat) (PySem.Data.seq (List.toArray []) (0 : Nat)) (List.toArray []))) ::
    (nat_lit 47, (PySem.Obj.mk (PySem.Value.type "dict") (@Option.none Nat) (PySem.Data.dict (List.toArray [(PySem.DictEntry.mk (PySem.PyData.keyHash P (PySem.Str.ofString "__module__")) (PySem.Value.str (PySem.Str.ofString "__module__") (298 : Nat)) (PySem.Value.str (PySem.Str.ofString "cpy313.tomllib._parser") (289 : Nat))), (PySem.DictEntry.mk (PySem.PyData.keyHash P (PySem.Str.ofString "__firstlineno__")) (PySem.Value.str (PySem.Str.ofString "__firstlineno__") (302 : Nat)) (PySem.Value.int 6 (301 : Nat))), (PySem.DictEntry.mk (PySem.PyData.keyHash P (PySem.Str.ofString "__static_attributes__")) (PySem.Value.str (PySem.Str.ofString "__static_attributes__") (303 : Nat)) (PySem.Value.ref (46 : Nat))), (PySem.DictEntry.mk (PySem.PyData.keyHash P (PySem.Str.ofString "__weakref__")) (PySem.Value.str (PySem.Str.ofString "__weakref__") (305 : Nat)) (PySem.Value.ref (49 : Nat))), (PySem.DictEntry.mk (PySem.PyData.keyHash P (PySem.Str.ofString "__doc__")) (PySem.Value.str (PySem.Str.ofString "__doc__") (306 : Nat)) PySem.Value.none)]) (3 : Nat)) (List.toArray []))) ::
    (nat_lit 48, (PySem.Obj.mk (PySem.Value.type "type") (@Option.none Nat) (PySem.Data.cls (PySem.ClassData.mk (PySem.Str.ofString "TOMLDecodeError") [(PySem.Value.type "ValueError")] [(PySem.Value.ref (48 : Nat)), (PySem.Value.type "ValueError"), (PySem.Value.type "Exception"), (PySem.Value.type "BaseException"), (PySem.Value.type "object")] (47 : Nat) (PySem.Str.ofString "TOMLDecodeError") Bool.true [] [] Bool.false (@Option.none Bool) Bool.false)) (List.toArray [(Option.some (PySem.Value.ref (39 : Nat))), (@Option.none PySem.Value), (Option.some (PySem.Value.str (PySem.Str.ofString "TOMLDecodeError") (291 : Nat))), (Option.some (PySem.Value.str (PySem.Str.ofString "TOMLDecodeError") (299 : Nat))), (Option.some (PySem.Value.builtin "ValueError.__new__")), (Option.some (PySem.Value.bool Bool.true))]))) ::
    (nat_lit 49, (PySem.Obj.mk (PySem.Value.type "getset_descriptor") (@Option.none Nat) (PySem.Data.fields (List.toArray [(PySem.Value.str (PySem.Str.ofString "__weakref__") (304 : Nat)), (PySem.Value.ref (48 : Nat)), (PySem.Value.builtin "ExceptionGroup.__weakref__"), PySem.Value.none])) (List.toArray []))) ::
    (nat_lit 52, (PySem.Obj.mk (PySem.Value.type "tuple") (@Option.none Nat) (PySem.Data.seq (List.toArray []) (0 : Nat)) (List.toArray []))) ::
    (nat_lit 54, (PySem.Obj.mk (PySem.Value.type "tuple") (@Option.none Nat) (PySem.Data.seq (List.toArray [(PySem.Value.str (PySem.Str.ofString "src") (312 : Nat)), (PySem.Value.str (PySem.Str.ofString "pos") (313 : Nat)), (PySem.Value.str (PySem.Str.ofString "expect") (314 : Nat)), (PySem.Value.str (PySem.Str.ofString "error_on") (315 : Nat)), (PySem.Value.str (PySem.Str.ofString "error_on_eof") (316 : Nat)), (PySem.Value.str (PySem.Str.ofString "new_pos") (317 : Nat))]) (0 : Nat)) (List.toArray []))) ::
    (nat_lit 55, (PySem.Obj.mk (PySem.Value.type "tuple") (@Option.none Nat) (PySem.Data.seq (List.toArray []) (0 : Nat)) (List.toArray []))) ::
    (nat_lit 57, (PySem.Obj.mk (PySem.Value.type "code") (@Option.none Nat) (PySem.Data.fields (List.toArray ((PySem.Value.str (PySem.Str.ofString "skip_until") (309 : Nat)) :: (PySem.Value.str (PySem.Str.ofString "skip_until") (310 : Nat)) :: (PySem.Value.str (PySem.Str.ofString "/claim/cut.py") (311 : Nat)) :: (PySem.Value.int 8 (0 : Nat)) :: (PySem.Value.int 3 (0 : Nat)) :: (PySem.Value.int 0 (0 : Nat)) :: (PySem.Value.int 2 (0 : Nat)) :: (PySem.Value.int 3 (0 : Nat)) :: (PySem.Value.ref (52 : Nat)) :: (PySem.Value.bool Bool.true) :: (PySem.Value.int 276 (0 : Nat)) :: (PySem.Value.ref (53 : Nat)) :: PySem.Value.none :: (PySem.Value.ref (54 : Nat)) :: (PySem.Value.ref (55 : Nat)) :: (PySem.Value.ref (56 : Nat)) :: (PySem.Value.int 318 (0 : Nat)) :: (PySem.Value.int 8 (0 : Nat)) :: (PySem.Value.str (PySem.Str.ofString "/claim/cut.py") (319 : Nat)) :: []))) (List.toArray []))) ::
    (nat_lit 58, x58) ::
    (nat_lit 59, (PySem.Obj.mk (PySem.Value.type "tuple") (@Option.none Nat) (PySem.Data.seq (List.toArray []) (0 : Nat)) (List.toArray []))) ::
    (nat_lit 61, (PySem.Obj.mk (PySem.Value.type "tuple") (@Option.none Nat) (PySem.Data.seq (List.toArray [(PySem.Value.str (PySem.Str.ofString "src") (324 : Nat)), (PySem.Value.str (PySem.Str.ofString "pos") (325 : Nat)), (PySem.Value.str (PySem.Str.ofString "msg") (326 : Nat)), (PySem.Value.str (PySem.Str.ofString "coord_repr") (327 : Nat))]) (0 : Nat)) (List.toArray []))) ::
    (nat_lit 62, (PySem.Obj.mk (PySem.Value.type "tuple") (@Option.none Nat) (PySem.Data.seq (List.toArray []) (0 : Nat)) (List.toArray []))) ::
    (nat_lit 64, (PySem.Obj.mk (PySem.Value.type "code") (@Option.none Nat) (PySem.Data.fields (List.toArray ((PySem.Value.str (PySem.Str.ofString "suffixed_err") (321 : Nat)) :: (PySem.Value.str (PySem.Str.ofString "suffixed_err") (322 : Nat)) :: (PySem.Value.str (PySem.Str.ofString "/claim/cut.py") (323 : Nat)) :: (PySem.Value.int 20 (0 : Nat)) :: (PySem.Value.int 3 (0 : Nat)) :: (PySem.Value.int 0 (0 : Nat)) :: (PySem.Value.int 0 (0 : Nat)) :: (PySem.Value.int 3 (0 : Nat)) :: (PySem.Value.ref (59 : Nat)) :: (PySem.Value.bool Bool.true) :: (PySem.Value.int 276 (0 : Nat)) :: (PySem.Value.ref (60 : Nat)) :: PySem.Value.none :: (PySem.Value.ref (61 : Nat)) :: (PySem.Value.ref (62 : Nat)) :: (PySem.Value.ref (63 : Nat)) :: (PySem.Value.int 328 (0 : Nat)) :: (PySem.Value.int 20 (0 : Nat)) :: (PySem.Value.str (PySem.Str.ofString "/claim/cut.py") (329 : Nat)) :: []))) (List.toArray []))) ::
    (nat_lit 65, x65) ::
    (nat_lit 66, (PySem.Obj.mk (PySem.Value.type "tuple") (@Option.none Nat) (PySem.Data.seq (List.toArray []) (0 : Nat)) (List.toArray []))) ::
    (nat_lit 68, (PySem.Obj.mk (PySem.Value.type "tuple") (@Option.none Nat) (PySem.Data.seq (List.toArray [(PySem.Value.str (PySem.Str.ofString "data") (336 : Nat)), (PySem.Value.str (PySem.Str.ofString "t") (337 : Nat))]) (0 : Nat)) (List.toArray []))) ::
    (nat_lit 69, (PySem.Obj.mk (PySem.Value.type "tuple") (@Option.none Nat) (PySem.Data.seq (List.toArray []) (0 : Nat)) (List.toArray []))) ::
    (nat_lit 71, (PySem.Obj.mk (PySem.Value.type "code") (@Option.none Nat) (PySem.Data.fields (List.toArray ((PySem.Value.str (PySem.Str.ofString "_buffer") (333 : Nat)) :: (PySem.Value.str (PySem.Str.ofString "_buffer") (334 : Nat)) :: (PySem.Value.str (PySem.Str.ofString "/claim/cut.py") (335 : Nat)) :: (PySem.Value.int 33 (0 : Nat)) :: (PySem.Value.int 1 (0 : Nat)) :: (PySem.Value.int 0 (0 : Nat)) :: (PySem.Value.int 0 (0 : Nat)) :: (PySem.Value.int 3 (0 : Nat)) :: (PySem.Value.ref (66 : Nat)) :: (PySem.Value.bool Bool.true) :: (PySem.Value.int 276 (0 : Nat)) :: (PySem.Value.ref (67 : Nat)) :: PySem.Value.none :: (PySem.Value.ref (68 : Nat)) :: (PySem.Value.ref (69 : Nat)) :: (PySem.Value.ref (70 : Nat)) :: (PySem.Value.int 338 (0 : Nat)) :: (PySem.Value.int 33 (0 : Nat)) :: (PySem.Value.str (PySem.Str.ofString "/claim/cut.py") (339 : Nat)) :: []))) (List.toArray []))) ::
    (nat_lit 72, x72) ::
    (nat_lit 73, (PySem.Obj.mk (PySem.Value.type "tuple") (@Option.none Nat) (PySem.Data.seq (List.toArray []) (0 : Nat)) (List.toArray []))) ::
    (nat_lit 75, (PySem.Obj.mk (PySem.Value.type "tuple") (@Option.none Nat) (PySem.Data.seq (List.toArray [(PySem.Value.str (PySem.Str.ofString "x") (344 : Nat)), (PySem.Value.str (PySem.Str.ofString "t") (345 : Nat))]) (0 : Nat)) (List.toArray []))) ::
    (nat_lit 76, (PySem.Obj.mk (PySem.Value.type "tuple") (@Option.none Nat) (PySem.Data.seq (List.toArray []) (0 : Nat)) (List.toArray []))) ::
    (nat_lit 78, (PySem.Obj.mk (PySem.Value.type "code") (@Option.none Nat) (PySem.Data.fields (List.toArray ((PySem.Value.str (PySem.Str.ofString "_truth") (341 : Nat)) :: (PySem.Value.str (PySem.Str.ofString "_truth") (342 : Nat)) :: (PySem.Value.str (PySem.Str.ofString "/claim/cut.py") (343 : Nat)) :: (PySem.Value.int 40 (0 : Nat)) :: (PySem.Value.int 1 (0 : Nat)) :: (PySem.Value.int 0 (0 : Nat)) :: (PySem.Value.int 0 (0 : Nat)) :: (PySem.Value.int 3 (0 : Nat)) :: (PySem.Value.ref (73 : Nat)) :: (PySem.Value.bool Bool.true) :: (PySem.Value.int 276 (0 : Nat)) :: (PySem.Value.ref (74 : Nat)) :: PySem.Value.none :: (PySem.Value.ref (75 : Nat)) :: (PySem.Value.ref (76 : Nat)) :: (PySem.Value.ref (77 : Nat)) :: (PySem.Value.int 346 (0 : Nat)) :: (PySem.Value.int 40 (0 : Nat)) :: (PySem.Value.str (PySem.Str.ofString "/claim/cut.py") (347 : Nat)) :: []))) (List.toArray []))) ::
    (nat_lit 79, x79) ::
    (nat_lit 80, (PySem.Obj.mk (PySem.Value.type "dict") (@Option.none Nat) (PySem.Data.dict (List.toArray [(PySem.DictEntry.mk (PySem.PyData.keyHash P (PySem.Str.ofString "newline")) (PySem.Value.str (PySem.Str.ofString "newline") (351 : Nat)) (PySem.Value.bool Bool.true))]) (1 : Nat)) (List.toArray []))) ::
    (nat_lit 81, (PySem.Obj.mk (PySem.Value.type "tuple") (@Option.none Nat) (PySem.Data.seq (List.toArray []) (0 : Nat)) (List.toArray []))) ::
    (nat_lit 83, (PySem.Obj.mk (PySem.Value.type "tuple") (@Option.none Nat) (PySem.Data.seq (List.toArray [(PySem.Value.str (PySem.Str.ofString "data") (355 : Nat)), (PySem.Value.str (PySem.Str.ofString "newline") (356 : Nat)), (PySem.Value.str (PySem.Str.ofString "bin_data") (357 : Nat)), (PySem.Value.str (PySem.Str.ofString "out") (358 : Nat)), (PySem.Value.str (PySem.Str.ofString "leftbits") (359 : Nat)), (PySem.Value.str (PySem.Str.ofString "leftchar") (360 : Nat)), (PySem.Value.str (PySem.Str.ofString "b") (361 : Nat))]) (0 : Nat)) (List.toArray []))) ::
    (nat_lit 84, (PySem.Obj.mk (PySem.Value.type "tuple") (@Option.none Nat) (PySem.Data.seq (List.toArray []) (0 : Nat)) (List.toArray []))) ::
    (nat_lit 86, (PySem.Obj.mk (PySem.Value.type "code") (@Option.none Nat) (PySem.Data.fields (List.toArray ((PySem.Value.str (PySem.Str.ofString "b2a_base64") (352 : Nat)) :: (PySem.Value.str (PySem.Str.ofString "b2a_base64") (353 : Nat)) :: (PySem.Value.str (PySem.Str.ofString "/claim/cut.py") (354 : Nat)) :: (PySem.Value.int 46 (0 : Nat)) :: (PySem.Value.int 1 (0 : Nat)) :: (PySem.Value.int 1 (0 : Nat)) :: (PySem.Value.int 1 (0 : Nat)) :: (PySem.Value.int 3 (0 : Nat)) :: (PySem.Value.ref (81 : Nat)) :: (PySem.Value.bool Bool.true) :: (PySem.Value.int 276 (0 : Nat)) :: (PySem.Value.ref (82 : Nat)) :: PySem.Value.none :: (PySem.Value.ref (83 : Nat)) :: (PySem.Value.ref (84 : Nat)) :: (PySem.Value.ref (85 : Nat)) :: (PySem.Value.int 362 (0 : Nat)) :: (PySem.Value.int 46 (0 : Nat)) :: (PySem.Value.str (PySem.Str.ofString "/claim/cut.py") (363 : Nat)) :: []))) (List.toArray []))) ::
    (nat_lit 87, x87) ::
    (nat_lit 88, (PySem.Obj.mk (PySem.Value.type "object") (@Option.none Nat) PySem.Data.plain (List.toArray []))) ::
    (nat_lit 89, (PySem.Obj.mk (PySem.Value.type "tuple") (@Option.none Nat) (PySem.Data.seq (List.toArray [(PySem.Value.ref (88 : Nat)), (PySem.Value.int 1 (366 : Nat))]) (0 : Nat)) (List.toArray []))) ::
    (nat_lit 90, (PySem.Obj.mk (PySem.Value.type "tuple") (@Option.none Nat) (PySem.Data.seq (List.toArray []) (0 : Nat)) (List.toArray []))) ::
    (nat_lit 92, (PySem.Obj.mk (PySem.Value.type "tuple") (@Option.none Nat) (PySem.Data.seq (List.toArray [(PySem.Value.str (PySem.Str.ofString "data") (370 : Nat)), (PySem.Value.str (PySem.Str.ofString "sep") (371 : Nat)), (PySem.Value.str (PySem.Str.ofString "bytes_per_sep") (372 : Nat)), (PySem.Value.str (PySem.Str.ofString "t") (373 : Nat))]) (0 : Nat)) (List.toArray []))) ::
    (nat_lit 93, (PySem.Obj.mk (PySem.Value.type "tuple") (@Option.none Nat) (PySem.Data.seq (List.toArray []) (0 : Nat)) (List.toArray []))) ::
    (nat_lit 95, (PySem.Obj.mk (PySem.Value.type "code") (@Option.none Nat) (PySem.Data.fields (List.toArray ((PySem.Value.str (PySem.Str.ofString "b2a_hex") (367 : Nat)) :: (PySem.Value.str (PySem.Str.ofString "b2a_hex") (368 : Nat)) :: (PySem.Value.str (PySem.Str.ofString "/claim/cut.py") (369 : Nat)) :: (PySem.Value.int 69 (0 : Nat)) :: (PySem.Value.int 3 (0 : Nat)) :: (PySem.Value.int 0 (0 : Nat)) :: (PySem.Value.int 0 (0 : Nat)) :: (PySem.Value.int 3 (0 : Nat)) :: (PySem.Value.ref (90 : Nat)) :: (PySem.Value.bool Bool.true) :: (PySem.Value.int 276 (0 : Nat)) :: (PySem.Value.ref (91 : Nat)) :: PySem.Value.none :: (PySem.Value.ref (92 : Nat)) :: (PySem.Value.ref (93 : Nat)) :: (PySem.Value.ref (94 : Nat)) :: (PySem.Value.int 374 (0 : Nat)) :: (PySem.Value.int 69 (0 : Nat)) :: (PySem.Value.str (PySem.Str.ofString "/claim/cut.py") (375 : Nat)) :: []))) (List.toArray []))) ::
    (nat_lit 96, x96) ::
    (nat_lit 97, (PySem.Obj.mk (PySem.Value.type "tuple") (@Option.none Nat) (PySem.Data.seq (List.toArray [PySem.Value.none]) (0 : Nat)) (List.toArray []))) ::
    (nat_lit 98, (PySem.Obj.mk (PySem.Value.type "tuple") (@Option.none Nat) (PySem.Data.seq (List.toArray []) (0 : Nat)) (List.toArray []))) ::
    (nat_lit 100, (PySem.Obj.mk (PySem.Value.type "tuple") (@Option.none Nat) (PySem.Data.seq (List.toArray [(PySem.Value.str (PySem.Str.ofString "s") (383 : Nat)), (PySem.Value.str (PySem.Str.ofString "altchars") (384 : Nat)), (PySem.Value.str (PySem.Str.ofString "encoded") (385 : Nat))]) (0 : Nat)) (List.toArray []))) ::
    (nat_lit 101, (PySem.Obj.mk (PySem.Value.type "tuple") (@Option.none Nat) (PySem.Data.seq (List.toArray []) (0 : Nat)) (List.toArray []))) ::
    (nat_lit 103, (PySem.Obj.mk (PySem.Value.type "code") (@Option.none Nat) (PySem.Data.fields (List.toArray ((PySem.Value.str (PySem.Str.ofString "b64encode") (380 : Nat)) :: (PySem.Value.str (PySem.Str.ofString "b64encode") (381 : Nat)) :: (PySem.Value.str (PySem.Str.ofString "/claim/cut.py") (382 : Nat)) :: (PySem.Value.int 87 (0 : Nat)) :: (PySem.Value.int 2 (0 : Nat)) :: (PySem.Value.int 0 (0 : Nat)) :: (PySem.Value.int 0 (0 : Nat)) :: (PySem.Value.int 3 (0 : Nat)) :: (PySem.Value.ref (98 : Nat)) :: (PySem.Value.bool Bool.true) :: (PySem.Value.int 276 (0 : Nat)) :: (PySem.Value.ref (99 : Nat)) :: PySem.Value.none :: (PySem.Value.ref (100 : Nat)) :: (PySem.Value.ref (101 : Nat)) :: (PySem.Value.ref (102 : Nat)) :: (PySem.Value.int 386 (0 : Nat)) :: (PySem.Value.int 87 (0 : Nat)) :: (PySem.Value.str (PySem.Str.ofString "/claim/cut.py") (387 : Nat)) :: []))) (List.toArray []))) ::
    (nat_lit 104, x104) ::
    (nat_lit 105, (PySem.Obj.mk (PySem.Value.type "tuple") (@Option.none Nat) (PySem.Data.seq (List.toArray []) (0 : Nat)) (List.toArray []))) ::
    (nat_lit 107, (PySem.Obj.mk (PySem.Value.type "tuple") (@Option.none Nat) (PySem.Data.seq (List.toArray [(PySem.Value.str (PySem.Str.ofString "s") (392 : Nat))]) (0 : Nat)) (List.toArray []))) ::
    (nat_lit 108, (PySem.Obj.mk (PySem.Value.type "tuple") (@Option.none Nat) (PySem.Data.seq (List.toArray []) (0 : Nat)) (List.toArray []))) ::
    (nat_lit 110, (PySem.Obj.mk (PySem.Value.type "code") (@Option.none Nat) (PySem.Data.fields (List.toArray ((PySem.Value.str (PySem.Str.ofString "b16encode") (389 : Nat)) :: (PySem.Value.str (PySem.Str.ofString "b16encode") (390 : Nat)) :: (PySem.Value.str (PySem.Str.ofString "/claim/cut.py") (391 : Nat)) :: (PySem.Value.int 93 (0 : Nat)) :: (PySem.Value.int 1 (0 : Nat)) :: (PySem.Value.int 0 (0 : Nat)) :: (PySem.Value.int 0 (0 : Nat)) :: (PySem.Value.int 3 (0 : Nat)) :: (PySem.Value.ref (105 : Nat)) :: (PySem.Value.bool Bool.true) :: (PySem.Value.int 276 (0 : Nat)) :: (PySem.Value.ref (106 : Nat)) :: PySem.Value.none :: (PySem.Value.ref (107 : Nat)) :: (PySem.Value.ref (108 : Nat)) :: (PySem.Value.ref (109 : Nat)) :: (PySem.Value.int 393 (0 : Nat)) :: (PySem.Value.int 93 (0 : Nat)) :: (PySem.Value.str (PySem.Str.ofString "/claim/cut.py") (394 : Nat)) :: []))) (List.toArray []))) ::
    (nat_lit 111, x111) ::
    (nat_lit 115, (PySem.Obj.mk (PySem.Value.type "tuple") (@Option.none Nat) (PySem.Data.seq (List.toArray ((PySem.Value.int 14 (0 : Nat)) :: (PySem.Value.int 14 (0 : Nat)) :: (PySem.Value.int 4 (0 : Nat)) :: (PySem.Value.int 1 (0 : Nat)) :: (PySem.Value.int 1 (0 : Nat)) :: (PySem.Value.int 9 (0 : Nat)) :: (PySem.Value.int 0 (0 : Nat)) :: (PySem.Value.int 64 (0 : Nat)) :: (PySem.Value.int 0 (0 : Nat)) :: (PySem.Value.int 1342177280 (0 : Nat)) :: (PySem.Value.int 0 (0 : Nat)) :: (PySem.Value.int 0 (0 : Nat)) :: (PySem.Value.int 0 (0 : Nat)) :: (PySem.Value.int 0 (0 : Nat)) :: (PySem.Value.int 0 (0 : Nat)) :: (PySem.Value.int 17 (0 : Nat)) :: (PySem.Value.int 0 (0 : Nat)) :: (PySem.Value.int 13 (0 : Nat)) :: (PySem.Value.int 11 (0 : Nat)) :: (PySem.Value.int 9 (0 : Nat)) :: (PySem.Value.int 0 (0 : Nat)) :: (PySem.Value.int 64 (0 : Nat)) :: (PySem.Value.int 0 (0 : Nat)) :: (PySem.Value.int 1342177280 (0 : Nat)) :: (PySem.Value.int 0 (0 : Nat)) :: (PySem.Value.int 0 (0 : Nat)) :: (PySem.Value.int 0 (0 : Nat)) :: (PySem.Value.int 0 (0 : Nat)) :: (PySem.Value.int 0 (0 : Nat)) :: (PySem.Value.int 17 (0 : Nat)) :: (PySem.Value.int 1 (0 : Nat)) :: (PySem.Value.int 1 (0 : Nat)) :: [])) (0 : Nat)) (List.toArray []))) ::
    (nat_lit 116, (PySem.Obj.mk (PySem.Value.type "re.Pattern") (@Option.none Nat) (PySem.Data.fields (List.toArray [(PySem.Value.str (PySem.Str.ofString "([&~|])") (399 : Nat)), (PySem.Value.int 32 (434 : Nat)), (PySem.Value.int 1 (0 : Nat)), PySem.Value.none, PySem.Value.none, (PySem.Value.ref (115 : Nat)), (PySem.Value.int 0 (0 : Nat))])) (List.toArray []))) ::
    (nat_lit 117, (PySem.Obj.mk (PySem.Value.type "tuple") (@Option.none Nat) (PySem.Data.seq (List.toArray []) (0 : Nat)) (List.toArray []))) ::
    (nat_lit 119, (PySem.Obj.mk (PySem.Value.type "tuple") (@Option.none Nat) (PySem.Data.seq (List.toArray [(PySem.Value.str (PySem.Str.ofString "pat") (439 : Nat)), (PySem.Value.str (PySem.Str.ofString "STAR") (440 : Nat)), (PySem.Value.str (PySem.Str.ofString "parts") (441 : Nat))]) (0 : Nat)) (List.toArray []))) ::
    (nat_lit 120, (PySem.Obj.mk (PySem.Value.type "tuple") (@Option.none Nat) (PySem.Data.seq (List.toArray []) (0 : Nat)) (List.toArray []))) ::
    (nat_lit 122, (PySem.Obj.mk (PySem.Value.type "code") (@Option.none Nat) (PySem.Data.fields (List.toArray ((PySem.Value.str (PySem.Str.ofString "translate") (436 : Nat)) :: (PySem.Value.str (PySem.Str.ofString "translate") (437 : Nat)) :: (PySem.Value.str (PySem.Str.ofString "/claim/cut.py") (438 : Nat)) :: (PySem.Value.int 97 (0 : Nat)) :: (PySem.Value.int 1 (0 : Nat)) :: (PySem.Value.int 0 (0 : Nat)) :: (PySem.Value.int 0 (0 : Nat)) :: (PySem.Value.int 3 (0 : Nat)) :: (PySem.Value.ref (117 : Nat)) :: (PySem.Value.bool Bool.true) :: (PySem.Value.int 276 (0 : Nat)) :: (PySem.Value.ref (118 : Nat)) :: PySem.Value.none :: (PySem.Value.ref (119 : Nat)) :: (PySem.Value.ref (120 : Nat)) :: (PySem.Value.ref (121 : Nat)) :: (PySem.Value.int 442 (0 : Nat)) :: (PySem.Value.int 97 (0 : Nat)) :: (PySem.Value.str (PySem.Str.ofString "/claim/cut.py") (443 : Nat)) :: []))) (List.toArray []))) ::
    (nat_lit 123, x123) ::
    (nat_lit 125, (PySem.Obj.mk (PySem.Value.type "dict") (@Option.none Nat) (PySem.Data.dict (List.toArray ((PySem.DictEntry.mk 40 (PySem.Value.int 40 (448 : Nat)) (PySem.Value.str (PySem.Str.ofString "\\(") (452 : Nat))) :: (PySem.DictEntry.mk 41 (PySem.Value.int 41 (454 : Nat)) (PySem.Value.str (PySem.Str.ofString "\\)") (458 : Nat))) :: (PySem.DictEntry.mk 91 (PySem.Value.int 91 (460 : Nat)) (PySem.Value.str (PySem.Str.ofString "\\[") (464 : Nat))) :: (PySem.DictEntry.mk 93 (PySem.Value.int 93 (466 : Nat)) (PySem.Value.str (PySem.Str.ofString "\\]") (470 : Nat))) :: (PySem.DictEntry.mk 123 (PySem.Value.int 123 (472 : Nat)) (PySem.Value.str (PySem.Str.ofString "\\{") (476 : Nat))) :: (PySem.DictEntry.mk 125 (PySem.Value.int 125 (478 : Nat)) (PySem.Value.str (PySem.Str.ofString "\\}") (482 : Nat))) :: (PySem.DictEntry.mk 63 (PySem.Value.int 63 (484 : Nat)) (PySem.Value.str (PySem.Str.ofString "\\?") (488 : Nat))) :: (PySem.DictEntry.mk 42 (PySem.Value.int 42 (490 : Nat)) (PySem.Value.str (PySem.Str.ofString "\\*") (494 : Nat))) :: (PySem.DictEntry.mk 43 (PySem.Value.int 43 (496 : Nat)) (PySem.Value.str (PySem.Str.ofString "\\+") (500 : Nat))) :: (PySem.DictEntry.mk 45 (PySem.Value.int 45 (502 : Nat)) (PySem.Value.str (PySem.Str.ofString "\\-") (506 : Nat))) :: (PySem.DictEntry.mk 124 (PySem.Value.int 124 (508 : Nat)) (PySem.Value.str (PySem.Str.ofString "\\|") (512 : Nat))) :: (PySem.DictEntry.mk 94 (PySem.Value.int 94 (514 : Nat)) (PySem.Value.str (PySem.Str.ofString "\\^") (518 : Nat))) :: (PySem.DictEntry.mk 36 (PySem.Value.int 36 (520 : Nat)) (PySem.Value.str (PySem.Str.ofString "\\$") (524 : Nat))) :: (PySem.DictEntry.mk 92 (PySem.Value.int 92 (526 : Nat)) (PySem.Value.str (PySem.Str.ofString "\\\\") (530 : Nat))) :: (PySem.DictEntry.mk 46 (PySem.Value.int 46 (532 : Nat)) (PySem.Value.str (PySem.Str.ofString "\\.") (536 : Nat))) :: (PySem.DictEntry.mk 38 (PySem.Value.int 38 (538 : Nat)) (PySem.Value.str (PySem.Str.ofString "\\&") (542 : Nat))) :: (PySem.DictEntry.mk 126 (PySem.Value.int 126 (544 : Nat)) (PySem.Value.str (PySem.Str.ofString "\\~") (548 : Nat))) :: (PySem.DictEntry.mk 35 (PySem.Value.int 35 (550 : Nat)) (PySem.Value.str (PySem.Str.ofString "\\#") (554 : Nat))) :: (PySem.DictEntry.mk 32 (PySem.Value.int 32 (556 : Nat)) (PySem.Value.str (PySem.Str.ofString "\\ ") (560 : Nat))) :: (PySem.DictEntry.mk 9 (PySem.Value.int 9 (562 : Nat)) (PySem.Value.str (PySem.Str.ofString "\\\x09") (566 : Nat))) :: (PySem.DictEntry.mk 10 (PySem.Value.int 10 (568 : Nat)) (PySem.Value.str (PySem.Str.ofString "\\\x0a") (572 : Nat))) :: (PySem.DictEntry.mk 13 (PySem.Value.int 13 (574 : Nat)) (PySem.Value.str (PySem.Str.ofString "\\\x0d") (578 : Nat))) :: (PySem.DictEntry.mk 11 (PySem.Value.int 11 (580 : Nat)) (PySem.Value.str (PySem.Str.ofString "\\\x0b") (584 : Nat))) :: (PySem.DictEntry.mk 12 (PySem.Value.int 12 (586 : Nat)) (PySem.Value.str (PySem.Str.ofString "\\\x0c") (590 : Nat))) :: [])) (24 : Nat)) (List.toArray []))) ::
    (nat_lit 129, (PySem.Obj.mk (PySem.Value.type "tuple") (@Option.none Nat) (PySem.Data.seq (List.toArray []) (0 : Nat)) (List.toArray []))) ::
    (nat_lit 131, (PySem.Obj.mk (PySem.Value.type "tuple") (@Option.none Nat) (PySem.Data.seq (List.toArray [(PySem.Value.str (PySem.Str.ofString "pattern") (596 : Nat))]) (0 : Nat)) (List.toArray []))) ::
    (nat_lit 132, (PySem.Obj.mk (PySem.Value.type "tuple") (@Option.none Nat) (PySem.Data.seq (List.toArray []) (0 : Nat)) (List.toArray []))) ::
    (nat_lit 134, (PySem.Obj.mk (PySem.Value.type "code") (@Option.none Nat) (PySem.Data.fields (List.toArray ((PySem.Value.str (PySem.Str.ofString "escape") (593 : Nat)) :: (PySem.Value.str (PySem.Str.ofString "escape") (594 : Nat)) :: (PySem.Value.str (PySem.Str.ofString "/claim/cut.py") (595 : Nat)) :: (PySem.Value.int 103 (0 : Nat)) :: (PySem.Value.int 1 (0 : Nat)) :: (PySem.Value.int 0 (0 : Nat)) :: (PySem.Value.int 0 (0 : Nat)) :: (PySem.Value.int 3 (0 : Nat)) :: (PySem.Value.ref (129 : Nat)) :: (PySem.Value.bool Bool.true) :: (PySem.Value.int 276 (0 : Nat)) :: (PySem.Value.ref (130 : Nat)) :: PySem.Value.none :: (PySem.Value.ref (131 : Nat)) :: (PySem.Value.ref (132 : Nat)) :: (PySem.Value.ref (133 : Nat)) :: (PySem.Value.int 597 (0 : Nat)) :: (PySem.Value.int 103 (0 : Nat)) :: (PySem.Value.str (PySem.Str.ofString "/claim/cut.py") (598 : Nat)) :: []))) (List.toArray []))) ::
    (nat_lit 135, x135) ::
    (nat_lit 136, (PySem.Obj.mk (PySem.Value.type "tuple") (@Option.none Nat) (PySem.Data.seq (List.toArray []) (0 : Nat)) (List.toArray []))) ::
    (nat_lit 138, (PySem.Obj.mk (PySem.Value.type "tuple") (@Option.none Nat) (PySem.Data.seq (List.toArray ((PySem.Value.str (PySem.Str.ofString "pat") (605 : Nat)) :: (PySem.Value.str (PySem.Str.ofString "STAR") (606 : Nat)) :: (PySem.Value.str (PySem.Str.ofString "QUESTION_MARK") (607 : Nat)) :: (PySem.Value.str (PySem.Str.ofString "res") (608 : Nat)) :: (PySem.Value.str (PySem.Str.ofString "add") (609 : Nat)) :: (PySem.Value.str (PySem.Str.ofString "i") (610 : Nat)) :: (PySem.Value.str (PySem.Str.ofString "n") (611 : Nat)) :: (PySem.Value.str (PySem.Str.ofString "c") (612 : Nat)) :: (PySem.Value.str (PySem.Str.ofString "j") (613 : Nat)) :: (PySem.Value.str (PySem.Str.ofString "stuff") (614 : Nat)) :: (PySem.Value.str (PySem.Str.ofString "chunks") (615 : Nat)) :: (PySem.Value.str (PySem.Str.ofString "k") (616 : Nat)) :: (PySem.Value.str (PySem.Str.ofString "chunk") (617 : Nat)) :: [])) (0 : Nat)) (List.toArray []))) ::
    (nat_lit 139, (PySem.Obj.mk (PySem.Value.type "tuple") (@Option.none Nat) (PySem.Data.seq (List.toArray []) (0 : Nat)) (List.toArray []))) ::
    (nat_lit 141, (PySem.Obj.mk (PySem.Value.type "code") (@Option.none Nat) (PySem.Data.fields (List.toArray ((PySem.Value.str (PySem.Str.ofString "_translate") (602 : Nat)) :: (PySem.Value.str (PySem.Str.ofString "_translate") (603 : Nat)) :: (PySem.Value.str (PySem.Str.ofString "/claim/cut.py") (604 : Nat)) :: (PySem.Value.int 110 (0 : Nat)) :: (PySem.Value.int 3 (0 : Nat)) :: (PySem.Value.int 0 (0 : Nat)) :: (PySem.Value.int 0 (0 : Nat)) :: (PySem.Value.int 3 (0 : Nat)) :: (PySem.Value.ref (136 : Nat)) :: (PySem.Value.bool Bool.true) :: (PySem.Value.int 276 (0 : Nat)) :: (PySem.Value.ref (137 : Nat)) :: PySem.Value.none :: (PySem.Value.ref (138 : Nat)) :: (PySem.Value.ref (139 : Nat)) :: (PySem.Value.ref (140 : Nat)) :: (PySem.Value.int 618 (0 : Nat)) :: (PySem.Value.int 110 (0 : Nat)) :: (PySem.Value.str (PySem.Str.ofString "/claim/cut.py") (619 : Nat)) :: []))) (List.toArray []))) ::
    (nat_lit 142, x142) ::
    (nat_lit 143, (PySem.Obj.mk (PySem.Value.type "tuple") (@Option.none Nat) (PySem.Data.seq (List.toArray []) (0 : Nat)) (List.toArray []))) ::
    (nat_lit 145, (PySem.Obj.mk (PySem.Value.type "tuple") (@Option.none Nat) (PySem.Data.seq (List.toArray [(PySem.Value.str (PySem.Str.ofString "inp") (624 : Nat)), (PySem.Value.str (PySem.Str.ofString "STAR") (625 : Nat)), (PySem.Value.str (PySem.Str.ofString "res") (626 : Nat)), (PySem.Value.str (PySem.Str.ofString "add") (627 : Nat)), (PySem.Value.str (PySem.Str.ofString "i") (628 : Nat)), (PySem.Value.str (PySem.Str.ofString "n") (629 : Nat)), (PySem.Value.str (PySem.Str.ofString "fixed") (630 : Nat))]) (0 : Nat)) (List.toArray []))) ::
    (nat_lit 146, (PySem.Obj.mk (PySem.Value.type "tuple") (@Option.none Nat) (PySem.Data.seq (List.toArray []) (0 : Nat)) (List.toArray []))) ::
    (nat_lit 148, (PySem.Obj.mk (PySem.Value.type "code") (@Option.none Nat) (PySem.Data.fields (List.toArray ((PySem.Value.str (PySem.Str.ofString "_join_translated_parts") (621 : Nat)) :: (PySem.Value.str (PySem.Str.ofString "_join_translated_parts") (622 : Nat)) :: (PySem.Value.str (PySem.Str.ofString "/claim/cut.py") (623 : Nat)) :: (PySem.Value.int 172 (0 : Nat)) :: (PySem.Value.int 2 (0 : Nat)) :: (PySem.Value.int 0 (0 : Nat)) :: (PySem.Value.int 0 (0 : Nat)) :: (PySem.Value.int 3 (0 : Nat)) :: (PySem.Value.ref (143 : Nat)) :: (PySem.Value.bool Bool.true) :: (PySem.Value.int 276 (0 : Nat)) :: (PySem.Value.ref (144 : Nat)) :: PySem.Value.none :: (PySem.Value.ref (145 : Nat)) :: (PySem.Value.ref (146 : Nat)) :: (PySem.Value.ref (147 : Nat)) :: (PySem.Value.int 631 (0 : Nat)) :: (PySem.Value.int 172 (0 : Nat)) :: (PySem.Value.str (PySem.Str.ofString "/claim/cut.py") (632 : Nat)) :: []))) (List.toArray []))) ::
    (nat_lit 149, x149) ::
    (nat_lit 150, (PySem.Obj.mk (PySem.Value.type "tuple") (@Option.none Nat) (PySem.Data.seq (List.toArray []) (0 : Nat)) (List.toArray []))) ::
    (nat_lit 152, (PySem.Obj.mk (PySem.Value.type "tuple") (@Option.none Nat) (PySem.Data.seq (List.toArray [(PySem.Value.str (PySem.Str.ofString "ring") (639 : Nat)), (PySem.Value.str (PySem.Str.ofString "k") (640 : Nat))]) (0 : Nat)) (List.toArray []))) ::
    (nat_lit 153, (PySem.Obj.mk (PySem.Value.type "tuple") (@Option.none Nat) (PySem.Data.seq (List.toArray []) (0 : Nat)) (List.toArray []))) ::
    (nat_lit 155, (PySem.Obj.mk (PySem.Value.type "code") (@Option.none Nat) (PySem.Data.fields (List.toArray ((PySem.Value.str (PySem.Str.ofString "_law_turned") (636 : Nat)) :: (PySem.Value.str (PySem.Str.ofString "_law_turned") (637 : Nat)) :: (PySem.Value.str (PySem.Str.ofString "/claim/cut.py") (638 : Nat)) :: (PySem.Value.int 200 (0 : Nat)) :: (PySem.Value.int 2 (0 : Nat)) :: (PySem.Value.int 0 (0 : Nat)) :: (PySem.Value.int 0 (0 : Nat)) :: (PySem.Value.int 3 (0 : Nat)) :: (PySem.Value.ref (150 : Nat)) :: (PySem.Value.bool Bool.true) :: (PySem.Value.int 276 (0 : Nat)) :: (PySem.Value.ref (151 : Nat)) :: PySem.Value.none :: (PySem.Value.ref (152 : Nat)) :: (PySem.Value.ref (153 : Nat)) :: (PySem.Value.ref (154 : Nat)) :: (PySem.Value.int 641 (0 : Nat)) :: (PySem.Value.int 200 (0 : Nat)) :: (PySem.Value.str (PySem.Str.ofString "/claim/cut.py") (642 : Nat)) :: []))) (List.toArray []))) ::
    (nat_lit 156, x156) ::
    (nat_lit 157, (PySem.Obj.mk (PySem.Value.type "tuple") (@Option.none Nat) (PySem.Data.seq (List.toArray []) (0 : Nat)) (List.toArray []))) ::
    (nat_lit 160, (PySem.Obj.mk (PySem.Value.type "code") (@Option.none Nat) (PySem.Data.fields (List.toArray ((PySem.Value.str (PySem.Str.ofString "_law_written") (644 : Nat)) :: (PySem.Value.str (PySem.Str.ofString "_law_written") (645 : Nat)) :: (PySem.Value.str (PySem.Str.ofString "/claim/cut.py") (646 : Nat)) :: (PySem.Value.int 202 (0 : Nat)) :: (PySem.Value.int 1 (0 : Nat)) :: (PySem.Value.int 0 (0 : Nat)) :: (PySem.Value.int 0 (0 : Nat)) :: (PySem.Value.int 3 (0 : Nat)) :: (PySem.Value.ref (157 : Nat)) :: (PySem.Value.bool Bool.true) :: (PySem.Value.int 276 (0 : Nat)) :: (PySem.Value.ref (158 : Nat)) :: PySem.Value.none :: PySem.Value.none :: PySem.Value.none :: (PySem.Value.ref (159 : Nat)) :: (PySem.Value.int 647 (0 : Nat)) :: (PySem.Value.int 202 (0 : Nat)) :: (PySem.Value.str (PySem.Str.ofString "/claim/cut.py") (648 : Nat)) :: []))) (List.toArray []))) ::
    (nat_lit 161, x161) ::
    (nat_lit 162, (PySem.Obj.mk (PySem.Value.type "tuple") (@Option.none Nat) (PySem.Data.seq (List.toArray []) (0 : Nat)) (List.toArray []))) ::
    (nat_lit 164, (PySem.Obj.mk (PySem.Value.type "tuple") (@Option.none Nat) (PySem.Data.seq (List.toArray [(PySem.Value.str (PySem.Str.ofString "text") (653 : Nat)), (PySem.Value.str (PySem.Str.ofString "sought") (654 : Nat)), (PySem.Value.str (PySem.Str.ofString "barred") (655 : Nat)), (PySem.Value.str (PySem.Str.ofString "found") (656 : Nat)), (PySem.Value.str (PySem.Str.ofString "pos") (657 : Nat))]) (0 : Nat)) (List.toArray []))) ::
    (nat_lit 165, (PySem.Obj.mk (PySem.Value.type "tuple") (@Option.none Nat) (PySem.Data.seq (List.toArray []) (0 : Nat)) (List.toArray []))) ::
    (nat_lit 167, (PySem.Obj.mk (PySem.Value.type "code") (@Option.none Nat) (PySem.Data.fields (List.toArray ((PySem.Value.str (PySem.Str.ofString "_law_places") (650 : Nat)) :: (PySem.Value.str (PySem.Str.ofString "_law_places") (651 : Nat)) :: (PySem.Value.str (PySem.Str.ofString "/claim/cut.py") (652 : Nat)) :: (PySem.Value.int 206 (0 : Nat)) :: (PySem.Value.int 3 (0 : Nat)) :: (PySem.Value.int 0 (0 : Nat)) :: (PySem.Value.int 0 (0 : Nat)) :: (PySem.Value.int 3 (0 : Nat)) :: (PySem.Value.ref (162 : Nat)) :: (PySem.Value.bool Bool.true) :: (PySem.Value.int 276 (0 : Nat)) :: (PySem.Value.ref (163 : Nat)) :: PySem.Value.none :: (PySem.Value.ref (164 : Nat)) :: (PySem.Value.ref (165 : Nat)) :: (PySem.Value.ref (166 : Nat)) :: (PySem.Value.int 658 (0 : Nat)) :: (PySem.Value.int 206 (0 : Nat)) :: (PySem.Value.str (PySem.Str.ofString "/claim/cut.py") (659 : Nat)) :: []))) (List.toArray []))) ::
    (nat_lit 168, x168) ::
    (nat_lit 169, (PySem.Obj.mk (PySem.Value.type "tuple") (@Option.none Nat) (PySem.Data.seq (List.toArray []) (0 : Nat)) (List.toArray []))) ::
    (nat_lit 172, (PySem.Obj.mk (PySem.Value.type "code") (@Option.none Nat) (PySem.Data.fields (List.toArray ((PySem.Value.str (PySem.Str.ofString "law") (661 : Nat)) :: (PySem.Value.str (PySem.Str.ofString "law") (662 : Nat)) :: (PySem.Value.str (PySem.Str.ofString "/claim/cut.py") (663 : Nat)) :: (PySem.Value.int 216 (0 : Nat)) :: (PySem.Value.int 1 (0 : Nat)) :: (PySem.Value.int 0 (0 : Nat)) :: (PySem.Value.int 0 (0 : Nat)) :: (PySem.Value.int 3 (0 : Nat)) :: (PySem.Value.ref (169 : Nat)) :: (PySem.Value.bool Bool.true) :: (PySem.Value.int 276 (0 : Nat)) :: (PySem.Value.ref (170 : Nat)) :: PySem.Value.none :: PySem.Value.none :: PySem.Value.none :: (PySem.Value.ref (171 : Nat)) :: (PySem.Value.int 664 (0 : Nat)) :: (PySem.Value.int 216 (0 : Nat)) :: (PySem.Value.str (PySem.Str.ofString "/claim/cut.py") (665 : Nat)) :: []))) (List.toArray []))) ::
    (nat_lit 173, x173) :: []) : Frag)) ?x38 ?x58 ?x65 ?x72 ?x79 ?x87 ?x96 ?x104 ?x111 ?x123 ?x135 ?x142 ?x149 ?x156 ?x161 ?x168 ?x173 ?h38 ?h58 ?h65 ?h72 ?h79 ?h87 ?h96 ?h104 ?h111 ?h123 ?h135 ?h142 ?h149 ?h156 ?h161 ?h168 ?h173
  case h38 =>
    unfold f1
    dsimp only
    exact rfl
  case h58 =>
    unfold f4
    dsimp only
    exact rfl
  case h65 =>
    unfold f5
    dsimp only
    exact rfl
  case h72 =>
    unfold f7
    dsimp only
    exact rfl
  case h79 =>
    unfold f8
    dsimp only
    exact rfl
  case h87 =>
    unfold f10
    dsimp only
    exact rfl
  case h96 =>
    unfold f12
    dsimp only
    exact rfl
  case h104 =>
    unfold f15
    dsimp only
    exact rfl
  case h111 =>
    unfold f16
    dsimp only
    exact rfl
  case h123 =>
    unfold f19
    dsimp only
    exact rfl
  case h135 =>
    unfold f22
    dsimp only
    exact rfl
  case h142 =>
    unfold f24
    dsimp only
    exact rfl
  case h149 =>
    unfold f25
    dsimp only
    exact rfl
  case h156 =>
    unfold f27
    dsimp only
    exact rfl
  case h161 =>
    unfold f28
    dsimp only
    exact rfl
  case h168 =>
    unfold f29
    dsimp only
    exact rfl
  case h173 =>
    unfold f30
    dsimp only
    exact rfl

set_option maxHeartbeats 4000000 in
noncomputable def view : Program := by
  refine (fun (K : Program) (_ : K = { PySem.Challenge.pw_in0265_01 with main := { PySem.Challenge.pw_in0265_01.main with body := (match PySem.Challenge.pw_in0265_01.main.body with | s0 :: s1 :: s2 :: s3 :: s4 :: s5 :: s6 :: s7 :: s8 :: s9 :: s10 :: s11 :: s12 :: s13 :: s14 :: s15 :: s16 :: s17 :: s18 :: s19 :: s20 :: s21 :: s22 :: s23 :: s24 :: s25 :: s26 :: s27 :: s28 :: s29 :: s30 :: _ => [s0, s1, s3, s4, s5, s7, s8, s9, s11, s13, s16, s18, s19, s21, s22, s24, s25, s27, s28, s29, s30] | _ => []) } }) => K) ?K ?h
  case h =>
    unfold PySem.Challenge.pw_in0265_01
    dsimp only
    exact rfl
end Mine
end
section
namespace Mine
theorem fresh_Hs : True := by
  w_top off
  trivial
end Mine
open PySem PySem.W PyProof.Rows
set_option Elab.async false
set_option maxRecDepth 100000
set_option linter.unusedVariables false
namespace Mine
noncomputable def ob0 (P : Params) : Obj := (PySem.Obj.mk (PySem.Value.type "dict") (@Option.none Nat) (PySem.Data.dict (List.toArray ((PySem.DictEntry.mk (PySem.PyData.keyHash P (PySem.Str.ofString "__name__")) (PySem.Value.str (PySem.Str.ofString "__name__") (1 : Nat)) (PySem.Value.str (PySem.Str.ofString "builtins") (160 : Nat))) :: (PySem.DictEntry.mk (PySem.PyData.keyHash P (PySem.Str.ofString "__doc__")) (PySem.Value.str (PySem.Str.ofString "__doc__") (2 : Nat)) (PySem.Value.builtin "builtins.__doc__:str#opaque")) :: (PySem.DictEntry.mk (PySem.PyData.keyHash P (PySem.Str.ofString "__package__")) (PySem.Value.str (PySem.Str.ofString "__package__") (3 : Nat)) (PySem.Value.builtin "builtins.__package__:str#opaque")) :: (PySem.DictEntry.mk (PySem.PyData.keyHash P (PySem.Str.ofString "__loader__")) (PySem.Value.str (PySem.Str.ofString "__loader__") (4 : Nat)) (PySem.Value.builtin "builtins.__loader__:shared#opaque")) :: (PySem.DictEntry.mk (PySem.PyData.keyHash P (PySem.Str.ofString "__spec__")) (PySem.Value.str (PySem.Str.ofString "__spec__") (5 : Nat)) (PySem.Value.builtin "builtins.__spec__#opaque")) :: (PySem.DictEntry.mk (PySem.PyData.keyHash P (PySem.Str.ofString "__build_class__")) (PySem.Value.str (PySem.Str.ofString "__build_class__") (6 : Nat)) (PySem.Value.builtin "__build_class__")) :: (PySem.DictEntry.mk (PySem.PyData.keyHash P (PySem.Str.ofString "__import__")) (PySem.Value.str (PySem.Str.ofString "__import__") (7 : Nat)) (PySem.Value.builtin "__import__")) :: (PySem.DictEntry.mk (PySem.PyData.keyHash P (PySem.Str.ofString "abs")) (PySem.Value.str (PySem.Str.ofString "abs") (8 : Nat)) (PySem.Value.builtin "abs")) :: (PySem.DictEntry.mk (PySem.PyData.keyHash P (PySem.Str.ofString "all")) (PySem.Value.str (PySem.Str.ofString "all") (9 : Nat)) (PySem.Value.builtin "all")) :: (PySem.DictEntry.mk (PySem.PyData.keyHash P (PySem.Str.ofString "any")) (PySem.Value.str (PySem.Str.ofString "any") (10 : Nat)) (PySem.Value.builtin "any")) :: (PySem.DictEntry.mk (PySem.PyData.keyHash P (PySem.Str.ofString "ascii")) (PySem.Value.str (PySem.Str.ofString "ascii") (11 : Nat)) (PySem.Value.builtin "ascii")) :: (PySem.DictEntry.mk (PySem.PyData.keyHash P (PySem.Str.ofString "bin")) (PySem.Value.str (PySem.Str.ofString "bin") (12 : Nat)) (PySem.Value.builtin "bin")) :: (PySem.DictEntry.mk (PySem.PyData.keyHash P (PySem.Str.ofString "breakpoint")) (PySem.Value.str (PySem.Str.ofString "breakpoint") (13 : Nat)) (PySem.Value.builtin "breakpoint")) :: (PySem.DictEntry.mk (PySem.PyData.keyHash P (PySem.Str.ofString "callable")) (PySem.Value.str (PySem.Str.ofString "callable") (14 : Nat)) (PySem.Value.builtin "callable")) :: (PySem.DictEntry.mk (PySem.PyData.keyHash P (PySem.Str.ofString "chr")) (PySem.Value.str (PySem.Str.ofString "chr") (15 : Nat)) (PySem.Value.builtin "chr")) :: (PySem.DictEntry.mk (PySem.PyData.keyHash P (PySem.Str.ofString "compile")) (PySem.Value.str (PySem.Str.ofString "compile") (16 : Nat)) (PySem.Value.builtin "compile")) :: (PySem.DictEntry.mk (PySem.PyData.keyHash P (PySem.Str.ofString "delattr")) (PySem.Value.str (PySem.Str.ofString "delattr") (17 : Nat)) (PySem.Value.builtin "delattr")) :: (PySem.DictEntry.mk (PySem.PyData.keyHash P (PySem.Str.ofString "dir")) (PySem.Value.str (PySem.Str.ofString "dir") (18 : Nat)) (PySem.Value.builtin "dir")) :: (PySem.DictEntry.mk (PySem.PyData.keyHash P (PySem.Str.ofString "divmod")) (PySem.Value.str (PySem.Str.ofString "divmod") (19 : Nat)) (PySem.Value.builtin "divmod")) :: (PySem.DictEntry.mk (PySem.PyData.keyHash P (PySem.Str.ofString "eval")) (PySem.Value.str (PySem.Str.ofString "eval") (20 : Nat)) (PySem.Value.builtin "eval")) :: (PySem.DictEntry.mk (PySem.PyData.keyHash P (PySem.Str.ofString "exec")) (PySem.Value.str (PySem.Str.ofString "exec") (21 : Nat)) (PySem.Value.builtin "exec")) :: (PySem.DictEntry.mk (PySem.PyData.keyHash P (PySem.Str.ofString "format")) (PySem.Value.str (PySem.Str.ofString "format") (22 : Nat)) (PySem.Value.builtin "format")) :: (PySem.DictEntry.mk (PySem.PyData.keyHash P (PySem.Str.ofString "getattr")) (PySem.Value.str (PySem.Str.ofString "getattr") (23 : Nat)) (PySem.Value.builtin "getattr")) :: (PySem.DictEntry.mk (PySem.PyData.keyHash P (PySem.Str.ofString "globals")) (PySem.Value.str (PySem.Str.ofString "globals") (24 : Nat)) (PySem.Value.builtin "globals")) :: (PySem.DictEntry.mk (PySem.PyData.keyHash P (PySem.Str.ofString "hasattr")) (PySem.Value.str (PySem.Str.ofString "hasattr") (25 : Nat)) (PySem.Value.builtin "hasattr")) :: (PySem.DictEntry.mk (PySem.PyData.keyHash P (PySem.Str.ofString "hash")) (PySem.Value.str (PySem.Str.ofString "hash") (26 : Nat)) (PySem.Value.builtin "hash")) :: (PySem.DictEntry.mk (PySem.PyData.keyHash P (PySem.Str.ofString "hex")) (PySem.Value.str (PySem.Str.ofString "hex") (27 : Nat)) (PySem.Value.builtin "hex")) :: (PySem.DictEntry.mk (PySem.PyData.keyHash P (PySem.Str.ofString "id")) (PySem.Value.str (PySem.Str.ofString "id") (28 : Nat)) (PySem.Value.builtin "id")) :: (PySem.DictEntry.mk (PySem.PyData.keyHash P (PySem.Str.ofString "input")) (PySem.Value.str (PySem.Str.ofString "input") (29 : Nat)) (PySem.Value.builtin "input")) :: (PySem.DictEntry.mk (PySem.PyData.keyHash P (PySem.Str.ofString "isinstance")) (PySem.Value.str (PySem.Str.ofString "isinstance") (30 : Nat)) (PySem.Value.builtin "isinstance")) :: (PySem.DictEntry.mk (PySem.PyData.keyHash P (PySem.Str.ofString "issubclass")) (PySem.Value.str (PySem.Str.ofString "issubclass") (31 : Nat)) (PySem.Value.builtin "issubclass")) :: (PySem.DictEntry.mk (PySem.PyData.keyHash P (PySem.Str.ofString "iter")) (PySem.Value.str (PySem.Str.ofString "iter") (32 : Nat)) (PySem.Value.builtin "iter")) :: (PySem.DictEntry.mk (PySem.PyData.keyHash P (PySem.Str.ofString "aiter")) (PySem.Value.str (PySem.Str.ofString "aiter") (33 : Nat)) (PySem.Value.builtin "aiter")) :: (PySem.DictEntry.mk (PySem.PyData.keyHash P (PySem.Str.ofString "len")) (PySem.Value.str (PySem.Str.ofString "len") (34 : Nat)) (PySem.Value.builtin "len")) :: (PySem.DictEntry.mk (PySem.PyData.keyHash P (PySem.Str.ofString "locals")) (PySem.Value.str (PySem.Str.ofString "locals") (35 : Nat)) (PySem.Value.builtin "locals")) :: (PySem.DictEntry.mk (PySem.PyData.keyHash P (PySem.Str.ofString "max")) (PySem.Value.str (PySem.Str.ofString "max") (36 : Nat)) (PySem.Value.builtin "max")) :: (PySem.DictEntry.mk (PySem.PyData.keyHash P (PySem.Str.ofString "min")) (PySem.Value.str (PySem.Str.ofString "min") (37 : Nat)) (PySem.Value.builtin "min")) :: (PySem.DictEntry.mk (PySem.PyData.keyHash P (PySem.Str.ofString "next")) (PySem.Value.str (PySem.Str.ofString "next") (38 : Nat)) (PySem.Value.builtin "next")) :: (PySem.DictEntry.mk (PySem.PyData.keyHash P (PySem.Str.ofString "anext")) (PySem.Value.str (PySem.Str.ofString "anext") (39 : Nat)) (PySem.Value.builtin "anext")) :: (PySem.DictEntry.mk (PySem.PyData.keyHash P (PySem.Str.ofString "oct")) (PySem.Value.str (PySem.Str.ofString "oct") (40 : Nat)) (PySem.Value.builtin "oct")) :: (PySem.DictEntry.mk (PySem.PyData.keyHash P (PySem.Str.ofString "ord")) (PySem.Value.str (PySem.Str.ofString "ord") (41 : Nat)) (PySem.Value.builtin "ord")) :: (PySem.DictEntry.mk (PySem.PyData.keyHash P (PySem.Str.ofString "pow")) (PySem.Value.str (PySem.Str.ofString "pow") (42 : Nat)) (PySem.Value.builtin "pow")) :: (PySem.DictEntry.mk (PySem.PyData.keyHash P (PySem.Str.ofString "print")) (PySem.Value.str (PySem.Str.ofString "print") (43 : Nat)) (PySem.Value.builtin "print")) :: (PySem.DictEntry.mk (PySem.PyData.keyHash P (PySem.Str.ofString "repr")) (PySem.Value.str (PySem.Str.ofString "repr") (44 : Nat)) (PySem.Value.builtin "repr")) :: (PySem.DictEntry.mk (PySem.PyData.keyHash P (PySem.Str.ofString "round")) (PySem.Value.str (PySem.Str.ofString "round") (45 : Nat)) (PySem.Value.builtin "round")) :: (PySem.DictEntry.mk (PySem.PyData.keyHash P (PySem.Str.ofString "setattr")) (PySem.Value.str (PySem.Str.ofString "setattr") (46 : Nat)) (PySem.Value.builtin "setattr")) :: (PySem.DictEntry.mk (PySem.PyData.keyHash P (PySem.Str.ofString "sorted")) (PySem.Value.str (PySem.Str.ofString "sorted") (47 : Nat)) (PySem.Value.builtin "sorted")) :: (PySem.DictEntry.mk (PySem.PyData.keyHash P (PySem.Str.ofString "sum")) (PySem.Value.str (PySem.Str.ofString "sum") (48 : Nat)) (PySem.Value.builtin "sum")) :: (PySem.DictEntry.mk (PySem.PyData.keyHash P (PySem.Str.ofString "vars")) (PySem.Value.str (PySem.Str.ofString "vars") (49 : Nat)) (PySem.Value.builtin "vars")) :: (PySem.DictEntry.mk (PySem.PyData.keyHash P (PySem.Str.ofString "None")) (PySem.Value.str (PySem.Str.ofString "None") (50 : Nat)) PySem.Value.none) :: (PySem.DictEntry.mk (PySem.PyData.keyHash P (PySem.Str.ofString "Ellipsis")) (PySem.Value.str (PySem.Str.ofString "Ellipsis") (51 : Nat)) PySem.Value.ellipsis) :: (PySem.DictEntry.mk (PySem.PyData.keyHash P (PySem.Str.ofString "NotImplemented")) (PySem.Value.str (PySem.Str.ofString "NotImplemented") (52 : Nat)) PySem.Value.notImplemented) :: (PySem.DictEntry.mk (PySem.PyData.keyHash P (PySem.Str.ofString "False")) (PySem.Value.str (PySem.Str.ofString "False") (53 : Nat)) (PySem.Value.bool Bool.false)) :: (PySem.DictEntry.mk (PySem.PyData.keyHash P (PySem.Str.ofString "True")) (PySem.Value.str (PySem.Str.ofString "True") (54 : Nat)) (PySem.Value.bool Bool.true)) :: (PySem.DictEntry.mk (PySem.PyData.keyHash P (PySem.Str.ofString "bool")) (PySem.Value.str (PySem.Str.ofString "bool") (55 : Nat)) (PySem.Value.type "bool")) :: (PySem.DictEntry.mk (PySem.PyData.keyHash P (PySem.Str.ofString "memoryview")) (PySem.Value.str (PySem.Str.ofString "memoryview") (56 : Nat)) (PySem.Value.type "memoryview")) :: (PySem.DictEntry.mk (PySem.PyData.keyHash P (PySem.Str.ofString "bytearray")) (PySem.Value.str (PySem.Str.ofString "bytearray") (57 : Nat)) (PySem.Value.type "bytearray")) :: (PySem.DictEntry.mk (PySem.PyData.keyHash P (PySem.Str.ofString "bytes")) (PySem.Value.str (PySem.Str.ofString "bytes") (58 : Nat)) (PySem.Value.type "bytes")) :: (PySem.DictEntry.mk (PySem.PyData.keyHash P (PySem.Str.ofString "classmethod")) (PySem.Value.str (PySem.Str.ofString "classmethod") (59 : Nat)) (PySem.Value.type "classmethod")) :: (PySem.DictEntry.mk (PySem.PyData.keyHash P (PySem.Str.ofString "complex")) (PySem.Value.str (PySem.Str.ofString "complex") (60 : Nat)) (PySem.Value.type "complex")) :: (PySem.DictEntry.mk (PySem.PyData.keyHash P (PySem.Str.ofString "dict")) (PySem.Value.str (PySem.Str.ofString "dict") (61 : Nat)) (PySem.Value.type "dict")) :: (PySem.DictEntry.mk (PySem.PyData.keyHash P (PySem.Str.ofString "enumerate")) (PySem.Value.str (PySem.Str.ofString "enumerate") (62 : Nat)) (PySem.Value.type "enumerate")) :: (PySem.DictEntry.mk (PySem.PyData.keyHash P (PySem.Str.ofString "filter")) (PySem.Value.str (PySem.Str.ofString "filter") (63 : Nat)) (PySem.Value.type "filter")) :: (PySem.DictEntry.mk (PySem.PyData.keyHash P (PySem.Str.ofString "float")) (PySem.Value.str (PySem.Str.ofString "float") (64 : Nat)) (PySem.Value.type "float")) :: (PySem.DictEntry.mk (PySem.PyData.keyHash P (PySem.Str.ofString "frozenset")) (PySem.Value.str (PySem.Str.ofString "frozenset") (65 : Nat)) (PySem.Value.type "frozenset")) :: (PySem.DictEntry.mk (PySem.PyData.keyHash P (PySem.Str.ofString "property")) (PySem.Value.str (PySem.Str.ofString "property") (66 : Nat)) (PySem.Value.type "property")) :: (PySem.DictEntry.mk (PySem.PyData.keyHash P (PySem.Str.ofString "int")) (PySem.Value.str (PySem.Str.ofString "int") (67 : Nat)) (PySem.Value.type "int")) :: (PySem.DictEntry.mk (PySem.PyData.keyHash P (PySem.Str.ofString "list")) (PySem.Value.str (PySem.Str.ofString "list") (68 : Nat)) (PySem.Value.type "list")) :: (PySem.DictEntry.mk (PySem.PyData.keyHash P (PySem.Str.ofString "map")) (PySem.Value.str (PySem.Str.ofString "map") (69 : Nat)) (PySem.Value.type "map")) :: (PySem.DictEntry.mk (PySem.PyData.keyHash P (PySem.Str.ofString "object")) (PySem.Value.str (PySem.Str.ofString "object") (70 : Nat)) (PySem.Value.type "object")) :: (PySem.DictEntry.mk (PySem.PyData.keyHash P (PySem.Str.ofString "range")) (PySem.Value.str (PySem.Str.ofString "range") (71 : Nat)) (PySem.Value.type "range")) :: (PySem.DictEntry.mk (PySem.PyData.keyHash P (PySem.Str.ofString "reversed")) (PySem.Value.str (PySem.Str.ofString "reversed") (72 : Nat)) (PySem.Value.type "reversed")) :: (PySem.DictEntry.mk (PySem.PyData.keyHash P (PySem.Str.ofString "set")) (PySem.Value.str (PySem.Str.ofString "set") (73 : Nat)) (PySem.Value.type "set")) :: (PySem.DictEntry.mk (PySem.PyData.keyHash P (PySem.Str.ofString "slice")) (PySem.Value.str (PySem.Str.ofString "slice") (74 : Nat)) (PySem.Value.type "slice")) :: (PySem.DictEntry.mk (PySem.PyData.keyHash P (PySem.Str.ofString "staticmethod")) (PySem.Value.str (PySem.Str.ofString "staticmethod") (75 : Nat)) (PySem.Value.type "staticmethod")) :: (PySem.DictEntry.mk (PySem.PyData.keyHash P (PySem.Str.ofString "str")) (PySem.Value.str (PySem.Str.ofString "str") (76 : Nat)) (PySem.Value.type "str")) :: (PySem.DictEntry.mk (PySem.PyData.keyHash P (PySem.Str.ofString "super")) (PySem.Value.str (PySem.Str.ofString "super") (77 : Nat)) (PySem.Value.type "super")) :: (PySem.DictEntry.mk (PySem.PyData.keyHash P (PySem.Str.ofString "tuple")) (PySem.Value.str (PySem.Str.ofString "tuple") (78 : Nat)) (PySem.Value.type "tuple")) :: (PySem.DictEntry.mk (PySem.PyData.keyHash P (PySem.Str.ofString "type")) (PySem.Value.str (PySem.Str.ofString "type") (79 : Nat)) (PySem.Value.type "type")) :: (PySem.DictEntry.mk (PySem.PyData.keyHash P (PySem.Str.ofString "zip")) (PySem.Value.str (PySem.Str.ofString "zip") (80 : Nat)) (PySem.Value.type "zip")) :: (PySem.DictEntry.mk (PySem.PyData.keyHash P (PySem.Str.ofString "__debug__")) (PySem.Value.str (PySem.Str.ofString "__debug__") (81 : Nat)) (PySem.Value.bool Bool.true)) :: (PySem.DictEntry.mk (PySem.PyData.keyHash P (PySem.Str.ofString "BaseException")) (PySem.Value.str (PySem.Str.ofString "BaseException") (82 : Nat)) (PySem.Value.type "BaseException")) :: (PySem.DictEntry.mk (PySem.PyData.keyHash P (PySem.Str.ofString "BaseExceptionGroup")) (PySem.Value.str (PySem.Str.ofString "BaseExceptionGroup") (83 : Nat)) (PySem.Value.type "BaseExceptionGroup")) :: (PySem.DictEntry.mk (PySem.PyData.keyHash P (PySem.Str.ofString "Exception")) (PySem.Value.str (PySem.Str.ofString "Exception") (84 : Nat)) (PySem.Value.type "Exception")) :: (PySem.DictEntry.mk (PySem.PyData.keyHash P (PySem.Str.ofString "GeneratorExit")) (PySem.Value.str (PySem.Str.ofString "GeneratorExit") (85 : Nat)) (PySem.Value.type "GeneratorExit")) :: (PySem.DictEntry.mk (PySem.PyData.keyHash P (PySem.Str.ofString "KeyboardInterrupt")) (PySem.Value.str (PySem.Str.ofString "KeyboardInterrupt") (86 : Nat)) (PySem.Value.type "KeyboardInterrupt")) :: (PySem.DictEntry.mk (PySem.PyData.keyHash P (PySem.Str.ofString "SystemExit")) (PySem.Value.str (PySem.Str.ofString "SystemExit") (87 : Nat)) (PySem.Value.type "SystemExit")) :: (PySem.DictEntry.mk (PySem.PyData.keyHash P (PySem.Str.ofString "ArithmeticError")) (PySem.Value.str (PySem.Str.ofString "ArithmeticError") (88 : Nat)) (PySem.Value.type "ArithmeticError")) :: (PySem.DictEntry.mk (PySem.PyData.keyHash P (PySem.Str.ofString "AssertionError")) (PySem.Value.str (PySem.Str.ofString "AssertionError") (89 : Nat)) (PySem.Value.type "AssertionError")) :: (PySem.DictEntry.mk (PySem.PyData.keyHash P (PySem.Str.ofString "AttributeError")) (PySem.Value.str (PySem.Str.ofString "AttributeError") (90 : Nat)) (PySem.Value.type "AttributeError")) :: (PySem.DictEntry.mk (PySem.PyData.keyHash P (PySem.Str.ofString "BufferError")) (PySem.Value.str (PySem.Str.ofString "BufferError") (91 : Nat)) (PySem.Value.type "BufferError")) :: (PySem.DictEntry.mk (PySem.PyData.keyHash P (PySem.Str.ofString "EOFError")) (PySem.Value.str (PySem.Str.ofString "EOFError") (92 : Nat)) (PySem.Value.type "EOFError")) :: (PySem.DictEntry.mk (PySem.PyData.keyHash P (PySem.Str.ofString "ImportError")) (PySem.Value.str (PySem.Str.ofString "ImportError") (93 : Nat)) (PySem.Value.type "ImportError")) :: (PySem.DictEntry.mk (PySem.PyData.keyHash P (PySem.Str.ofString "LookupError")) (PySem.Value.str (PySem.Str.ofString "LookupError") (94 : Nat)) (PySem.Value.type "LookupError")) :: (PySem.DictEntry.mk (PySem.PyData.keyHash P (PySem.Str.ofString "MemoryError")) (PySem.Value.str (PySem.Str.ofString "MemoryError") (95 : Nat)) (PySem.Value.type "MemoryError")) :: (PySem.DictEntry.mk (PySem.PyData.keyHash P (PySem.Str.ofString "NameError")) (PySem.Value.str (PySem.Str.ofString "NameError") (96 : Nat)) (PySem.Value.type "NameError")) :: (PySem.DictEntry.mk (PySem.PyData.keyHash P (PySem.Str.ofString "OSError")) (PySem.Value.str (PySem.Str.ofString "OSError") (97 : Nat)) (PySem.Value.type "OSError")) :: (PySem.DictEntry.mk (PySem.PyData.keyHash P (PySem.Str.ofString "ReferenceError")) (PySem.Value.str (PySem.Str.ofString "ReferenceError") (98 : Nat)) (PySem.Value.type "ReferenceError")) :: (PySem.DictEntry.mk (PySem.PyData.keyHash P (PySem.Str.ofString "RuntimeError")) (PySem.Value.str (PySem.Str.ofString "RuntimeError") (99 : Nat)) (PySem.Value.type "RuntimeError")) :: (PySem.DictEntry.mk (PySem.PyData.keyHash P (PySem.Str.ofString "StopAsyncIteration")) (PySem.Value.str (PySem.Str.ofString "StopAsyncIteration") (100 : Nat)) (PySem.Value.type "StopAsyncIteration")) :: (PySem.DictEntry.mk (PySem.PyData.keyHash P (PySem.Str.ofString "StopIteration")) (PySem.Value.str (PySem.Str.ofString "StopIteration") (101 : Nat)) (PySem.Value.type "StopIteration")) :: (PySem.DictEntry.mk (PySem.PyData.keyHash P (PySem.Str.ofString "SyntaxError")) (PySem.Value.str (PySem.Str.ofString "SyntaxError") (102 : Nat)) (PySem.Value.type "SyntaxError")) :: (PySem.DictEntry.mk (PySem.PyData.keyHash P (PySem.Str.ofString "SystemError")) (PySem.Value.str (PySem.Str.ofString "SystemError") (103 : Nat)) (PySem.Value.type "SystemError")) :: (PySem.DictEntry.mk (PySem.PyData.keyHash P (PySem.Str.ofString "TypeError")) (PySem.Value.str (PySem.Str.ofString "TypeError") (104 : Nat)) (PySem.Value.type "TypeError")) :: (PySem.DictEntry.mk (PySem.PyData.keyHash P (PySem.Str.ofString "ValueError")) (PySem.Value.str (PySem.Str.ofString "ValueError") (105 : Nat)) (PySem.Value.type "ValueError")) :: (PySem.DictEntry.mk (PySem.PyData.keyHash P (PySem.Str.ofString "Warning")) (PySem.Value.str (PySem.Str.ofString "Warning") (106 : Nat)) (PySem.Value.type "Warning")) :: (PySem.DictEntry.mk (PySem.PyData.keyHash P (PySem.Str.ofString "FloatingPointError")) (PySem.Value.str (PySem.Str.ofString "FloatingPointError") (107 : Nat)) (PySem.Value.type "FloatingPointError")) :: (PySem.DictEntry.mk (PySem.PyData.keyHash P (PySem.Str.ofString "OverflowError")) (PySem.Value.str (PySem.Str.ofString "OverflowError") (108 : Nat)) (PySem.Value.type "OverflowError")) :: (PySem.DictEntry.mk (PySem.PyData.keyHash P (PySem.Str.ofString "ZeroDivisionError")) (PySem.Value.str (PySem.Str.ofString "ZeroDivisionError") (109 : Nat)) (PySem.Value.type "ZeroDivisionError")) :: (PySem.DictEntry.mk (PySem.PyData.keyHash P (PySem.Str.ofString "BytesWarning")) (PySem.Value.str (PySem.Str.ofString "BytesWarning") (110 : Nat)) (PySem.Value.type "BytesWarning")) :: (PySem.DictEntry.mk (PySem.PyData.keyHash P (PySem.Str.ofString "DeprecationWarning")) (PySem.Value.str (PySem.Str.ofString "DeprecationWarning") (111 : Nat)) (PySem.Value.type "DeprecationWarning")) :: (PySem.DictEntry.mk (PySem.PyData.keyHash P (PySem.Str.ofString "EncodingWarning")) (PySem.Value.str (PySem.Str.ofString "EncodingWarning") (112 : Nat)) (PySem.Value.type "EncodingWarning")) :: (PySem.DictEntry.mk (PySem.PyData.keyHash P (PySem.Str.ofString "FutureWarning")) (PySem.Value.str (PySem.Str.ofString "FutureWarning") (113 : Nat)) (PySem.Value.type "FutureWarning")) :: (PySem.DictEntry.mk (PySem.PyData.keyHash P (PySem.Str.ofString "ImportWarning")) (PySem.Value.str (PySem.Str.ofString "ImportWarning") (114 : Nat)) (PySem.Value.type "ImportWarning")) :: (PySem.DictEntry.mk (PySem.PyData.keyHash P (PySem.Str.ofString "PendingDeprecationWarning")) (PySem.Value.str (PySem.Str.ofString "PendingDeprecationWarning") (115 : Nat)) (PySem.Value.type "PendingDeprecationWarning")) :: (PySem.DictEntry.mk (PySem.PyData.keyHash P (PySem.Str.ofString "ResourceWarning")) (PySem.Value.str (PySem.Str.ofString "ResourceWarning") (116 : Nat)) (PySem.Value.type "ResourceWarning")) :: (PySem.DictEntry.mk (PySem.PyData.keyHash P (PySem.Str.ofString "RuntimeWarning")) (PySem.Value.str (PySem.Str.ofString "RuntimeWarning") (117 : Nat)) (PySem.Value.type "RuntimeWarning")) :: (PySem.DictEntry.mk (PySem.PyData.keyHash P (PySem.Str.ofString "SyntaxWarning")) (PySem.Value.str (PySem.Str.ofString "SyntaxWarning") (118 : Nat)) (PySem.Value.type "SyntaxWarning")) :: (PySem.DictEntry.mk (PySem.PyData.keyHash P (PySem.Str.ofString "UnicodeWarning")) (PySem.Value.str (PySem.Str.ofString "UnicodeWarning") (119 : Nat)) (PySem.Value.type "UnicodeWarning")) :: (PySem.DictEntry.mk (PySem.PyData.keyHash P (PySem.Str.ofString "UserWarning")) (PySem.Value.str (PySem.Str.ofString "UserWarning") (120 : Nat)) (PySem.Value.type "UserWarning")) :: (PySem.DictEntry.mk (PySem.PyData.keyHash P (PySem.Str.ofString "BlockingIOError")) (PySem.Value.str (PySem.Str.ofString "BlockingIOError") (121 : Nat)) (PySem.Value.type "BlockingIOError")) :: (PySem.DictEntry.mk (PySem.PyData.keyHash P (PySem.Str.ofString "ChildProcessError")) (PySem.Value.str (PySem.Str.ofString "ChildProcessError") (122 : Nat)) (PySem.Value.type "ChildProcessError")) :: (PySem.DictEntry.mk (PySem.PyData.keyHash P (PySem.Str.ofString "ConnectionError")) (PySem.Value.str (PySem.Str.ofString "ConnectionError") (123 : Nat)) (PySem.Value.type "ConnectionError")) :: (PySem.DictEntry.mk (PySem.PyData.keyHash P (PySem.Str.ofString "FileExistsError")) (PySem.Value.str (PySem.Str.ofString "FileExistsError") (124 : Nat)) (PySem.Value.type "FileExistsError")) :: (PySem.DictEntry.mk (PySem.PyData.keyHash P (PySem.Str.ofString "FileNotFoundError")) (PySem.Value.str (PySem.Str.ofString "FileNotFoundError") (125 : Nat)) (PySem.Value.type "FileNotFoundError")) :: (PySem.DictEntry.mk (PySem.PyData.keyHash P (PySem.Str.ofString "InterruptedError")) (PySem.Value.str (PySem.Str.ofString "InterruptedError") (126 : Nat)) (PySem.Value.type "InterruptedError")) :: (PySem.DictEntry.mk (PySem.PyData.keyHash P (PySem.Str.ofString "IsADirectoryError")) (PySem.Value.str (PySem.Str.ofString "IsADirectoryError") (127 : Nat)) (PySem.Value.type "IsADirectoryError")) :: (PySem.DictEntry.mk (PySem.PyData.keyHash P (PySem.Str.ofString "NotADirectoryError")) (PySem.Value.str (PySem.Str.ofString "NotADirectoryError") (128 : Nat)) (PySem.Value.type "NotADirectoryError")) :: (PySem.DictEntry.mk (PySem.PyData.keyHash P (PySem.Str.ofString "PermissionError")) (PySem.Value.str (PySem.Str.ofString "PermissionError") (129 : Nat)) (PySem.Value.type "PermissionError")) :: (PySem.DictEntry.mk (PySem.PyData.keyHash P (PySem.Str.ofString "ProcessLookupError")) (PySem.Value.str (PySem.Str.ofString "ProcessLookupError") (130 : Nat)) (PySem.Value.type "ProcessLookupError")) :: (PySem.DictEntry.mk (PySem.PyData.keyHash P (PySem.Str.ofString "TimeoutError")) (PySem.Value.str (PySem.Str.ofString "TimeoutError") (131 : Nat)) (PySem.Value.type "TimeoutError")) :: (PySem.DictEntry.mk (PySem.PyData.keyHash P (PySem.Str.ofString "IndentationError")) (PySem.Value.str (PySem.Str.ofString "IndentationError") (132 : Nat)) (PySem.Value.type "IndentationError")) :: (PySem.DictEntry.mk (PySem.PyData.keyHash P (PySem.Str.ofString "_IncompleteInputError")) (PySem.Value.str (PySem.Str.ofString "_IncompleteInputError") (133 : Nat)) (PySem.Value.type "_IncompleteInputError")) :: (PySem.DictEntry.mk (PySem.PyData.keyHash P (PySem.Str.ofString "IndexError")) (PySem.Value.str (PySem.Str.ofString "IndexError") (134 : Nat)) (PySem.Value.type "IndexError")) :: (PySem.DictEntry.mk (PySem.PyData.keyHash P (PySem.Str.ofString "KeyError")) (PySem.Value.str (PySem.Str.ofString "KeyError") (135 : Nat)) (PySem.Value.type "KeyError")) :: (PySem.DictEntry.mk (PySem.PyData.keyHash P (PySem.Str.ofString "ModuleNotFoundError")) (PySem.Value.str (PySem.Str.ofString "ModuleNotFoundError") (136 : Nat)) (PySem.Value.type "ModuleNotFoundError")) :: (PySem.DictEntry.mk (PySem.PyData.keyHash P (PySem.Str.ofString "NotImplementedError")) (PySem.Value.str (PySem.Str.ofString "NotImplementedError") (137 : Nat)) (PySem.Value.type "NotImplementedError")) :: (PySem.DictEntry.mk (PySem.PyData.keyHash P (PySem.Str.ofString "PythonFinalizationError")) (PySem.Value.str (PySem.Str.ofString "PythonFinalizationError") (138 : Nat)) (PySem.Value.type "PythonFinalizationError")) :: (PySem.DictEntry.mk (PySem.PyData.keyHash P (PySem.Str.ofString "RecursionError")) (PySem.Value.str (PySem.Str.ofString "RecursionError") (139 : Nat)) (PySem.Value.type "RecursionError")) :: (PySem.DictEntry.mk (PySem.PyData.keyHash P (PySem.Str.ofString "UnboundLocalError")) (PySem.Value.str (PySem.Str.ofString "UnboundLocalError") (140 : Nat)) (PySem.Value.type "UnboundLocalError")) :: (PySem.DictEntry.mk (PySem.PyData.keyHash P (PySem.Str.ofString "UnicodeError")) (PySem.Value.str (PySem.Str.ofString "UnicodeError") (141 : Nat)) (PySem.Value.type "UnicodeError")) :: (PySem.DictEntry.mk (PySem.PyData.keyHash P (PySem.Str.ofString "BrokenPipeError")) (PySem.Value.str (PySem.Str.ofString "BrokenPipeError") (142 : Nat)) (PySem.Value.type "BrokenPipeError")) :: (PySem.DictEntry.mk (PySem.PyData.keyHash P (PySem.Str.ofString "ConnectionAbortedError")) (PySem.Value.str (PySem.Str.ofString "ConnectionAbortedError") (143 : Nat)) (PySem.Value.type "ConnectionAbortedError")) :: (PySem.DictEntry.mk (PySem.PyData.keyHash P (PySem.Str.ofString "ConnectionRefusedError")) (PySem.Value.str (PySem.Str.ofString "ConnectionRefusedError") (144 : Nat)) (PySem.Value.type "ConnectionRefusedError")) :: (PySem.DictEntry.mk (PySem.PyData.keyHash P (PySem.Str.ofString "ConnectionResetError")) (PySem.Value.str (PySem.Str.ofString "ConnectionResetError") (145 : Nat)) (PySem.Value.type "ConnectionResetError")) :: (PySem.DictEntry.mk (PySem.PyData.keyHash P (PySem.Str.ofString "TabError")) (PySem.Value.str (PySem.Str.ofString "TabError") (146 : Nat)) (PySem.Value.type "TabError")) :: (PySem.DictEntry.mk (PySem.PyData.keyHash P (PySem.Str.ofString "UnicodeDecodeError")) (PySem.Value.str (PySem.Str.ofString "UnicodeDecodeError") (147 : Nat)) (PySem.Value.type "UnicodeDecodeError")) :: (PySem.DictEntry.mk (PySem.PyData.keyHash P (PySem.Str.ofString "UnicodeEncodeError")) (PySem.Value.str (PySem.Str.ofString "UnicodeEncodeError") (148 : Nat)) (PySem.Value.type "UnicodeEncodeError")) :: (PySem.DictEntry.mk (PySem.PyData.keyHash P (PySem.Str.ofString "UnicodeTranslateError")) (PySem.Value.str (PySem.Str.ofString "UnicodeTranslateError") (149 : Nat)) (PySem.Value.type "UnicodeTranslateError")) :: (PySem.DictEntry.mk (PySem.PyData.keyHash P (PySem.Str.ofString "ExceptionGroup")) (PySem.Value.str (PySem.Str.ofString "ExceptionGroup") (150 : Nat)) (PySem.Value.type "ExceptionGroup")) :: (PySem.DictEntry.mk (PySem.PyData.keyHash P (PySem.Str.ofString "EnvironmentError")) (PySem.Value.str (PySem.Str.ofString "EnvironmentError") (151 : Nat)) (PySem.Value.type "OSError")) :: (PySem.DictEntry.mk (PySem.PyData.keyHash P (PySem.Str.ofString "IOError")) (PySem.Value.str (PySem.Str.ofString "IOError") (152 : Nat)) (PySem.Value.type "OSError")) :: (PySem.DictEntry.mk (PySem.PyData.keyHash P (PySem.Str.ofString "open")) (PySem.Value.str (PySem.Str.ofString "open") (153 : Nat)) (PySem.Value.builtin "open")) :: (PySem.DictEntry.mk (PySem.PyData.keyHash P (PySem.Str.ofString "quit")) (PySem.Value.str (PySem.Str.ofString "quit") (154 : Nat)) (PySem.Value.builtin "builtins.quit#opaque")) :: (PySem.DictEntry.mk (PySem.PyData.keyHash P (PySem.Str.ofString "exit")) (PySem.Value.str (PySem.Str.ofString "exit") (155 : Nat)) (PySem.Value.builtin "builtins.exit#opaque")) :: (PySem.DictEntry.mk (PySem.PyData.keyHash P (PySem.Str.ofString "copyright")) (PySem.Value.str (PySem.Str.ofString "copyright") (156 : Nat)) (PySem.Value.builtin "builtins.copyright#opaque")) :: (PySem.DictEntry.mk (PySem.PyData.keyHash P (PySem.Str.ofString "credits")) (PySem.Value.str (PySem.Str.ofString "credits") (157 : Nat)) (PySem.Value.builtin "builtins.credits#opaque")) :: (PySem.DictEntry.mk (PySem.PyData.keyHash P (PySem.Str.ofString "license")) (PySem.Value.str (PySem.Str.ofString "license") (158 : Nat)) (PySem.Value.builtin "builtins.license#opaque")) :: (PySem.DictEntry.mk (PySem.PyData.keyHash P (PySem.Str.ofString "help")) (PySem.Value.str (PySem.Str.ofString "help") (159 : Nat)) (PySem.Value.builtin "builtins.help#opaque")) :: [])) (159 : Nat)) (List.toArray []))
noncomputable def ob1 (P : Params) : Obj := (PySem.Obj.mk (PySem.Value.type "dict") (@Option.none Nat) (PySem.Data.dict (List.toArray [(PySem.DictEntry.mk (PySem.PyData.keyHash P (PySem.Str.ofString "builtins")) (PySem.Value.str (PySem.Str.ofString "builtins") (162 : Nat)) (PySem.Value.ref (4 : Nat))), (PySem.DictEntry.mk (PySem.PyData.keyHash P (PySem.Str.ofString "__main__")) (PySem.Value.str (PySem.Str.ofString "__main__") (163 : Nat)) (PySem.Value.ref (5 : Nat))), (PySem.DictEntry.mk (PySem.PyData.keyHash P (PySem.Str.ofString "_sre")) (PySem.Value.str (PySem.Str.ofString "_sre") (244 : Nat)) (PySem.Value.ref (12 : Nat)))]) (3 : Nat)) (List.toArray []))
noncomputable def ob2 (P : Params) : Obj := (PySem.Obj.mk PySem.Value.none (@Option.none Nat) (PySem.Data.dict (List.toArray [(PySem.DictEntry.mk (PySem.PyData.keyHash P (PySem.Str.ofString "\x69mport.loaded._sre")) (PySem.Value.str (PySem.Str.ofString "\x69mport.loaded._sre") (183 : Nat)) (PySem.Value.bool Bool.true)), (PySem.DictEntry.mk (PySem.PyData.keyHash P (PySem.Str.ofString "class._frozen_importlib.BuiltinImporter")) (PySem.Value.str (PySem.Str.ofString "class._frozen_importlib.BuiltinImporter") (185 : Nat)) (PySem.Value.ref (14 : Nat))), (PySem.DictEntry.mk (PySem.PyData.keyHash P (PySem.Str.ofString "watched.\x69mport")) (PySem.Value.str (PySem.Str.ofString "watched.\x69mport") (206 : Nat)) (PySem.Value.ref (18 : Nat))), (PySem.DictEntry.mk (PySem.PyData.keyHash P (PySem.Str.ofString "class._frozen_importlib.ModuleSpec")) (PySem.Value.str (PySem.Str.ofString "class._frozen_importlib.ModuleSpec") (216 : Nat)) (PySem.Value.ref (22 : Nat))), (PySem.DictEntry.mk (PySem.PyData.keyHash P (PySem.Str.ofString "sys.modules.booked-epoch")) (PySem.Value.str (PySem.Str.ofString "sys.modules.booked-epoch") (245 : Nat)) (PySem.Value.int 3 (0 : Nat))), (PySem.DictEntry.mk (PySem.PyData.keyHash P (PySem.Str.ofString "\x69mport.later-laid._sre")) (PySem.Value.str (PySem.Str.ofString "\x69mport.later-laid._sre") (270 : Nat)) (PySem.Value.bool Bool.true)), (PySem.DictEntry.mk (PySem.PyData.keyHash P (PySem.Str.ofString "watched.library")) (PySem.Value.str (PySem.Str.ofString "watched.library") (272 : Nat)) (PySem.Value.ref (27 : Nat))), (PySem.DictEntry.mk (PySem.PyData.keyHash P (PySem.Str.ofString "watched.library-objects")) (PySem.Value.str (PySem.Str.ofString "watched.library-objects") (0 : Nat)) (PySem.Value.str (PySem.Str.ofString "\x0c") (0 : Nat))), (PySem.DictEntry.mk (PySem.PyData.keyHash P (PySem.Str.ofString "watched.library-deep._sre")) (PySem.Value.str (PySem.Str.ofString "watched.library-deep._sre") (273 : Nat)) (PySem.Value.str (PySem.Str.ofString "\x04\x00\x00\x0b\x04\x00\x00\x0b\x04\x00\x00\x03\x04\x00\x00\x0b\x08\x04dict\x02") (0 : Nat)))]) (9 : Nat)) (List.toArray []))
noncomputable def ob3 (P : Params) : Obj := (PySem.Obj.mk (PySem.Value.type "dict") (@Option.none Nat) (PySem.Data.dict (List.toArray ((PySem.DictEntry.mk (PySem.PyData.keyHash P (PySem.Str.ofString "__name__")) (PySem.Value.str (PySem.Str.ofString "__name__") (165 : Nat)) (PySem.Value.str (PySem.Str.ofString "re") (445 : Nat))) :: (PySem.DictEntry.mk (PySem.PyData.keyHash P (PySem.Str.ofString "__doc__")) (PySem.Value.str (PySem.Str.ofString "__doc__") (166 : Nat)) PySem.Value.none) :: (PySem.DictEntry.mk (PySem.PyData.keyHash P (PySem.Str.ofString "__package__")) (PySem.Value.str (PySem.Str.ofString "__package__") (167 : Nat)) PySem.Value.none) :: (PySem.DictEntry.mk (PySem.PyData.keyHash P (PySem.Str.ofString "__loader__")) (PySem.Value.str (PySem.Str.ofString "__loader__") (168 : Nat)) (PySem.Value.builtin "__main__.__loader__#opaque")) :: (PySem.DictEntry.mk (PySem.PyData.keyHash P (PySem.Str.ofString "__spec__")) (PySem.Value.str (PySem.Str.ofString "__spec__") (169 : Nat)) PySem.Value.none) :: (PySem.DictEntry.mk (PySem.PyData.keyHash P (PySem.Str.ofString "__annotations__")) (PySem.Value.str (PySem.Str.ofString "__annotations__") (170 : Nat)) (PySem.Value.ref (6 : Nat))) :: (PySem.DictEntry.mk (PySem.PyData.keyHash P (PySem.Str.ofString "__builtins__")) (PySem.Value.str (PySem.Str.ofString "__builtins__") (171 : Nat)) (PySem.Value.ref (4 : Nat))) :: (PySem.DictEntry.mk (PySem.PyData.keyHash P (PySem.Str.ofString "__file__")) (PySem.Value.str (PySem.Str.ofString "__file__") (173 : Nat)) (PySem.Value.str (PySem.Str.ofString "/claim/cut.py") (172 : Nat))) :: (PySem.DictEntry.mk (PySem.PyData.keyHash P (PySem.Str.ofString "__cached__")) (PySem.Value.str (PySem.Str.ofString "__cached__") (174 : Nat)) PySem.Value.none) :: (PySem.DictEntry.mk (PySem.PyData.keyHash P (PySem.Str.ofString "_sre")) (PySem.Value.str (PySem.Str.ofString "_sre") (275 : Nat)) (PySem.Value.ref (12 : Nat))) :: (PySem.DictEntry.mk (PySem.PyData.keyHash P (PySem.Str.ofString "_wall")) (PySem.Value.str (PySem.Str.ofString "_wall") (288 : Nat)) (PySem.Value.ref (38 : Nat))) :: (PySem.DictEntry.mk (PySem.PyData.keyHash P (PySem.Str.ofString "TOMLDecodeError")) (PySem.Value.str (PySem.Str.ofString "TOMLDecodeError") (308 : Nat)) (PySem.Value.ref (48 : Nat))) :: (PySem.DictEntry.mk (PySem.PyData.keyHash P (PySem.Str.ofString "skip_until")) (PySem.Value.str (PySem.Str.ofString "skip_until") (320 : Nat)) (PySem.Value.ref (58 : Nat))) :: (PySem.DictEntry.mk (PySem.PyData.keyHash P (PySem.Str.ofString "suffixed_err")) (PySem.Value.str (PySem.Str.ofString "suffixed_err") (330 : Nat)) (PySem.Value.ref (65 : Nat))) :: (PySem.DictEntry.mk (PySem.PyData.keyHash P (PySem.Str.ofString "_buffer")) (PySem.Value.str (PySem.Str.ofString "_buffer") (340 : Nat)) (PySem.Value.ref (72 : Nat))) :: (PySem.DictEntry.mk (PySem.PyData.keyHash P (PySem.Str.ofString "_truth")) (PySem.Value.str (PySem.Str.ofString "_truth") (348 : Nat)) (PySem.Value.ref (79 : Nat))) :: (PySem.DictEntry.mk (PySem.PyData.keyHash P (PySem.Str.ofString "_B64")) (PySem.Value.str (PySem.Str.ofString "_B64") (350 : Nat)) (PySem.Value.bytes (List.toArray (65 :: 66 :: 67 :: 68 :: 69 :: 70 :: 71 :: 72 :: 73 :: 74 :: 75 :: 76 :: 77 :: 78 :: 79 :: 80 :: 81 :: 82 :: 83 :: 84 :: 85 :: 86 :: 87 :: 88 :: 89 :: 90 :: 97 :: 98 :: 99 :: 100 :: 101 :: 102 :: 103 :: 104 :: 105 :: 106 :: 107 :: 108 :: 109 :: 110 :: 111 :: 112 :: 113 :: 114 :: 115 :: 116 :: 117 :: 118 :: 119 :: 120 :: 121 :: 122 :: 48 :: 49 :: 50 :: 51 :: 52 :: 53 :: 54 :: 55 :: 56 :: 57 :: 43 :: 47 :: [])) (349 : Nat))) :: (PySem.DictEntry.mk (PySem.PyData.keyHash P (PySem.Str.ofString "b2a_base64")) (PySem.Value.str (PySem.Str.ofString "b2a_base64") (364 : Nat)) (PySem.Value.ref (87 : Nat))) :: (PySem.DictEntry.mk (PySem.PyData.keyHash P (PySem.Str.ofString "_NO_SEP")) (PySem.Value.str (PySem.Str.ofString "_NO_SEP") (365 : Nat)) (PySem.Value.ref (88 : Nat))) :: (PySem.DictEntry.mk (PySem.PyData.keyHash P (PySem.Str.ofString "b2a_hex")) (PySem.Value.str (PySem.Str.ofString "b2a_hex") (376 : Nat)) (PySem.Value.ref (96 : Nat))) :: (PySem.DictEntry.mk (PySem.PyData.keyHash P (PySem.Str.ofString "hexlify")) (PySem.Value.str (PySem.Str.ofString "hexlify") (377 : Nat)) (PySem.Value.ref (96 : Nat))) :: (PySem.DictEntry.mk (PySem.PyData.keyHash P (PySem.Str.ofString "b64encode")) (PySem.Value.str (PySem.Str.ofString "b64encode") (388 : Nat)) (PySem.Value.ref (104 : Nat))) :: (PySem.DictEntry.mk (PySem.PyData.keyHash P (PySem.Str.ofString "b16encode")) (PySem.Value.str (PySem.Str.ofString "b16encode") (395 : Nat)) (PySem.Value.ref (111 : Nat))) :: (PySem.DictEntry.mk (PySem.PyData.keyHash P (PySem.Str.ofString "_twin_re_1")) (PySem.Value.str (PySem.Str.ofString "_twin_re_1") (435 : Nat)) (PySem.Value.ref (116 : Nat))) :: (PySem.DictEntry.mk (PySem.PyData.keyHash P (PySem.Str.ofString "translate")) (PySem.Value.str (PySem.Str.ofString "translate") (444 : Nat)) (PySem.Value.ref (123 : Nat))) :: [])) (25 : Nat)) (List.toArray []))
noncomputable def ob4 (P : Params) : Obj := (PySem.Obj.mk (PySem.Value.type "module") (Option.some (0 : Nat)) PySem.Data.plain (List.toArray []))
noncomputable def ob5 (P : Params) : Obj := (PySem.Obj.mk (PySem.Value.type "module") (Option.some (3 : Nat)) PySem.Data.plain (List.toArray []))
noncomputable def ob6 (P : Params) : Obj := (PySem.Obj.mk (PySem.Value.type "dict") (@Option.none Nat) (PySem.Data.dict (List.toArray []) (0 : Nat)) (List.toArray []))
noncomputable def ob7 (P : Params) : Obj := (PySem.Obj.mk (PySem.Value.type "tuple") (@Option.none Nat) (PySem.Data.seq (List.toArray []) (0 : Nat)) (List.toArray []))
noncomputable def ob8 (P : Params) : Obj := (PySem.Obj.mk PySem.Value.none (@Option.none Nat) (PySem.Data.fields (List.toArray [])) (List.toArray []))
noncomputable def ob9 (P : Params) : Obj := (PySem.Obj.mk (PySem.Value.type "code") (@Option.none Nat) (PySem.Data.fields (List.toArray ((PySem.Value.str (PySem.Str.ofString "<module>") (176 : Nat)) :: (PySem.Value.str (PySem.Str.ofString "<module>") (177 : Nat)) :: (PySem.Value.str (PySem.Str.ofString "/claim/cut.py") (178 : Nat)) :: (PySem.Value.int 1 (0 : Nat)) :: (PySem.Value.int 0 (0 : Nat)) :: (PySem.Value.int 0 (0 : Nat)) :: (PySem.Value.int 0 (0 : Nat)) :: (PySem.Value.int 0 (0 : Nat)) :: (PySem.Value.ref (7 : Nat)) :: (PySem.Value.bool Bool.false) :: (PySem.Value.int 175 (0 : Nat)) :: (PySem.Value.ref (8 : Nat)) :: PySem.Value.none :: PySem.Value.none :: PySem.Value.none :: PySem.Value.none :: (PySem.Value.int 179 (0 : Nat)) :: (PySem.Value.int 1 (0 : Nat)) :: (PySem.Value.str (PySem.Str.ofString "/claim/cut.py") (180 : Nat)) :: []))) (List.toArray []))
noncomputable def ob10 (P : Params) : Obj := (PySem.Obj.mk (PySem.Value.type "frame") (@Option.none Nat) PySem.Data.plain (List.toArray [(Option.some (PySem.Value.ref (9 : Nat))), (Option.some (PySem.Value.ref (3 : Nat))), (Option.some (PySem.Value.ref (3 : Nat))), (@Option.none PySem.Value), (Option.some (PySem.Value.str (PySem.Str.ofString "__main__") (164 : Nat))), (@Option.none PySem.Value), (Option.some (PySem.Value.ref (0 : Nat)))]))
noncomputable def ob11 (P : Params) : Obj := (PySem.Obj.mk (PySem.Value.type "dict") (@Option.none Nat) (PySem.Data.dict (List.toArray ((PySem.DictEntry.mk (PySem.PyData.keyHash P (PySem.Str.ofString "__name__")) (PySem.Value.str (PySem.Str.ofString "__name__") (247 : Nat)) (PySem.Value.str (PySem.Str.ofString "_sre") (246 : Nat))) :: (PySem.DictEntry.mk (PySem.PyData.keyHash P (PySem.Str.ofString "__doc__")) (PySem.Value.str (PySem.Str.ofString "__doc__") (248 : Nat)) PySem.Value.none) :: (PySem.DictEntry.mk (PySem.PyData.keyHash P (PySem.Str.ofString "__package__")) (PySem.Value.str (PySem.Str.ofString "__package__") (250 : Nat)) (PySem.Value.str (PySem.Str.ofString "") (249 : Nat))) :: (PySem.DictEntry.mk (PySem.PyData.keyHash P (PySem.Str.ofString "__loader__")) (PySem.Value.str (PySem.Str.ofString "__loader__") (251 : Nat)) (PySem.Value.builtin "off-the-table:_sre.__loader__:shared#opaque")) :: (PySem.DictEntry.mk (PySem.PyData.keyHash P (PySem.Str.ofString "__spec__")) (PySem.Value.str (PySem.Str.ofString "__spec__") (252 : Nat)) (PySem.Value.builtin "off-the-table:_sre.__spec__:shared#opaque")) :: (PySem.DictEntry.mk (PySem.PyData.keyHash P (PySem.Str.ofString "compile")) (PySem.Value.str (PySem.Str.ofString "compile") (253 : Nat)) (PySem.Value.builtin "_sre.compile")) :: (PySem.DictEntry.mk (PySem.PyData.keyHash P (PySem.Str.ofString "template")) (PySem.Value.str (PySem.Str.ofString "template") (254 : Nat)) (PySem.Value.builtin "off-the-table:_sre.template:shared#opaque")) :: (PySem.DictEntry.mk (PySem.PyData.keyHash P (PySem.Str.ofString "getcodesize")) (PySem.Value.str (PySem.Str.ofString "getcodesize") (255 : Nat)) (PySem.Value.builtin "off-the-table:_sre.getcodesize:shared#opaque")) :: (PySem.DictEntry.mk (PySem.PyData.keyHash P (PySem.Str.ofString "ascii_iscased")) (PySem.Value.str (PySem.Str.ofString "ascii_iscased") (256 : Nat)) (PySem.Value.builtin "off-the-table:_sre.ascii_iscased:shared#opaque")) :: (PySem.DictEntry.mk (PySem.PyData.keyHash P (PySem.Str.ofString "unicode_iscased")) (PySem.Value.str (PySem.Str.ofString "unicode_iscased") (257 : Nat)) (PySem.Value.builtin "off-the-table:_sre.unicode_iscased:shared#opaque")) :: (PySem.DictEntry.mk (PySem.PyData.keyHash P (PySem.Str.ofString "ascii_tolower")) (PySem.Value.str (PySem.Str.ofString "ascii_tolower") (258 : Nat)) (PySem.Value.builtin "off-the-table:_sre.ascii_tolower:shared#opaque")) :: (PySem.DictEntry.mk (PySem.PyData.keyHash P (PySem.Str.ofString "unicode_tolower")) (PySem.Value.str (PySem.Str.ofString "unicode_tolower") (259 : Nat)) (PySem.Value.builtin "off-the-table:_sre.unicode_tolower:shared#opaque")) :: (PySem.DictEntry.mk (PySem.PyData.keyHash P (PySem.Str.ofString "MAGIC")) (PySem.Value.str (PySem.Str.ofString "MAGIC") (261 : Nat)) (PySem.Value.int 20230612 (260 : Nat))) :: (PySem.DictEntry.mk (PySem.PyData.keyHash P (PySem.Str.ofString "CODESIZE")) (PySem.Value.str (PySem.Str.ofString "CODESIZE") (263 : Nat)) (PySem.Value.int 4 (262 : Nat))) :: (PySem.DictEntry.mk (PySem.PyData.keyHash P (PySem.Str.ofString "MAXREPEAT")) (PySem.Value.str (PySem.Str.ofString "MAXREPEAT") (265 : Nat)) (PySem.Value.int 4294967295 (264 : Nat))) :: (PySem.DictEntry.mk (PySem.PyData.keyHash P (PySem.Str.ofString "MAXGROUPS")) (PySem.Value.str (PySem.Str.ofString "MAXGROUPS") (267 : Nat)) (PySem.Value.int 1073741823 (266 : Nat))) :: (PySem.DictEntry.mk (PySem.PyData.keyHash P (PySem.Str.ofString "copyright")) (PySem.Value.str (PySem.Str.ofString "copyright") (269 : Nat)) (PySem.Value.str (PySem.Str.ofString " SRE 2.2.2 Copyright (c) 1997-2002 by Secret Labs AB ") (268 : Nat))) :: [])) (17 : Nat)) (List.toArray []))
noncomputable def ob12 (P : Params) : Obj := (PySem.Obj.mk (PySem.Value.type "module") (Option.some (11 : Nat)) PySem.Data.plain (List.toArray []))
noncomputable def ob13 (P : Params) : Obj := (PySem.Obj.mk (PySem.Value.type "dict") (@Option.none Nat) (PySem.Data.dict (List.toArray ((PySem.DictEntry.mk (PySem.PyData.keyHash P (PySem.Str.ofString "__module__")) (PySem.Value.str (PySem.Str.ofString "__module__") (189 : Nat)) (PySem.Value.str (PySem.Str.ofString "_frozen_importlib") (186 : Nat))) :: (PySem.DictEntry.mk (PySem.PyData.keyHash P (PySem.Str.ofString "__firstlineno__")) (PySem.Value.str (PySem.Str.ofString "__firstlineno__") (190 : Nat)) (PySem.Value.int 971 (187 : Nat))) :: (PySem.DictEntry.mk (PySem.PyData.keyHash P (PySem.Str.ofString "__doc__")) (PySem.Value.str (PySem.Str.ofString "__doc__") (191 : Nat)) (PySem.Value.builtin "_frozen_importlib.BuiltinImporter.__doc__:str#opaque")) :: (PySem.DictEntry.mk (PySem.PyData.keyHash P (PySem.Str.ofString "_ORIGIN")) (PySem.Value.str (PySem.Str.ofString "_ORIGIN") (192 : Nat)) (PySem.Value.str (PySem.Str.ofString "built-in") (188 : Nat))) :: (PySem.DictEntry.mk (PySem.PyData.keyHash P (PySem.Str.ofString "find_spec")) (PySem.Value.str (PySem.Str.ofString "find_spec") (193 : Nat)) (PySem.Value.builtin "_frozen_importlib.BuiltinImporter.find_spec#opaque")) :: (PySem.DictEntry.mk (PySem.PyData.keyHash P (PySem.Str.ofString "create_module")) (PySem.Value.str (PySem.Str.ofString "create_module") (194 : Nat)) (PySem.Value.builtin "_frozen_importlib.BuiltinImporter.create_module#opaque")) :: (PySem.DictEntry.mk (PySem.PyData.keyHash P (PySem.Str.ofString "exec_module")) (PySem.Value.str (PySem.Str.ofString "exec_module") (195 : Nat)) (PySem.Value.builtin "_frozen_importlib.BuiltinImporter.exec_module#opaque")) :: (PySem.DictEntry.mk (PySem.PyData.keyHash P (PySem.Str.ofString "get_code")) (PySem.Value.str (PySem.Str.ofString "get_code") (196 : Nat)) (PySem.Value.builtin "_frozen_importlib.BuiltinImporter.get_code#opaque")) :: (PySem.DictEntry.mk (PySem.PyData.keyHash P (PySem.Str.ofString "get_source")) (PySem.Value.str (PySem.Str.ofString "get_source") (197 : Nat)) (PySem.Value.builtin "_frozen_importlib.BuiltinImporter.get_source#opaque")) :: (PySem.DictEntry.mk (PySem.PyData.keyHash P (PySem.Str.ofString "is_package")) (PySem.Value.str (PySem.Str.ofString "is_package") (198 : Nat)) (PySem.Value.builtin "_frozen_importlib.BuiltinImporter.is_package#opaque")) :: (PySem.DictEntry.mk (PySem.PyData.keyHash P (PySem.Str.ofString "load_module")) (PySem.Value.str (PySem.Str.ofString "load_module") (199 : Nat)) (PySem.Value.builtin "_frozen_importlib.BuiltinImporter.load_module#opaque")) :: (PySem.DictEntry.mk (PySem.PyData.keyHash P (PySem.Str.ofString "__static_attributes__")) (PySem.Value.str (PySem.Str.ofString "__static_attributes__") (200 : Nat)) (PySem.Value.ref (15 : Nat))) :: (PySem.DictEntry.mk (PySem.PyData.keyHash P (PySem.Str.ofString "__dict__")) (PySem.Value.str (PySem.Str.ofString "__dict__") (202 : Nat)) (PySem.Value.ref (16 : Nat))) :: (PySem.DictEntry.mk (PySem.PyData.keyHash P (PySem.Str.ofString "__weakref__")) (PySem.Value.str (PySem.Str.ofString "__weakref__") (204 : Nat)) (PySem.Value.ref (17 : Nat))) :: [])) (14 : Nat)) (List.toArray []))
noncomputable def ob14 (P : Params) : Obj := (PySem.Obj.mk (PySem.Value.type "type") (@Option.none Nat) (PySem.Data.cls (PySem.ClassData.mk (PySem.Str.ofString "BuiltinImporter") [(PySem.Value.type "object")] [(PySem.Value.ref (14 : Nat)), (PySem.Value.type "object")] (13 : Nat) (PySem.Str.ofString "BuiltinImporter") Bool.true [] [] Bool.false (@Option.none Bool) Bool.false)) (List.toArray []))
noncomputable def ob15 (P : Params) : Obj := (PySem.Obj.mk (PySem.Value.type "tuple") (@Option.none Nat) (PySem.Data.seq (List.toArray []) (0 : Nat)) (List.toArray []))
noncomputable def ob16 (P : Params) : Obj := (PySem.Obj.mk (PySem.Value.type "getset_descriptor") (@Option.none Nat) (PySem.Data.fields (List.toArray [(PySem.Value.str (PySem.Str.ofString "__dict__") (201 : Nat)), (PySem.Value.ref (14 : Nat)), (PySem.Value.builtin "function.__dict__"), (PySem.Value.builtin "function.__dict__#set")])) (List.toArray []))
noncomputable def ob17 (P : Params) : Obj := (PySem.Obj.mk (PySem.Value.type "getset_descriptor") (@Option.none Nat) (PySem.Data.fields (List.toArray [(PySem.Value.str (PySem.Str.ofString "__weakref__") (203 : Nat)), (PySem.Value.ref (14 : Nat)), (PySem.Value.builtin "ExceptionGroup.__weakref__"), PySem.Value.none])) (List.toArray []))
noncomputable def ob18 (P : Params) : Obj := (PySem.Obj.mk PySem.Value.none (@Option.none Nat) (PySem.Data.seq (List.toArray [(PySem.Value.int 13 (0 : Nat)), (PySem.Value.str (PySem.Str.ofString "\x06\u00bd\x0a__module__\x06\u00ba\x11_frozen_importlib\x06\u00be\x0f__firstlineno__\x04\u00bb\x00\u03cb\x06\u00bf\x07__doc__\x094_frozen_importlib.BuiltinImporter.__doc__:str#opaque\x06\u00c0\x07_ORIGIN\x06\u00bc\x08built-in\x06\u00c1\x09find_spec\x092_frozen_importlib.BuiltinImporter.find_spec#opaque\x06\u00c2\x0dcreate_module\x096_frozen_importlib.BuiltinImporter.create_module#opaque\x06\u00c3\x0bexec_module\x094_frozen_importlib.BuiltinImporter.exec_module#opaque\x06\u00c4\x08get_code\x091_frozen_importlib.BuiltinImporter.get_code#opaque\x06\u00c5\x0aget_source\x093_frozen_importlib.BuiltinImporter.get_source#opaque\x06\u00c6\x0ais_package\x093_frozen_importlib.BuiltinImporter.is_package#opaque\x06\u00c7\x0bload_module\x094_frozen_importlib.BuiltinImporter.load_module#opaque\x06\u00c8\x15__static_attributes__\x04\x00\x00\x0f\x06\u00ca\x08__dict__\x04\x00\x00\x10\x06\u00cc\x0b__weakref__\x04\x00\x00\x11") (0 : Nat)), (PySem.Value.bool Bool.true), (PySem.Value.bool Bool.true), (PySem.Value.str (PySem.Str.ofString "") (205 : Nat)), (PySem.Value.int 21 (0 : Nat)), (PySem.Value.str (PySem.Str.ofString "\x06\u00e3\x0a__module__\x06\u00d9\x11_frozen_importlib\x06\u00e4\x0f__firstlineno__\x04\u00da\x00\u0232\x06\u00e5\x07__doc__\x09/_frozen_importlib.ModuleSpec.__doc__:str#opaque\x06\u00e6\x08__init__\x09,_frozen_importlib.ModuleSpec.__init__#opaque\x06\u00e7\x08__repr__\x09,_frozen_importlib.ModuleSpec.__repr__#opaque\x06\u00e8\x06__eq__\x09*_frozen_importlib.ModuleSpec.__eq__#opaque\x06\u00e9\x06cached\x09*_frozen_importlib.ModuleSpec.cached#opaque\x06\u00ea\x06parent\x09*_frozen_importlib.ModuleSpec.parent#opaque\x06\u00eb\x0chas_location\x090_frozen_importlib.ModuleSpec.has_location#opaque\x06\u00ec\x15__static_attributes__\x04\x00\x00\x17\x06\u00ee\x08__dict__\x04\x00\x00\x18\x06\u00f0\x0b__weakref__\x04\x00\x00\x19\x06\u00f1\x08__hash__\x00") (0 : Nat)), (PySem.Value.bool Bool.true), (PySem.Value.bool Bool.true), (PySem.Value.str (PySem.Str.ofString "") (242 : Nat))]) (1 : Nat)) (List.toArray []))
noncomputable def ob19 (P : Params) : Obj := (PySem.Obj.mk (PySem.Value.type "list") (@Option.none Nat) (PySem.Data.seq (List.toArray []) (0 : Nat)) (List.toArray []))
noncomputable def ob20 (P : Params) : Obj := (PySem.Obj.mk (PySem.Value.type "dict") (@Option.none Nat) (PySem.Data.dict (List.toArray [(PySem.DictEntry.mk (PySem.PyData.keyHash P (PySem.Str.ofString "name")) (PySem.Value.str (PySem.Str.ofString "name") (208 : Nat)) (PySem.Value.str (PySem.Str.ofString "_sre") (207 : Nat))), (PySem.DictEntry.mk (PySem.PyData.keyHash P (PySem.Str.ofString "loader")) (PySem.Value.str (PySem.Str.ofString "loader") (209 : Nat)) (PySem.Value.ref (14 : Nat))), (PySem.DictEntry.mk (PySem.PyData.keyHash P (PySem.Str.ofString "origin")) (PySem.Value.str (PySem.Str.ofString "origin") (210 : Nat)) (PySem.Value.str (PySem.Str.ofString "built-in") (184 : Nat))), (PySem.DictEntry.mk (PySem.PyData.keyHash P (PySem.Str.ofString "loader_state")) (PySem.Value.str (PySem.Str.ofString "loader_state") (211 : Nat)) PySem.Value.none), (PySem.DictEntry.mk (PySem.PyData.keyHash P (PySem.Str.ofString "submodule_search_locations")) (PySem.Value.str (PySem.Str.ofString "submodule_search_locations") (212 : Nat)) PySem.Value.none), (PySem.DictEntry.mk (PySem.PyData.keyHash P (PySem.Str.ofString "_uninitialized_submodules")) (PySem.Value.str (PySem.Str.ofString "_uninitialized_submodules") (213 : Nat)) (PySem.Value.ref (19 : Nat))), (PySem.DictEntry.mk (PySem.PyData.keyHash P (PySem.Str.ofString "_set_fileattr")) (PySem.Value.str (PySem.Str.ofString "_set_fileattr") (214 : Nat)) (PySem.Value.bool Bool.false)), (PySem.DictEntry.mk (PySem.PyData.keyHash P (PySem.Str.ofString "_cached")) (PySem.Value.str (PySem.Str.ofString "_cached") (215 : Nat)) PySem.Value.none), (PySem.DictEntry.mk (PySem.PyData.keyHash P (PySem.Str.ofString "_initializing")) (PySem.Value.str (PySem.Str.ofString "_initializing") (243 : Nat)) (PySem.Value.bool Bool.false))]) (9 : Nat)) (List.toArray []))
noncomputable def ob21 (P : Params) : Obj := (PySem.Obj.mk (PySem.Value.type "dict") (@Option.none Nat) (PySem.Data.dict (List.toArray ((PySem.DictEntry.mk (PySem.PyData.keyHash P (PySem.Str.ofString "__module__")) (PySem.Value.str (PySem.Str.ofString "__module__") (227 : Nat)) (PySem.Value.str (PySem.Str.ofString "_frozen_importlib") (217 : Nat))) :: (PySem.DictEntry.mk (PySem.PyData.keyHash P (PySem.Str.ofString "__firstlineno__")) (PySem.Value.str (PySem.Str.ofString "__firstlineno__") (228 : Nat)) (PySem.Value.int 562 (218 : Nat))) :: (PySem.DictEntry.mk (PySem.PyData.keyHash P (PySem.Str.ofString "__doc__")) (PySem.Value.str (PySem.Str.ofString "__doc__") (229 : Nat)) (PySem.Value.builtin "_frozen_importlib.ModuleSpec.__doc__:str#opaque")) :: (PySem.DictEntry.mk (PySem.PyData.keyHash P (PySem.Str.ofString "__init__")) (PySem.Value.str (PySem.Str.ofString "__init__") (230 : Nat)) (PySem.Value.builtin "_frozen_importlib.ModuleSpec.__init__#opaque")) :: (PySem.DictEntry.mk (PySem.PyData.keyHash P (PySem.Str.ofString "__repr__")) (PySem.Value.str (PySem.Str.ofString "__repr__") (231 : Nat)) (PySem.Value.builtin "_frozen_importlib.ModuleSpec.__repr__#opaque")) :: (PySem.DictEntry.mk (PySem.PyData.keyHash P (PySem.Str.ofString "__eq__")) (PySem.Value.str (PySem.Str.ofString "__eq__") (232 : Nat)) (PySem.Value.builtin "_frozen_importlib.ModuleSpec.__eq__#opaque")) :: (PySem.DictEntry.mk (PySem.PyData.keyHash P (PySem.Str.ofString "cached")) (PySem.Value.str (PySem.Str.ofString "cached") (233 : Nat)) (PySem.Value.builtin "_frozen_importlib.ModuleSpec.cached#opaque")) :: (PySem.DictEntry.mk (PySem.PyData.keyHash P (PySem.Str.ofString "parent")) (PySem.Value.str (PySem.Str.ofString "parent") (234 : Nat)) (PySem.Value.builtin "_frozen_importlib.ModuleSpec.parent#opaque")) :: (PySem.DictEntry.mk (PySem.PyData.keyHash P (PySem.Str.ofString "has_location")) (PySem.Value.str (PySem.Str.ofString "has_location") (235 : Nat)) (PySem.Value.builtin "_frozen_importlib.ModuleSpec.has_location#opaque")) :: (PySem.DictEntry.mk (PySem.PyData.keyHash P (PySem.Str.ofString "__static_attributes__")) (PySem.Value.str (PySem.Str.ofString "__static_attributes__") (236 : Nat)) (PySem.Value.ref (23 : Nat))) :: (PySem.DictEntry.mk (PySem.PyData.keyHash P (PySem.Str.ofString "__dict__")) (PySem.Value.str (PySem.Str.ofString "__dict__") (238 : Nat)) (PySem.Value.ref (24 : Nat))) :: (PySem.DictEntry.mk (PySem.PyData.keyHash P (PySem.Str.ofString "__weakref__")) (PySem.Value.str (PySem.Str.ofString "__weakref__") (240 : Nat)) (PySem.Value.ref (25 : Nat))) :: (PySem.DictEntry.mk (PySem.PyData.keyHash P (PySem.Str.ofString "__hash__")) (PySem.Value.str (PySem.Str.ofString "__hash__") (241 : Nat)) PySem.Value.none) :: [])) (13 : Nat)) (List.toArray []))
noncomputable def ob22 (P : Params) : Obj := (PySem.Obj.mk (PySem.Value.type "type") (@Option.none Nat) (PySem.Data.cls (PySem.ClassData.mk (PySem.Str.ofString "ModuleSpec") [(PySem.Value.type "object")] [(PySem.Value.ref (22 : Nat)), (PySem.Value.type "object")] (21 : Nat) (PySem.Str.ofString "ModuleSpec") Bool.true [] [] Bool.false (@Option.none Bool) Bool.false)) (List.toArray []))
noncomputable def ob23 (P : Params) : Obj := (PySem.Obj.mk (PySem.Value.type "tuple") (@Option.none Nat) (PySem.Data.seq (List.toArray [(PySem.Value.str (PySem.Str.ofString "_cached") (219 : Nat)), (PySem.Value.str (PySem.Str.ofString "_set_fileattr") (220 : Nat)), (PySem.Value.str (PySem.Str.ofString "_uninitialized_submodules") (221 : Nat)), (PySem.Value.str (PySem.Str.ofString "loader") (222 : Nat)), (PySem.Value.str (PySem.Str.ofString "loader_state") (223 : Nat)), (PySem.Value.str (PySem.Str.ofString "name") (224 : Nat)), (PySem.Value.str (PySem.Str.ofString "origin") (225 : Nat)), (PySem.Value.str (PySem.Str.ofString "submodule_search_locations") (226 : Nat))]) (0 : Nat)) (List.toArray []))
noncomputable def ob24 (P : Params) : Obj := (PySem.Obj.mk (PySem.Value.type "getset_descriptor") (@Option.none Nat) (PySem.Data.fields (List.toArray [(PySem.Value.str (PySem.Str.ofString "__dict__") (237 : Nat)), (PySem.Value.ref (22 : Nat)), (PySem.Value.builtin "function.__dict__"), (PySem.Value.builtin "function.__dict__#set")])) (List.toArray []))
noncomputable def ob25 (P : Params) : Obj := (PySem.Obj.mk (PySem.Value.type "getset_descriptor") (@Option.none Nat) (PySem.Data.fields (List.toArray [(PySem.Value.str (PySem.Str.ofString "__weakref__") (239 : Nat)), (PySem.Value.ref (22 : Nat)), (PySem.Value.builtin "ExceptionGroup.__weakref__"), PySem.Value.none])) (List.toArray []))
noncomputable def ob26 (P : Params) : Obj := (PySem.Obj.mk (PySem.Value.ref (22 : Nat)) (Option.some (20 : Nat)) PySem.Data.plain (List.toArray []))
noncomputable def ob27 (P : Params) : Obj := (PySem.Obj.mk PySem.Value.none (@Option.none Nat) (PySem.Data.seq (List.toArray [(PySem.Value.int 11 (0 : Nat)), (PySem.Value.str (PySem.Str.mk (List.toArray ((6 : Nat) :: (247 : Nat) :: (8 : Nat) :: (95 : Nat) :: (95 : Nat) :: (110 : Nat) :: (97 : Nat) :: (109 : Nat) :: (101 : Nat) :: (95 : Nat) :: (95 : Nat) :: (6 : Nat) :: (246 : Nat) :: (4 : Nat) :: (95 : Nat) :: (115 : Nat) :: (114 : Nat) :: (101 : Nat) :: (6 : Nat) :: (248 : Nat) :: (7 : Nat) :: (95 : Nat) :: (95 : Nat) :: (100 : Nat) :: (111 : Nat) :: (99 : Nat) :: (95 : Nat) :: (95 : Nat) :: (0 : Nat) :: (6 : Nat) :: (250 : Nat) :: (11 : Nat) :: (95 : Nat) :: (95 : Nat) :: (112 : Nat) :: (97 : Nat) :: (99 : Nat) :: (107 : Nat) :: (97 : Nat) :: (103 : Nat) :: (101 : Nat) :: (95 : Nat) :: (95 : Nat) :: (6 : Nat) :: (249 : Nat) :: (0 : Nat) :: (6 : Nat) :: (251 : Nat) :: (10 : Nat) :: (95 : Nat) :: (95 : Nat) :: (108 : Nat) :: (111 : Nat) :: (97 : Nat) :: (100 : Nat) :: (101 : Nat) :: (114 : Nat) :: (95 : Nat) :: (95 : Nat) :: (4 : Nat) :: (0 : Nat) :: (0 : Nat) :: (14 : Nat) :: (6 : Nat) :: (252 : Nat) :: (8 : Nat) :: (95 : Nat) :: (95 : Nat) :: (115 : Nat) :: (112 : Nat) :: (101 : Nat) :: (99 : Nat) :: (95 : Nat) :: (95 : Nat) :: (4 : Nat) :: (0 : Nat) :: (0 : Nat) :: (26 : Nat) :: (6 : Nat) :: (253 : Nat) :: (7 : Nat) :: (99 : Nat) :: (111 : Nat) :: (109 : Nat) :: (112 : Nat) :: (105 : Nat) :: (108 : Nat) :: (101 : Nat) :: (9 : Nat) :: (12 : Nat) :: (95 : Nat) :: (115 : Nat) :: (114 : Nat) :: (101 : Nat) :: (46 : Nat) :: (99 : Nat) :: (111 : Nat) :: (109 : Nat) :: (112 : Nat) :: (105 : Nat) :: (108 : Nat) :: (101 : Nat) :: (6 : Nat) :: (254 : Nat) :: (8 : Nat) :: (116 : Nat) :: (101 : Nat) :: (109 : Nat) :: (112 : Nat) :: (108 : Nat) :: (97 : Nat) :: (116 : Nat) :: (101 : Nat) :: (9 : Nat) :: (13 : Nat) :: (95 : Nat) :: (115 : Nat) :: (114 : Nat) :: (101 : Nat) :: (46 : Nat) :: (116 : Nat) :: (101 : Nat) :: (109 : Nat) :: (112 : Nat) :: (108 : Nat) :: (97 : Nat) :: (116 : Nat) :: (101 : Nat) :: (6 : Nat) :: (255 : Nat) :: (11 : Nat) :: (103 : Nat) :: (101 : Nat) :: (116 : Nat) :: (99 : Nat) :: (111 : Nat) :: (100 : Nat) :: (101 : Nat) :: (115 : Nat) :: (105 : Nat) :: (122 : Nat) :: (101 : Nat) :: (9 : Nat) :: (16 : Nat) :: (95 : Nat) :: (115 : Nat) :: (114 : Nat) :: (101 : Nat) :: (46 : Nat) :: (103 : Nat) :: (101 : Nat) :: (116 : Nat) :: (99 : Nat) :: (111 : Nat) :: (100 : Nat) :: (101 : Nat) :: (115 : Nat) :: (105 : Nat) :: (122 : Nat) :: (101 : Nat) :: (6 : Nat) :: (256 : Nat) :: (13 : Nat) :: (97 : Nat) :: (115 : Nat) :: (99 : Nat) :: (105 : Nat) :: (105 : Nat) :: (95 : Nat) :: (105 : Nat) :: (115 : Nat) :: (99 : Nat) :: (97 : Nat) :: (115 : Nat) :: (101 : Nat) :: (100 : Nat) :: (9 : Nat) :: (18 : Nat) :: (95 : Nat) :: (115 : Nat) :: (114 : Nat) :: (101 : Nat) :: (46 : Nat) :: (97 : Nat) :: (115 : Nat) :: (99 : Nat) :: (105 : Nat) :: (105 : Nat) :: (95 : Nat) :: (105 : Nat) :: (115 : Nat) :: (99 : Nat) :: (97 : Nat) :: (115 : Nat) :: (101 : Nat) :: (100 : Nat) :: (6 : Nat) :: (257 : Nat) :: (15 : Nat) :: (117 : Nat) :: (110 : Nat) :: (105 : Nat) :: (99 : Nat) :: (111 : Nat) :: (100 : Nat) :: (101 : Nat) :: (95 : Nat) :: (105 : Nat) :: (115 : Nat) :: (99 : Nat) :: (97 : Nat) :: (115 : Nat) :: (101 : Nat) :: (100 : Nat) :: (9 : Nat) :: (20 : Nat) :: (95 : Nat) :: (115 : Nat) :: (114 : Nat) :: (101 : Nat) :: (46 : Nat) :: (117 : Nat) :: (110 : Nat) :: (105 : Nat) :: (99 : Nat) :: (111 : Nat) :: (100 : Nat) :: (101 : Nat) :: (95 : Nat) :: (105 : Nat) :: (115 : Nat) :: (99 : Nat) :: (97 : Nat) :: (115 : Nat) :: (101 : Nat) :: (100 : Nat) :: (6 : Nat) :: (258 : Nat) :: (13 : Nat) :: (97 : Nat) :: (115 : Nat) :: (99 : Nat) :: (105 : Nat) :: (105 : Nat) :: (95 : Nat) :: (116 : Nat) :: (111 : Nat) :: (108 : Nat) :: (111 : Nat) :: (119 : Nat) :: (101 : Nat) :: (114 : Nat) :: (9 : Nat) :: (18 : Nat) :: (95 : Nat) :: (115 : Nat) :: (114 : Nat) :: (101 : Nat) :: (46 : Nat) :: (97 : Nat) :: (115 : Nat) :: (99 : Nat) :: (105 : Nat) :: (105 : Nat) :: (95 : Nat) :: (116 : Nat) :: (111 : Nat) :: (108 : Nat) :: (111 : Nat) :: (119 : Nat) :: (101 : Nat) :: (114 : Nat) :: (6 : Nat) :: (259 : Nat) :: (15 : Nat) :: (117 : Nat) :: (110 : Nat) :: (105 : Nat) :: (99 : Nat) :: (111 : Nat) :: (100 : Nat) :: (101 : Nat) :: (95 : Nat) :: (116 : Nat) :: (111 : Nat) :: (108 : Nat) :: (111 : Nat) :: (119 : Nat) :: (101 : Nat) :: (114 : Nat) :: (9 : Nat) :: (20 : Nat) :: (95 : Nat) :: (115 : Nat) :: (114 : Nat) :: (101 : Nat) :: (46 : Nat) :: (117 : Nat) :: (110 : Nat) :: (105 : Nat) :: (99 : Nat) :: (111 : Nat) :: (100 : Nat) :: (101 : Nat) :: (95 : Nat) :: (116 : Nat) :: (111 : Nat) :: (108 : Nat) :: (111 : Nat) :: (119 : Nat) :: (101 : Nat) :: (114 : Nat) :: (6 : Nat) :: (261 : Nat) :: (5 : Nat) :: (77 : Nat) :: (65 : Nat) :: (71 : Nat) :: (73 : Nat) :: (67 : Nat) :: (4 : Nat) :: (260 : Nat) :: (0 : Nat) :: (20230612 : Nat) :: (6 : Nat) :: (263 : Nat) :: (8 : Nat) :: (67 : Nat) :: (79 : Nat) :: (68 : Nat) :: (69 : Nat) :: (83 : Nat) :: (73 : Nat) :: (90 : Nat) :: (69 : Nat) :: (4 : Nat) :: (262 : Nat) :: (0 : Nat) :: (4 : Nat) :: (6 : Nat) :: (265 : Nat) :: (9 : Nat) :: (77 : Nat) :: (65 : Nat) :: (88 : Nat) :: (82 : Nat) :: (69 : Nat) :: (80 : Nat) :: (69 : Nat) :: (65 : Nat) :: (84 : Nat) :: (4 : Nat) :: (264 : Nat) :: (0 : Nat) :: (4294967295 : Nat) :: (6 : Nat) :: (267 : Nat) :: (9 : Nat) :: (77 : Nat) :: (65 : Nat) :: (88 : Nat) :: (71 : Nat) :: (82 : Nat) :: (79 : Nat) :: (85 : Nat) :: (80 : Nat) :: (83 : Nat) :: (4 : Nat) :: (266 : Nat) :: (0 : Nat) :: (1073741823 : Nat) :: (6 : Nat) :: (269 : Nat) :: (9 : Nat) :: (99 : Nat) :: (111 : Nat) :: (112 : Nat) :: (121 : Nat) :: (114 : Nat) :: (105 : Nat) :: (103 : Nat) :: (104 : Nat) :: (116 : Nat) :: (6 : Nat) :: (268 : Nat) :: (53 : Nat) :: (32 : Nat) :: (83 : Nat) :: (82 : Nat) :: (69 : Nat) :: (32 : Nat) :: (50 : Nat) :: (46 : Nat) :: (50 : Nat) :: (46 : Nat) :: (50 : Nat) :: (32 : Nat) :: (67 : Nat) :: (111 : Nat) :: (112 : Nat) :: (121 : Nat) :: (114 : Nat) :: (105 : Nat) :: (103 : Nat) :: (104 : Nat) :: (116 : Nat) :: (32 : Nat) :: (40 : Nat) :: (99 : Nat) :: (41 : Nat) :: (32 : Nat) :: (49 : Nat) :: (57 : Nat) :: (57 : Nat) :: (55 : Nat) :: (45 : Nat) :: (50 : Nat) :: (48 : Nat) :: (48 : Nat) :: (50 : Nat) :: (32 : Nat) :: (98 : Nat) :: (121 : Nat) :: (32 : Nat) :: (83 : Nat) :: (101 : Nat) :: (99 : Nat) :: (114 : Nat) :: (101 : Nat) :: (116 : Nat) :: (32 : Nat) :: (76 : Nat) :: (97 : Nat) :: (98 : Nat) :: (115 : Nat) :: (32 : Nat) :: (65 : Nat) :: (66 : Nat) :: (32 : Nat) :: []))) (0 : Nat)), (PySem.Value.bool Bool.true), (PySem.Value.bool Bool.false), (PySem.Value.str (PySem.Str.ofString "_sre") (271 : Nat))]) (0 : Nat)) (List.toArray []))
noncomputable def ob28 (P : Params) : Obj := (PySem.Obj.mk (PySem.Value.type "tuple") (@Option.none Nat) (PySem.Data.seq (List.toArray []) (0 : Nat)) (List.toArray []))
noncomputable def ob29 (P : Params) : Obj := (PySem.Obj.mk PySem.Value.none (@Option.none Nat) (PySem.Data.fields (List.toArray ((PySem.Value.int 2 (0 : Nat)) :: (PySem.Value.int 0 (0 : Nat)) :: (PySem.Value.ref (37 : Nat)) :: (PySem.Value.int 6 (0 : Nat)) :: (PySem.Value.int 0 (0 : Nat)) :: (PySem.Value.ref (44 : Nat)) :: (PySem.Value.int 8 (0 : Nat)) :: (PySem.Value.int 0 (0 : Nat)) :: (PySem.Value.ref (57 : Nat)) :: (PySem.Value.int 20 (0 : Nat)) :: (PySem.Value.int 0 (0 : Nat)) :: (PySem.Value.ref (64 : Nat)) :: (PySem.Value.int 33 (0 : Nat)) :: (PySem.Value.int 0 (0 : Nat)) :: (PySem.Value.ref (71 : Nat)) :: (PySem.Value.int 40 (0 : Nat)) :: (PySem.Value.int 0 (0 : Nat)) :: (PySem.Value.ref (78 : Nat)) :: (PySem.Value.int 46 (0 : Nat)) :: (PySem.Value.int 0 (0 : Nat)) :: (PySem.Value.ref (86 : Nat)) :: (PySem.Value.int 69 (0 : Nat)) :: (PySem.Value.int 0 (0 : Nat)) :: (PySem.Value.ref (95 : Nat)) :: (PySem.Value.int 87 (0 : Nat)) :: (PySem.Value.int 0 (0 : Nat)) :: (PySem.Value.ref (103 : Nat)) :: (PySem.Value.int 93 (0 : Nat)) :: (PySem.Value.int 0 (0 : Nat)) :: (PySem.Value.ref (110 : Nat)) :: (PySem.Value.int 97 (0 : Nat)) :: (PySem.Value.int 0 (0 : Nat)) :: (PySem.Value.ref (122 : Nat)) :: []))) (List.toArray []))
noncomputable def ob30 (P : Params) : Obj := (PySem.Obj.mk (PySem.Value.type "code") (@Option.none Nat) (PySem.Data.fields (List.toArray ((PySem.Value.str (PySem.Str.ofString "<module>") (277 : Nat)) :: (PySem.Value.str (PySem.Str.ofString "<module>") (278 : Nat)) :: (PySem.Value.str (PySem.Str.ofString "/claim/cut.py") (279 : Nat)) :: (PySem.Value.int 1 (0 : Nat)) :: (PySem.Value.int 0 (0 : Nat)) :: (PySem.Value.int 0 (0 : Nat)) :: (PySem.Value.int 0 (0 : Nat)) :: (PySem.Value.int 0 (0 : Nat)) :: (PySem.Value.ref (28 : Nat)) :: (PySem.Value.bool Bool.false) :: (PySem.Value.int 276 (0 : Nat)) :: (PySem.Value.ref (29 : Nat)) :: PySem.Value.none :: PySem.Value.none :: PySem.Value.none :: PySem.Value.none :: (PySem.Value.int 280 (0 : Nat)) :: (PySem.Value.int 1 (0 : Nat)) :: (PySem.Value.str (PySem.Str.ofString "/claim/cut.py") (281 : Nat)) :: []))) (List.toArray []))
noncomputable def ob31 (P : Params) : Obj := (PySem.Obj.mk (PySem.Value.type "frame") (@Option.none Nat) PySem.Data.plain (List.toArray [(Option.some (PySem.Value.ref (30 : Nat))), (Option.some (PySem.Value.ref (3 : Nat))), (Option.some (PySem.Value.ref (3 : Nat))), (@Option.none PySem.Value), (Option.some (PySem.Value.str (PySem.Str.ofString "__main__") (164 : Nat))), (@Option.none PySem.Value), (Option.some (PySem.Value.ref (0 : Nat)))]))
noncomputable def ob32 (P : Params) : Obj := (PySem.Obj.mk (PySem.Value.type "tuple") (@Option.none Nat) (PySem.Data.seq (List.toArray []) (0 : Nat)) (List.toArray []))
noncomputable def ob33 (P : Params) : Obj := (PySem.Obj.mk PySem.Value.none (@Option.none Nat) (PySem.Data.fields (List.toArray [])) (List.toArray []))
noncomputable def ob34 (P : Params) : Obj := (PySem.Obj.mk (PySem.Value.type "tuple") (@Option.none Nat) (PySem.Data.seq (List.toArray [(PySem.Value.str (PySem.Str.ofString "k") (285 : Nat))]) (0 : Nat)) (List.toArray []))
noncomputable def ob35 (P : Params) : Obj := (PySem.Obj.mk (PySem.Value.type "tuple") (@Option.none Nat) (PySem.Data.seq (List.toArray []) (0 : Nat)) (List.toArray []))
noncomputable def ob36 (P : Params) : Obj := (PySem.Obj.mk PySem.Value.none (@Option.none Nat) (PySem.Data.func (PySem.FuncData.mk (PySem.Str.ofString "_wall") (PySem.Str.ofString "_wall") f1.1 (PySem.FuncBody.stmts f1.2.1) f1.2.2 (0 : Nat) [] PySem.Value.none PySem.Value.none PySem.Value.none PySem.Value.none (@Option.none Nat) PySem.Value.none PySem.Value.none (0 : Nat))) (List.toArray []))
noncomputable def ob37 (P : Params) : Obj := (PySem.Obj.mk (PySem.Value.type "code") (@Option.none Nat) (PySem.Data.fields (List.toArray ((PySem.Value.str (PySem.Str.ofString "_wall") (282 : Nat)) :: (PySem.Value.str (PySem.Str.ofString "_wall") (283 : Nat)) :: (PySem.Value.str (PySem.Str.ofString "/claim/cut.py") (284 : Nat)) :: (PySem.Value.int 2 (0 : Nat)) :: (PySem.Value.int 1 (0 : Nat)) :: (PySem.Value.int 0 (0 : Nat)) :: (PySem.Value.int 0 (0 : Nat)) :: (PySem.Value.int 3 (0 : Nat)) :: (PySem.Value.ref (32 : Nat)) :: (PySem.Value.bool Bool.true) :: (PySem.Value.int 276 (0 : Nat)) :: (PySem.Value.ref (33 : Nat)) :: PySem.Value.none :: (PySem.Value.ref (34 : Nat)) :: (PySem.Value.ref (35 : Nat)) :: (PySem.Value.ref (36 : Nat)) :: (PySem.Value.int 286 (0 : Nat)) :: (PySem.Value.int 2 (0 : Nat)) :: (PySem.Value.str (PySem.Str.ofString "/claim/cut.py") (287 : Nat)) :: []))) (List.toArray []))
noncomputable def ob38 (P : Params) : Obj := (PySem.Obj.mk (PySem.Value.type "function") (@Option.none Nat) (PySem.Data.func (PySem.FuncData.mk (PySem.Str.ofString "_wall") (PySem.Str.ofString "_wall") f1.1 (PySem.FuncBody.stmts f1.2.1) f1.2.2 (3 : Nat) [] PySem.Value.none PySem.Value.none PySem.Value.none (PySem.Value.str (PySem.Str.ofString "__main__") (164 : Nat)) (@Option.none Nat) (PySem.Value.ref (37 : Nat)) PySem.Value.none (0 : Nat))) (List.toArray []))
noncomputable def ob39 (P : Params) : Obj := (PySem.Obj.mk (PySem.Value.type "tuple") (@Option.none Nat) (PySem.Data.seq (List.toArray [(PySem.Value.type "ValueError")]) (0 : Nat)) (List.toArray []))
noncomputable def ob40 (P : Params) : Obj := (PySem.Obj.mk (PySem.Value.type "builtin_function_or_method") (@Option.none Nat) (PySem.Data.fields (List.toArray [(PySem.Value.builtin "type.__prepare__"), (PySem.Value.type "type")])) (List.toArray []))
noncomputable def ob41 (P : Params) : Obj := (PySem.Obj.mk (PySem.Value.type "dict") (@Option.none Nat) (PySem.Data.dict (List.toArray [(PySem.DictEntry.mk (PySem.PyData.keyHash P (PySem.Str.ofString "__module__")) (PySem.Value.str (PySem.Str.ofString "__module__") (298 : Nat)) (PySem.Value.str (PySem.Str.ofString "cpy313.tomllib._parser") (289 : Nat))), (PySem.DictEntry.mk (PySem.PyData.keyHash P (PySem.Str.ofString "__qualname__")) (PySem.Value.str (PySem.Str.ofString "__qualname__") (300 : Nat)) (PySem.Value.str (PySem.Str.ofString "TOMLDecodeError") (299 : Nat))), (PySem.DictEntry.mk (PySem.PyData.keyHash P (PySem.Str.ofString "__firstlineno__")) (PySem.Value.str (PySem.Str.ofString "__firstlineno__") (302 : Nat)) (PySem.Value.int 6 (301 : Nat))), (PySem.DictEntry.mk (PySem.PyData.keyHash P (PySem.Str.ofString "__static_attributes__")) (PySem.Value.str (PySem.Str.ofString "__static_attributes__") (303 : Nat)) (PySem.Value.ref (46 : Nat)))]) (4 : Nat)) (List.toArray []))
noncomputable def ob42 (P : Params) : Obj := (PySem.Obj.mk (PySem.Value.type "tuple") (@Option.none Nat) (PySem.Data.seq (List.toArray []) (0 : Nat)) (List.toArray []))
noncomputable def ob43 (P : Params) : Obj := (PySem.Obj.mk PySem.Value.none (@Option.none Nat) (PySem.Data.fields (List.toArray [])) (List.toArray []))
noncomputable def ob44 (P : Params) : Obj := (PySem.Obj.mk (PySem.Value.type "code") (@Option.none Nat) (PySem.Data.fields (List.toArray ((PySem.Value.str (PySem.Str.ofString "TOMLDecodeError") (293 : Nat)) :: (PySem.Value.str (PySem.Str.ofString "TOMLDecodeError") (294 : Nat)) :: (PySem.Value.str (PySem.Str.ofString "/claim/cut.py") (295 : Nat)) :: (PySem.Value.int 6 (0 : Nat)) :: (PySem.Value.int 0 (0 : Nat)) :: (PySem.Value.int 0 (0 : Nat)) :: (PySem.Value.int 0 (0 : Nat)) :: (PySem.Value.int 0 (0 : Nat)) :: (PySem.Value.ref (42 : Nat)) :: (PySem.Value.bool Bool.false) :: (PySem.Value.int 276 (0 : Nat)) :: (PySem.Value.ref (43 : Nat)) :: PySem.Value.none :: PySem.Value.none :: PySem.Value.none :: PySem.Value.none :: (PySem.Value.int 296 (0 : Nat)) :: (PySem.Value.int 6 (0 : Nat)) :: (PySem.Value.str (PySem.Str.ofString "/claim/cut.py") (297 : Nat)) :: []))) (List.toArray []))
noncomputable def ob45 (P : Params) : Obj := (PySem.Obj.mk (PySem.Value.type "frame") (@Option.none Nat) PySem.Data.plain (List.toArray [(Option.some (PySem.Value.ref (44 : Nat))), (Option.some (PySem.Value.ref (3 : Nat))), (Option.some (PySem.Value.ref (41 : Nat))), (@Option.none PySem.Value), (Option.some (PySem.Value.str (PySem.Str.ofString "cpy313.tomllib._parser") (289 : Nat))), (@Option.none PySem.Value), (Option.some (PySem.Value.ref (0 : Nat)))]))
noncomputable def ob46 (P : Params) : Obj := (PySem.Obj.mk (PySem.Value.type "tuple") (@Option.none Nat) (PySem.Data.seq (List.toArray []) (0 : Nat)) (List.toArray []))
noncomputable def ob47 (P : Params) : Obj := (PySem.Obj.mk (PySem.Value.type "dict") (@Option.none Nat) (PySem.Data.dict (List.toArray [(PySem.DictEntry.mk (PySem.PyData.keyHash P (PySem.Str.ofString "__module__")) (PySem.Value.str (PySem.Str.ofString "__module__") (298 : Nat)) (PySem.Value.str (PySem.Str.ofString "cpy313.tomllib._parser") (289 : Nat))), (PySem.DictEntry.mk (PySem.PyData.keyHash P (PySem.Str.ofString "__firstlineno__")) (PySem.Value.str (PySem.Str.ofString "__firstlineno__") (302 : Nat)) (PySem.Value.int 6 (301 : Nat))), (PySem.DictEntry.mk (PySem.PyData.keyHash P (PySem.Str.ofString "__static_attributes__")) (PySem.Value.str (PySem.Str.ofString "__static_attributes__") (303 : Nat)) (PySem.Value.ref (46 : Nat))), (PySem.DictEntry.mk (PySem.PyData.keyHash P (PySem.Str.ofString "__weakref__")) (PySem.Value.str (PySem.Str.ofString "__weakref__") (305 : Nat)) (PySem.Value.ref (49 : Nat))), (PySem.DictEntry.mk (PySem.PyData.keyHash P (PySem.Str.ofString "__doc__")) (PySem.Value.str (PySem.Str.ofString "__doc__") (306 : Nat)) PySem.Value.none)]) (3 : Nat)) (List.toArray []))
noncomputable def ob48 (P : Params) : Obj := (PySem.Obj.mk (PySem.Value.type "type") (@Option.none Nat) (PySem.Data.cls (PySem.ClassData.mk (PySem.Str.ofString "TOMLDecodeError") [(PySem.Value.type "ValueError")] [(PySem.Value.ref (48 : Nat)), (PySem.Value.type "ValueError"), (PySem.Value.type "Exception"), (PySem.Value.type "BaseException"), (PySem.Value.type "object")] (47 : Nat) (PySem.Str.ofString "TOMLDecodeError") Bool.true [] [] Bool.false (@Option.none Bool) Bool.false)) (List.toArray [(Option.some (PySem.Value.ref (39 : Nat))), (@Option.none PySem.Value), (Option.some (PySem.Value.str (PySem.Str.ofString "TOMLDecodeError") (291 : Nat))), (Option.some (PySem.Value.str (PySem.Str.ofString "TOMLDecodeError") (299 : Nat))), (Option.some (PySem.Value.builtin "ValueError.__new__")), (Option.some (PySem.Value.bool Bool.true))]))
noncomputable def ob49 (P : Params) : Obj := (PySem.Obj.mk (PySem.Value.type "getset_descriptor") (@Option.none Nat) (PySem.Data.fields (List.toArray [(PySem.Value.str (PySem.Str.ofString "__weakref__") (304 : Nat)), (PySem.Value.ref (48 : Nat)), (PySem.Value.builtin "ExceptionGroup.__weakref__"), PySem.Value.none])) (List.toArray []))
noncomputable def ob50 (P : Params) : Obj := (PySem.Obj.mk (PySem.Value.type "super") (@Option.none Nat) (PySem.Data.fields (List.toArray [(PySem.Value.ref (48 : Nat)), (PySem.Value.ref (48 : Nat)), (PySem.Value.ref (48 : Nat))])) (List.toArray []))
noncomputable def ob51 (P : Params) : Obj := (PySem.Obj.mk (PySem.Value.type "builtin_function_or_method") (@Option.none Nat) (PySem.Data.fields (List.toArray [(PySem.Value.builtin "object.__init_subclass__"), (PySem.Value.ref (48 : Nat))])) (List.toArray []))
noncomputable def ob52 (P : Params) : Obj := (PySem.Obj.mk (PySem.Value.type "tuple") (@Option.none Nat) (PySem.Data.seq (List.toArray []) (0 : Nat)) (List.toArray []))
noncomputable def ob53 (P : Params) : Obj := (PySem.Obj.mk PySem.Value.none (@Option.none Nat) (PySem.Data.fields (List.toArray [])) (List.toArray []))
noncomputable def ob54 (P : Params) : Obj := (PySem.Obj.mk (PySem.Value.type "tuple") (@Option.none Nat) (PySem.Data.seq (List.toArray [(PySem.Value.str (PySem.Str.ofString "src") (312 : Nat)), (PySem.Value.str (PySem.Str.ofString "pos") (313 : Nat)), (PySem.Value.str (PySem.Str.ofString "expect") (314 : Nat)), (PySem.Value.str (PySem.Str.ofString "error_on") (315 : Nat)), (PySem.Value.str (PySem.Str.ofString "error_on_eof") (316 : Nat)), (PySem.Value.str (PySem.Str.ofString "new_pos") (317 : Nat))]) (0 : Nat)) (List.toArray []))
noncomputable def ob55 (P : Params) : Obj := (PySem.Obj.mk (PySem.Value.type "tuple") (@Option.none Nat) (PySem.Data.seq (List.toArray []) (0 : Nat)) (List.toArray []))
noncomputable def ob56 (P : Params) : Obj := (PySem.Obj.mk PySem.Value.none (@Option.none Nat) (PySem.Data.func (PySem.FuncData.mk (PySem.Str.ofString "skip_until") (PySem.Str.ofString "skip_until") f4.1 (PySem.FuncBody.stmts f4.2.1) f4.2.2 (0 : Nat) [] PySem.Value.none PySem.Value.none PySem.Value.none PySem.Value.none (@Option.none Nat) PySem.Value.none PySem.Value.none (0 : Nat))) (List.toArray []))
noncomputable def ob57 (P : Params) : Obj := (PySem.Obj.mk (PySem.Value.type "code") (@Option.none Nat) (PySem.Data.fields (List.toArray ((PySem.Value.str (PySem.Str.ofString "skip_until") (309 : Nat)) :: (PySem.Value.str (PySem.Str.ofString "skip_until") (310 : Nat)) :: (PySem.Value.str (PySem.Str.ofString "/claim/cut.py") (311 : Nat)) :: (PySem.Value.int 8 (0 : Nat)) :: (PySem.Value.int 3 (0 : Nat)) :: (PySem.Value.int 0 (0 : Nat)) :: (PySem.Value.int 2 (0 : Nat)) :: (PySem.Value.int 3 (0 : Nat)) :: (PySem.Value.ref (52 : Nat)) :: (PySem.Value.bool Bool.true) :: (PySem.Value.int 276 (0 : Nat)) :: (PySem.Value.ref (53 : Nat)) :: PySem.Value.none :: (PySem.Value.ref (54 : Nat)) :: (PySem.Value.ref (55 : Nat)) :: (PySem.Value.ref (56 : Nat)) :: (PySem.Value.int 318 (0 : Nat)) :: (PySem.Value.int 8 (0 : Nat)) :: (PySem.Value.str (PySem.Str.ofString "/claim/cut.py") (319 : Nat)) :: []))) (List.toArray []))
noncomputable def ob58 (P : Params) : Obj := (PySem.Obj.mk (PySem.Value.type "function") (@Option.none Nat) (PySem.Data.func (PySem.FuncData.mk (PySem.Str.ofString "skip_until") (PySem.Str.ofString "skip_until") f4.1 (PySem.FuncBody.stmts f4.2.1) f4.2.2 (3 : Nat) [] PySem.Value.none PySem.Value.none PySem.Value.none (PySem.Value.str (PySem.Str.ofString "cpy313.tomllib._parser") (289 : Nat)) (@Option.none Nat) (PySem.Value.ref (57 : Nat)) PySem.Value.none (0 : Nat))) (List.toArray []))
noncomputable def ob59 (P : Params) : Obj := (PySem.Obj.mk (PySem.Value.type "tuple") (@Option.none Nat) (PySem.Data.seq (List.toArray []) (0 : Nat)) (List.toArray []))
noncomputable def ob60 (P : Params) : Obj := (PySem.Obj.mk PySem.Value.none (@Option.none Nat) (PySem.Data.fields (List.toArray [])) (List.toArray []))
noncomputable def ob61 (P : Params) : Obj := (PySem.Obj.mk (PySem.Value.type "tuple") (@Option.none Nat) (PySem.Data.seq (List.toArray [(PySem.Value.str (PySem.Str.ofString "src") (324 : Nat)), (PySem.Value.str (PySem.Str.ofString "pos") (325 : Nat)), (PySem.Value.str (PySem.Str.ofString "msg") (326 : Nat)), (PySem.Value.str (PySem.Str.ofString "coord_repr") (327 : Nat))]) (0 : Nat)) (List.toArray []))
noncomputable def ob62 (P : Params) : Obj := (PySem.Obj.mk (PySem.Value.type "tuple") (@Option.none Nat) (PySem.Data.seq (List.toArray []) (0 : Nat)) (List.toArray []))
noncomputable def ob63 (P : Params) : Obj := (PySem.Obj.mk PySem.Value.none (@Option.none Nat) (PySem.Data.func (PySem.FuncData.mk (PySem.Str.ofString "suffixed_err") (PySem.Str.ofString "suffixed_err") f5.1 (PySem.FuncBody.stmts f5.2.1) f5.2.2 (0 : Nat) [] PySem.Value.none PySem.Value.none PySem.Value.none PySem.Value.none (@Option.none Nat) PySem.Value.none PySem.Value.none (0 : Nat))) (List.toArray []))
noncomputable def ob64 (P : Params) : Obj := (PySem.Obj.mk (PySem.Value.type "code") (@Option.none Nat) (PySem.Data.fields (List.toArray ((PySem.Value.str (PySem.Str.ofString "suffixed_err") (321 : Nat)) :: (PySem.Value.str (PySem.Str.ofString "suffixed_err") (322 : Nat)) :: (PySem.Value.str (PySem.Str.ofString "/claim/cut.py") (323 : Nat)) :: (PySem.Value.int 20 (0 : Nat)) :: (PySem.Value.int 3 (0 : Nat)) :: (PySem.Value.int 0 (0 : Nat)) :: (PySem.Value.int 0 (0 : Nat)) :: (PySem.Value.int 3 (0 : Nat)) :: (PySem.Value.ref (59 : Nat)) :: (PySem.Value.bool Bool.true) :: (PySem.Value.int 276 (0 : Nat)) :: (PySem.Value.ref (60 : Nat)) :: PySem.Value.none :: (PySem.Value.ref (61 : Nat)) :: (PySem.Value.ref (62 : Nat)) :: (PySem.Value.ref (63 : Nat)) :: (PySem.Value.int 328 (0 : Nat)) :: (PySem.Value.int 20 (0 : Nat)) :: (PySem.Value.str (PySem.Str.ofString "/claim/cut.py") (329 : Nat)) :: []))) (List.toArray []))
noncomputable def ob65 (P : Params) : Obj := (PySem.Obj.mk (PySem.Value.type "function") (@Option.none Nat) (PySem.Data.func (PySem.FuncData.mk (PySem.Str.ofString "suffixed_err") (PySem.Str.ofString "suffixed_err") f5.1 (PySem.FuncBody.stmts f5.2.1) f5.2.2 (3 : Nat) [] PySem.Value.none PySem.Value.none PySem.Value.none (PySem.Value.str (PySem.Str.ofString "cpy313.tomllib._parser") (289 : Nat)) (@Option.none Nat) (PySem.Value.ref (64 : Nat)) PySem.Value.none (0 : Nat))) (List.toArray []))
noncomputable def ob66 (P : Params) : Obj := (PySem.Obj.mk (PySem.Value.type "tuple") (@Option.none Nat) (PySem.Data.seq (List.toArray []) (0 : Nat)) (List.toArray []))
noncomputable def ob67 (P : Params) : Obj := (PySem.Obj.mk PySem.Value.none (@Option.none Nat) (PySem.Data.fields (List.toArray [])) (List.toArray []))
noncomputable def ob68 (P : Params) : Obj := (PySem.Obj.mk (PySem.Value.type "tuple") (@Option.none Nat) (PySem.Data.seq (List.toArray [(PySem.Value.str (PySem.Str.ofString "data") (336 : Nat)), (PySem.Value.str (PySem.Str.ofString "t") (337 : Nat))]) (0 : Nat)) (List.toArray []))
noncomputable def ob69 (P : Params) : Obj := (PySem.Obj.mk (PySem.Value.type "tuple") (@Option.none Nat) (PySem.Data.seq (List.toArray []) (0 : Nat)) (List.toArray []))
noncomputable def ob70 (P : Params) : Obj := (PySem.Obj.mk PySem.Value.none (@Option.none Nat) (PySem.Data.func (PySem.FuncData.mk (PySem.Str.ofString "_buffer") (PySem.Str.ofString "_buffer") f7.1 (PySem.FuncBody.stmts f7.2.1) f7.2.2 (0 : Nat) [] PySem.Value.none PySem.Value.none PySem.Value.none PySem.Value.none (@Option.none Nat) PySem.Value.none PySem.Value.none (0 : Nat))) (List.toArray []))
noncomputable def ob71 (P : Params) : Obj := (PySem.Obj.mk (PySem.Value.type "code") (@Option.none Nat) (PySem.Data.fields (List.toArray ((PySem.Value.str (PySem.Str.ofString "_buffer") (333 : Nat)) :: (PySem.Value.str (PySem.Str.ofString "_buffer") (334 : Nat)) :: (PySem.Value.str (PySem.Str.ofString "/claim/cut.py") (335 : Nat)) :: (PySem.Value.int 33 (0 : Nat)) :: (PySem.Value.int 1 (0 : Nat)) :: (PySem.Value.int 0 (0 : Nat)) :: (PySem.Value.int 0 (0 : Nat)) :: (PySem.Value.int 3 (0 : Nat)) :: (PySem.Value.ref (66 : Nat)) :: (PySem.Value.bool Bool.true) :: (PySem.Value.int 276 (0 : Nat)) :: (PySem.Value.ref (67 : Nat)) :: PySem.Value.none :: (PySem.Value.ref (68 : Nat)) :: (PySem.Value.ref (69 : Nat)) :: (PySem.Value.ref (70 : Nat)) :: (PySem.Value.int 338 (0 : Nat)) :: (PySem.Value.int 33 (0 : Nat)) :: (PySem.Value.str (PySem.Str.ofString "/claim/cut.py") (339 : Nat)) :: []))) (List.toArray []))
noncomputable def ob72 (P : Params) : Obj := (PySem.Obj.mk (PySem.Value.type "function") (@Option.none Nat) (PySem.Data.func (PySem.FuncData.mk (PySem.Str.ofString "_buffer") (PySem.Str.ofString "_buffer") f7.1 (PySem.FuncBody.stmts f7.2.1) f7.2.2 (3 : Nat) [] PySem.Value.none PySem.Value.none PySem.Value.none (PySem.Value.str (PySem.Str.ofString "binascii") (331 : Nat)) (@Option.none Nat) (PySem.Value.ref (71 : Nat)) PySem.Value.none (0 : Nat))) (List.toArray []))
noncomputable def ob73 (P : Params) : Obj := (PySem.Obj.mk (PySem.Value.type "tuple") (@Option.none Nat) (PySem.Data.seq (List.toArray []) (0 : Nat)) (List.toArray []))
noncomputable def ob74 (P : Params) : Obj := (PySem.Obj.mk PySem.Value.none (@Option.none Nat) (PySem.Data.fields (List.toArray [])) (List.toArray []))
noncomputable def ob75 (P : Params) : Obj := (PySem.Obj.mk (PySem.Value.type "tuple") (@Option.none Nat) (PySem.Data.seq (List.toArray [(PySem.Value.str (PySem.Str.ofString "x") (344 : Nat)), (PySem.Value.str (PySem.Str.ofString "t") (345 : Nat))]) (0 : Nat)) (List.toArray []))
noncomputable def ob76 (P : Params) : Obj := (PySem.Obj.mk (PySem.Value.type "tuple") (@Option.none Nat) (PySem.Data.seq (List.toArray []) (0 : Nat)) (List.toArray []))
noncomputable def ob77 (P : Params) : Obj := (PySem.Obj.mk PySem.Value.none (@Option.none Nat) (PySem.Data.func (PySem.FuncData.mk (PySem.Str.ofString "_truth") (PySem.Str.ofString "_truth") f8.1 (PySem.FuncBody.stmts f8.2.1) f8.2.2 (0 : Nat) [] PySem.Value.none PySem.Value.none PySem.Value.none PySem.Value.none (@Option.none Nat) PySem.Value.none PySem.Value.none (0 : Nat))) (List.toArray []))
noncomputable def ob78 (P : Params) : Obj := (PySem.Obj.mk (PySem.Value.type "code") (@Option.none Nat) (PySem.Data.fields (List.toArray ((PySem.Value.str (PySem.Str.ofString "_truth") (341 : Nat)) :: (PySem.Value.str (PySem.Str.ofString "_truth") (342 : Nat)) :: (PySem.Value.str (PySem.Str.ofString "/claim/cut.py") (343 : Nat)) :: (PySem.Value.int 40 (0 : Nat)) :: (PySem.Value.int 1 (0 : Nat)) :: (PySem.Value.int 0 (0 : Nat)) :: (PySem.Value.int 0 (0 : Nat)) :: (PySem.Value.int 3 (0 : Nat)) :: (PySem.Value.ref (73 : Nat)) :: (PySem.Value.bool Bool.true) :: (PySem.Value.int 276 (0 : Nat)) :: (PySem.Value.ref (74 : Nat)) :: PySem.Value.none :: (PySem.Value.ref (75 : Nat)) :: (PySem.Value.ref (76 : Nat)) :: (PySem.Value.ref (77 : Nat)) :: (PySem.Value.int 346 (0 : Nat)) :: (PySem.Value.int 40 (0 : Nat)) :: (PySem.Value.str (PySem.Str.ofString "/claim/cut.py") (347 : Nat)) :: []))) (List.toArray []))
noncomputable def ob79 (P : Params) : Obj := (PySem.Obj.mk (PySem.Value.type "function") (@Option.none Nat) (PySem.Data.func (PySem.FuncData.mk (PySem.Str.ofString "_truth") (PySem.Str.ofString "_truth") f8.1 (PySem.FuncBody.stmts f8.2.1) f8.2.2 (3 : Nat) [] PySem.Value.none PySem.Value.none PySem.Value.none (PySem.Value.str (PySem.Str.ofString "binascii") (331 : Nat)) (@Option.none Nat) (PySem.Value.ref (78 : Nat)) PySem.Value.none (0 : Nat))) (List.toArray []))
noncomputable def ob80 (P : Params) : Obj := (PySem.Obj.mk (PySem.Value.type "dict") (@Option.none Nat) (PySem.Data.dict (List.toArray [(PySem.DictEntry.mk (PySem.PyData.keyHash P (PySem.Str.ofString "newline")) (PySem.Value.str (PySem.Str.ofString "newline") (351 : Nat)) (PySem.Value.bool Bool.true))]) (1 : Nat)) (List.toArray []))
noncomputable def ob81 (P : Params) : Obj := (PySem.Obj.mk (PySem.Value.type "tuple") (@Option.none Nat) (PySem.Data.seq (List.toArray []) (0 : Nat)) (List.toArray []))
noncomputable def ob82 (P : Params) : Obj := (PySem.Obj.mk PySem.Value.none (@Option.none Nat) (PySem.Data.fields (List.toArray [])) (List.toArray []))
noncomputable def ob83 (P : Params) : Obj := (PySem.Obj.mk (PySem.Value.type "tuple") (@Option.none Nat) (PySem.Data.seq (List.toArray [(PySem.Value.str (PySem.Str.ofString "data") (355 : Nat)), (PySem.Value.str (PySem.Str.ofString "newline") (356 : Nat)), (PySem.Value.str (PySem.Str.ofString "bin_data") (357 : Nat)), (PySem.Value.str (PySem.Str.ofString "out") (358 : Nat)), (PySem.Value.str (PySem.Str.ofString "leftbits") (359 : Nat)), (PySem.Value.str (PySem.Str.ofString "leftchar") (360 : Nat)), (PySem.Value.str (PySem.Str.ofString "b") (361 : Nat))]) (0 : Nat)) (List.toArray []))
noncomputable def ob84 (P : Params) : Obj := (PySem.Obj.mk (PySem.Value.type "tuple") (@Option.none Nat) (PySem.Data.seq (List.toArray []) (0 : Nat)) (List.toArray []))
noncomputable def ob85 (P : Params) : Obj := (PySem.Obj.mk PySem.Value.none (@Option.none Nat) (PySem.Data.func (PySem.FuncData.mk (PySem.Str.ofString "b2a_base64") (PySem.Str.ofString "b2a_base64") f10.1 (PySem.FuncBody.stmts f10.2.1) f10.2.2 (0 : Nat) [] PySem.Value.none PySem.Value.none PySem.Value.none PySem.Value.none (@Option.none Nat) PySem.Value.none PySem.Value.none (0 : Nat))) (List.toArray []))
noncomputable def ob86 (P : Params) : Obj := (PySem.Obj.mk (PySem.Value.type "code") (@Option.none Nat) (PySem.Data.fields (List.toArray ((PySem.Value.str (PySem.Str.ofString "b2a_base64") (352 : Nat)) :: (PySem.Value.str (PySem.Str.ofString "b2a_base64") (353 : Nat)) :: (PySem.Value.str (PySem.Str.ofString "/claim/cut.py") (354 : Nat)) :: (PySem.Value.int 46 (0 : Nat)) :: (PySem.Value.int 1 (0 : Nat)) :: (PySem.Value.int 1 (0 : Nat)) :: (PySem.Value.int 1 (0 : Nat)) :: (PySem.Value.int 3 (0 : Nat)) :: (PySem.Value.ref (81 : Nat)) :: (PySem.Value.bool Bool.true) :: (PySem.Value.int 276 (0 : Nat)) :: (PySem.Value.ref (82 : Nat)) :: PySem.Value.none :: (PySem.Value.ref (83 : Nat)) :: (PySem.Value.ref (84 : Nat)) :: (PySem.Value.ref (85 : Nat)) :: (PySem.Value.int 362 (0 : Nat)) :: (PySem.Value.int 46 (0 : Nat)) :: (PySem.Value.str (PySem.Str.ofString "/claim/cut.py") (363 : Nat)) :: []))) (List.toArray []))
noncomputable def ob87 (P : Params) : Obj := (PySem.Obj.mk (PySem.Value.type "function") (@Option.none Nat) (PySem.Data.func (PySem.FuncData.mk (PySem.Str.ofString "b2a_base64") (PySem.Str.ofString "b2a_base64") f10.1 (PySem.FuncBody.stmts f10.2.1) f10.2.2 (3 : Nat) [] PySem.Value.none (PySem.Value.ref (80 : Nat)) PySem.Value.none (PySem.Value.str (PySem.Str.ofString "binascii") (331 : Nat)) (@Option.none Nat) (PySem.Value.ref (86 : Nat)) PySem.Value.none (0 : Nat))) (List.toArray []))
noncomputable def ob88 (P : Params) : Obj := (PySem.Obj.mk (PySem.Value.type "object") (@Option.none Nat) PySem.Data.plain (List.toArray []))
noncomputable def ob89 (P : Params) : Obj := (PySem.Obj.mk (PySem.Value.type "tuple") (@Option.none Nat) (PySem.Data.seq (List.toArray [(PySem.Value.ref (88 : Nat)), (PySem.Value.int 1 (366 : Nat))]) (0 : Nat)) (List.toArray []))
noncomputable def ob90 (P : Params) : Obj := (PySem.Obj.mk (PySem.Value.type "tuple") (@Option.none Nat) (PySem.Data.seq (List.toArray []) (0 : Nat)) (List.toArray []))
noncomputable def ob91 (P : Params) : Obj := (PySem.Obj.mk PySem.Value.none (@Option.none Nat) (PySem.Data.fields (List.toArray [])) (List.toArray []))
noncomputable def ob92 (P : Params) : Obj := (PySem.Obj.mk (PySem.Value.type "tuple") (@Option.none Nat) (PySem.Data.seq (List.toArray [(PySem.Value.str (PySem.Str.ofString "data") (370 : Nat)), (PySem.Value.str (PySem.Str.ofString "sep") (371 : Nat)), (PySem.Value.str (PySem.Str.ofString "bytes_per_sep") (372 : Nat)), (PySem.Value.str (PySem.Str.ofString "t") (373 : Nat))]) (0 : Nat)) (List.toArray []))
noncomputable def ob93 (P : Params) : Obj := (PySem.Obj.mk (PySem.Value.type "tuple") (@Option.none Nat) (PySem.Data.seq (List.toArray []) (0 : Nat)) (List.toArray []))
noncomputable def ob94 (P : Params) : Obj := (PySem.Obj.mk PySem.Value.none (@Option.none Nat) (PySem.Data.func (PySem.FuncData.mk (PySem.Str.ofString "b2a_hex") (PySem.Str.ofString "b2a_hex") f12.1 (PySem.FuncBody.stmts f12.2.1) f12.2.2 (0 : Nat) [] PySem.Value.none PySem.Value.none PySem.Value.none PySem.Value.none (@Option.none Nat) PySem.Value.none PySem.Value.none (0 : Nat))) (List.toArray []))
noncomputable def ob95 (P : Params) : Obj := (PySem.Obj.mk (PySem.Value.type "code") (@Option.none Nat) (PySem.Data.fields (List.toArray ((PySem.Value.str (PySem.Str.ofString "b2a_hex") (367 : Nat)) :: (PySem.Value.str (PySem.Str.ofString "b2a_hex") (368 : Nat)) :: (PySem.Value.str (PySem.Str.ofString "/claim/cut.py") (369 : Nat)) :: (PySem.Value.int 69 (0 : Nat)) :: (PySem.Value.int 3 (0 : Nat)) :: (PySem.Value.int 0 (0 : Nat)) :: (PySem.Value.int 0 (0 : Nat)) :: (PySem.Value.int 3 (0 : Nat)) :: (PySem.Value.ref (90 : Nat)) :: (PySem.Value.bool Bool.true) :: (PySem.Value.int 276 (0 : Nat)) :: (PySem.Value.ref (91 : Nat)) :: PySem.Value.none :: (PySem.Value.ref (92 : Nat)) :: (PySem.Value.ref (93 : Nat)) :: (PySem.Value.ref (94 : Nat)) :: (PySem.Value.int 374 (0 : Nat)) :: (PySem.Value.int 69 (0 : Nat)) :: (PySem.Value.str (PySem.Str.ofString "/claim/cut.py") (375 : Nat)) :: []))) (List.toArray []))
noncomputable def ob96 (P : Params) : Obj := (PySem.Obj.mk (PySem.Value.type "function") (@Option.none Nat) (PySem.Data.func (PySem.FuncData.mk (PySem.Str.ofString "b2a_hex") (PySem.Str.ofString "b2a_hex") f12.1 (PySem.FuncBody.stmts f12.2.1) f12.2.2 (3 : Nat) [] (PySem.Value.ref (89 : Nat)) PySem.Value.none PySem.Value.none (PySem.Value.str (PySem.Str.ofString "binascii") (331 : Nat)) (@Option.none Nat) (PySem.Value.ref (95 : Nat)) PySem.Value.none (0 : Nat))) (List.toArray []))
noncomputable def ob97 (P : Params) : Obj := (PySem.Obj.mk (PySem.Value.type "tuple") (@Option.none Nat) (PySem.Data.seq (List.toArray [PySem.Value.none]) (0 : Nat)) (List.toArray []))
noncomputable def ob98 (P : Params) : Obj := (PySem.Obj.mk (PySem.Value.type "tuple") (@Option.none Nat) (PySem.Data.seq (List.toArray []) (0 : Nat)) (List.toArray []))
noncomputable def ob99 (P : Params) : Obj := (PySem.Obj.mk PySem.Value.none (@Option.none Nat) (PySem.Data.fields (List.toArray [])) (List.toArray []))
noncomputable def ob100 (P : Params) : Obj := (PySem.Obj.mk (PySem.Value.type "tuple") (@Option.none Nat) (PySem.Data.seq (List.toArray [(PySem.Value.str (PySem.Str.ofString "s") (383 : Nat)), (PySem.Value.str (PySem.Str.ofString "altchars") (384 : Nat)), (PySem.Value.str (PySem.Str.ofString "encoded") (385 : Nat))]) (0 : Nat)) (List.toArray []))
noncomputable def ob101 (P : Params) : Obj := (PySem.Obj.mk (PySem.Value.type "tuple") (@Option.none Nat) (PySem.Data.seq (List.toArray []) (0 : Nat)) (List.toArray []))
noncomputable def ob102 (P : Params) : Obj := (PySem.Obj.mk PySem.Value.none (@Option.none Nat) (PySem.Data.func (PySem.FuncData.mk (PySem.Str.ofString "b64encode") (PySem.Str.ofString "b64encode") f15.1 (PySem.FuncBody.stmts f15.2.1) f15.2.2 (0 : Nat) [] PySem.Value.none PySem.Value.none PySem.Value.none PySem.Value.none (@Option.none Nat) PySem.Value.none PySem.Value.none (0 : Nat))) (List.toArray []))
noncomputable def ob103 (P : Params) : Obj := (PySem.Obj.mk (PySem.Value.type "code") (@Option.none Nat) (PySem.Data.fields (List.toArray ((PySem.Value.str (PySem.Str.ofString "b64encode") (380 : Nat)) :: (PySem.Value.str (PySem.Str.ofString "b64encode") (381 : Nat)) :: (PySem.Value.str (PySem.Str.ofString "/claim/cut.py") (382 : Nat)) :: (PySem.Value.int 87 (0 : Nat)) :: (PySem.Value.int 2 (0 : Nat)) :: (PySem.Value.int 0 (0 : Nat)) :: (PySem.Value.int 0 (0 : Nat)) :: (PySem.Value.int 3 (0 : Nat)) :: (PySem.Value.ref (98 : Nat)) :: (PySem.Value.bool Bool.true) :: (PySem.Value.int 276 (0 : Nat)) :: (PySem.Value.ref (99 : Nat)) :: PySem.Value.none :: (PySem.Value.ref (100 : Nat)) :: (PySem.Value.ref (101 : Nat)) :: (PySem.Value.ref (102 : Nat)) :: (PySem.Value.int 386 (0 : Nat)) :: (PySem.Value.int 87 (0 : Nat)) :: (PySem.Value.str (PySem.Str.ofString "/claim/cut.py") (387 : Nat)) :: []))) (List.toArray []))
noncomputable def ob104 (P : Params) : Obj := (PySem.Obj.mk (PySem.Value.type "function") (@Option.none Nat) (PySem.Data.func (PySem.FuncData.mk (PySem.Str.ofString "b64encode") (PySem.Str.ofString "b64encode") f15.1 (PySem.FuncBody.stmts f15.2.1) f15.2.2 (3 : Nat) [] (PySem.Value.ref (97 : Nat)) PySem.Value.none PySem.Value.none (PySem.Value.str (PySem.Str.ofString "cpy313.base64") (378 : Nat)) (@Option.none Nat) (PySem.Value.ref (103 : Nat)) PySem.Value.none (0 : Nat))) (List.toArray []))
noncomputable def ob105 (P : Params) : Obj := (PySem.Obj.mk (PySem.Value.type "tuple") (@Option.none Nat) (PySem.Data.seq (List.toArray []) (0 : Nat)) (List.toArray []))
noncomputable def ob106 (P : Params) : Obj := (PySem.Obj.mk PySem.Value.none (@Option.none Nat) (PySem.Data.fields (List.toArray [])) (List.toArray []))
noncomputable def ob107 (P : Params) : Obj := (PySem.Obj.mk (PySem.Value.type "tuple") (@Option.none Nat) (PySem.Data.seq (List.toArray [(PySem.Value.str (PySem.Str.ofString "s") (392 : Nat))]) (0 : Nat)) (List.toArray []))
noncomputable def ob108 (P : Params) : Obj := (PySem.Obj.mk (PySem.Value.type "tuple") (@Option.none Nat) (PySem.Data.seq (List.toArray []) (0 : Nat)) (List.toArray []))
noncomputable def ob109 (P : Params) : Obj := (PySem.Obj.mk PySem.Value.none (@Option.none Nat) (PySem.Data.func (PySem.FuncData.mk (PySem.Str.ofString "b16encode") (PySem.Str.ofString "b16encode") f16.1 (PySem.FuncBody.stmts f16.2.1) f16.2.2 (0 : Nat) [] PySem.Value.none PySem.Value.none PySem.Value.none PySem.Value.none (@Option.none Nat) PySem.Value.none PySem.Value.none (0 : Nat))) (List.toArray []))
noncomputable def ob110 (P : Params) : Obj := (PySem.Obj.mk (PySem.Value.type "code") (@Option.none Nat) (PySem.Data.fields (List.toArray ((PySem.Value.str (PySem.Str.ofString "b16encode") (389 : Nat)) :: (PySem.Value.str (PySem.Str.ofString "b16encode") (390 : Nat)) :: (PySem.Value.str (PySem.Str.ofString "/claim/cut.py") (391 : Nat)) :: (PySem.Value.int 93 (0 : Nat)) :: (PySem.Value.int 1 (0 : Nat)) :: (PySem.Value.int 0 (0 : Nat)) :: (PySem.Value.int 0 (0 : Nat)) :: (PySem.Value.int 3 (0 : Nat)) :: (PySem.Value.ref (105 : Nat)) :: (PySem.Value.bool Bool.true) :: (PySem.Value.int 276 (0 : Nat)) :: (PySem.Value.ref (106 : Nat)) :: PySem.Value.none :: (PySem.Value.ref (107 : Nat)) :: (PySem.Value.ref (108 : Nat)) :: (PySem.Value.ref (109 : Nat)) :: (PySem.Value.int 393 (0 : Nat)) :: (PySem.Value.int 93 (0 : Nat)) :: (PySem.Value.str (PySem.Str.ofString "/claim/cut.py") (394 : Nat)) :: []))) (List.toArray []))
noncomputable def ob111 (P : Params) : Obj := (PySem.Obj.mk (PySem.Value.type "function") (@Option.none Nat) (PySem.Data.func (PySem.FuncData.mk (PySem.Str.ofString "b16encode") (PySem.Str.ofString "b16encode") f16.1 (PySem.FuncBody.stmts f16.2.1) f16.2.2 (3 : Nat) [] PySem.Value.none PySem.Value.none PySem.Value.none (PySem.Value.str (PySem.Str.ofString "cpy313.base64") (378 : Nat)) (@Option.none Nat) (PySem.Value.ref (110 : Nat)) PySem.Value.none (0 : Nat))) (List.toArray []))
noncomputable def ob112 (P : Params) : Obj := (PySem.Obj.mk (PySem.Value.type "list") (@Option.none Nat) (PySem.Data.seq (List.toArray ((PySem.Value.int 14 (401 : Nat)) :: (PySem.Value.int 14 (402 : Nat)) :: (PySem.Value.int 4 (403 : Nat)) :: (PySem.Value.int 1 (404 : Nat)) :: (PySem.Value.int 1 (405 : Nat)) :: (PySem.Value.int 9 (406 : Nat)) :: (PySem.Value.int 0 (407 : Nat)) :: (PySem.Value.int 64 (408 : Nat)) :: (PySem.Value.int 0 (409 : Nat)) :: (PySem.Value.int 1342177280 (410 : Nat)) :: (PySem.Value.int 0 (411 : Nat)) :: (PySem.Value.int 0 (412 : Nat)) :: (PySem.Value.int 0 (413 : Nat)) :: (PySem.Value.int 0 (414 : Nat)) :: (PySem.Value.int 0 (415 : Nat)) :: (PySem.Value.int 17 (416 : Nat)) :: (PySem.Value.int 0 (417 : Nat)) :: (PySem.Value.int 13 (418 : Nat)) :: (PySem.Value.int 11 (419 : Nat)) :: (PySem.Value.int 9 (420 : Nat)) :: (PySem.Value.int 0 (421 : Nat)) :: (PySem.Value.int 64 (422 : Nat)) :: (PySem.Value.int 0 (423 : Nat)) :: (PySem.Value.int 1342177280 (424 : Nat)) :: (PySem.Value.int 0 (425 : Nat)) :: (PySem.Value.int 0 (426 : Nat)) :: (PySem.Value.int 0 (427 : Nat)) :: (PySem.Value.int 0 (428 : Nat)) :: (PySem.Value.int 0 (429 : Nat)) :: (PySem.Value.int 17 (430 : Nat)) :: (PySem.Value.int 1 (431 : Nat)) :: (PySem.Value.int 1 (432 : Nat)) :: [])) (0 : Nat)) (List.toArray []))
noncomputable def ob113 (P : Params) : Obj := (PySem.Obj.mk (PySem.Value.type "dict") (@Option.none Nat) (PySem.Data.dict (List.toArray []) (0 : Nat)) (List.toArray []))
noncomputable def ob114 (P : Params) : Obj := (PySem.Obj.mk (PySem.Value.type "tuple") (@Option.none Nat) (PySem.Data.seq (List.toArray [PySem.Value.none, PySem.Value.none]) (0 : Nat)) (List.toArray []))
noncomputable def ob115 (P : Params) : Obj := (PySem.Obj.mk (PySem.Value.type "tuple") (@Option.none Nat) (PySem.Data.seq (List.toArray ((PySem.Value.int 14 (0 : Nat)) :: (PySem.Value.int 14 (0 : Nat)) :: (PySem.Value.int 4 (0 : Nat)) :: (PySem.Value.int 1 (0 : Nat)) :: (PySem.Value.int 1 (0 : Nat)) :: (PySem.Value.int 9 (0 : Nat)) :: (PySem.Value.int 0 (0 : Nat)) :: (PySem.Value.int 64 (0 : Nat)) :: (PySem.Value.int 0 (0 : Nat)) :: (PySem.Value.int 1342177280 (0 : Nat)) :: (PySem.Value.int 0 (0 : Nat)) :: (PySem.Value.int 0 (0 : Nat)) :: (PySem.Value.int 0 (0 : Nat)) :: (PySem.Value.int 0 (0 : Nat)) :: (PySem.Value.int 0 (0 : Nat)) :: (PySem.Value.int 17 (0 : Nat)) :: (PySem.Value.int 0 (0 : Nat)) :: (PySem.Value.int 13 (0 : Nat)) :: (PySem.Value.int 11 (0 : Nat)) :: (PySem.Value.int 9 (0 : Nat)) :: (PySem.Value.int 0 (0 : Nat)) :: (PySem.Value.int 64 (0 : Nat)) :: (PySem.Value.int 0 (0 : Nat)) :: (PySem.Value.int 1342177280 (0 : Nat)) :: (PySem.Value.int 0 (0 : Nat)) :: (PySem.Value.int 0 (0 : Nat)) :: (PySem.Value.int 0 (0 : Nat)) :: (PySem.Value.int 0 (0 : Nat)) :: (PySem.Value.int 0 (0 : Nat)) :: (PySem.Value.int 17 (0 : Nat)) :: (PySem.Value.int 1 (0 : Nat)) :: (PySem.Value.int 1 (0 : Nat)) :: [])) (0 : Nat)) (List.toArray []))
noncomputable def ob116 (P : Params) : Obj := (PySem.Obj.mk (PySem.Value.type "re.Pattern") (@Option.none Nat) (PySem.Data.fields (List.toArray [(PySem.Value.str (PySem.Str.ofString "([&~|])") (399 : Nat)), (PySem.Value.int 32 (434 : Nat)), (PySem.Value.int 1 (0 : Nat)), PySem.Value.none, PySem.Value.none, (PySem.Value.ref (115 : Nat)), (PySem.Value.int 0 (0 : Nat))])) (List.toArray []))
noncomputable def ob117 (P : Params) : Obj := (PySem.Obj.mk (PySem.Value.type "tuple") (@Option.none Nat) (PySem.Data.seq (List.toArray []) (0 : Nat)) (List.toArray []))
noncomputable def ob118 (P : Params) : Obj := (PySem.Obj.mk PySem.Value.none (@Option.none Nat) (PySem.Data.fields (List.toArray [])) (List.toArray []))
noncomputable def ob119 (P : Params) : Obj := (PySem.Obj.mk (PySem.Value.type "tuple") (@Option.none Nat) (PySem.Data.seq (List.toArray [(PySem.Value.str (PySem.Str.ofString "pat") (439 : Nat)), (PySem.Value.str (PySem.Str.ofString "STAR") (440 : Nat)), (PySem.Value.str (PySem.Str.ofString "parts") (441 : Nat))]) (0 : Nat)) (List.toArray []))
noncomputable def ob120 (P : Params) : Obj := (PySem.Obj.mk (PySem.Value.type "tuple") (@Option.none Nat) (PySem.Data.seq (List.toArray []) (0 : Nat)) (List.toArray []))
noncomputable def ob121 (P : Params) : Obj := (PySem.Obj.mk PySem.Value.none (@Option.none Nat) (PySem.Data.func (PySem.FuncData.mk (PySem.Str.ofString "translate") (PySem.Str.ofString "translate") f19.1 (PySem.FuncBody.stmts f19.2.1) f19.2.2 (0 : Nat) [] PySem.Value.none PySem.Value.none PySem.Value.none PySem.Value.none (@Option.none Nat) PySem.Value.none PySem.Value.none (0 : Nat))) (List.toArray []))
noncomputable def ob122 (P : Params) : Obj := (PySem.Obj.mk (PySem.Value.type "code") (@Option.none Nat) (PySem.Data.fields (List.toArray ((PySem.Value.str (PySem.Str.ofString "translate") (436 : Nat)) :: (PySem.Value.str (PySem.Str.ofString "translate") (437 : Nat)) :: (PySem.Value.str (PySem.Str.ofString "/claim/cut.py") (438 : Nat)) :: (PySem.Value.int 97 (0 : Nat)) :: (PySem.Value.int 1 (0 : Nat)) :: (PySem.Value.int 0 (0 : Nat)) :: (PySem.Value.int 0 (0 : Nat)) :: (PySem.Value.int 3 (0 : Nat)) :: (PySem.Value.ref (117 : Nat)) :: (PySem.Value.bool Bool.true) :: (PySem.Value.int 276 (0 : Nat)) :: (PySem.Value.ref (118 : Nat)) :: PySem.Value.none :: (PySem.Value.ref (119 : Nat)) :: (PySem.Value.ref (120 : Nat)) :: (PySem.Value.ref (121 : Nat)) :: (PySem.Value.int 442 (0 : Nat)) :: (PySem.Value.int 97 (0 : Nat)) :: (PySem.Value.str (PySem.Str.ofString "/claim/cut.py") (443 : Nat)) :: []))) (List.toArray []))
noncomputable def ob123 (P : Params) : Obj := (PySem.Obj.mk (PySem.Value.type "function") (@Option.none Nat) (PySem.Data.func (PySem.FuncData.mk (PySem.Str.ofString "translate") (PySem.Str.ofString "translate") f19.1 (PySem.FuncBody.stmts f19.2.1) f19.2.2 (3 : Nat) [] PySem.Value.none PySem.Value.none PySem.Value.none (PySem.Value.str (PySem.Str.ofString "cpy313.fnmatch") (396 : Nat)) (@Option.none Nat) (PySem.Value.ref (122 : Nat)) PySem.Value.none (0 : Nat))) (List.toArray []))
noncomputable def oa3 (P : Params) : Obj := (PySem.Obj.mk (PySem.Value.type "dict") (@Option.none Nat) (PySem.Data.dict (List.toArray [(PySem.DictEntry.mk (PySem.PyData.keyHash P (PySem.Str.ofString "__name__")) (PySem.Value.str (PySem.Str.ofString "__name__") (165 : Nat)) (PySem.Value.str (PySem.Str.ofString "__main__") (164 : Nat))), (PySem.DictEntry.mk (PySem.PyData.keyHash P (PySem.Str.ofString "__doc__")) (PySem.Value.str (PySem.Str.ofString "__doc__") (166 : Nat)) PySem.Value.none), (PySem.DictEntry.mk (PySem.PyData.keyHash P (PySem.Str.ofString "__package__")) (PySem.Value.str (PySem.Str.ofString "__package__") (167 : Nat)) PySem.Value.none), (PySem.DictEntry.mk (PySem.PyData.keyHash P (PySem.Str.ofString "__loader__")) (PySem.Value.str (PySem.Str.ofString "__loader__") (168 : Nat)) (PySem.Value.builtin "__main__.__loader__#opaque")), (PySem.DictEntry.mk (PySem.PyData.keyHash P (PySem.Str.ofString "__spec__")) (PySem.Value.str (PySem.Str.ofString "__spec__") (169 : Nat)) PySem.Value.none), (PySem.DictEntry.mk (PySem.PyData.keyHash P (PySem.Str.ofString "__annotations__")) (PySem.Value.str (PySem.Str.ofString "__annotations__") (170 : Nat)) (PySem.Value.ref (6 : Nat))), (PySem.DictEntry.mk (PySem.PyData.keyHash P (PySem.Str.ofString "__builtins__")) (PySem.Value.str (PySem.Str.ofString "__builtins__") (171 : Nat)) (PySem.Value.ref (4 : Nat))), (PySem.DictEntry.mk (PySem.PyData.keyHash P (PySem.Str.ofString "__file__")) (PySem.Value.str (PySem.Str.ofString "__file__") (173 : Nat)) (PySem.Value.str (PySem.Str.ofString "/claim/cut.py") (172 : Nat))), (PySem.DictEntry.mk (PySem.PyData.keyHash P (PySem.Str.ofString "__cached__")) (PySem.Value.str (PySem.Str.ofString "__cached__") (174 : Nat)) PySem.Value.none), (PySem.DictEntry.mk (PySem.PyData.keyHash P (PySem.Str.ofString "_sre")) (PySem.Value.str (PySem.Str.ofString "_sre") (275 : Nat)) (PySem.Value.ref (12 : Nat)))]) (10 : Nat)) (List.toArray []))
noncomputable def oc3 (P : Params) : Obj := (PySem.Obj.mk (PySem.Value.type "dict") (@Option.none Nat) (PySem.Data.dict (List.toArray ((PySem.DictEntry.mk (PySem.PyData.keyHash P (PySem.Str.ofString "__name__")) (PySem.Value.str (PySem.Str.ofString "__name__") (165 : Nat)) (PySem.Value.str (PySem.Str.ofString "re") (445 : Nat))) :: (PySem.DictEntry.mk (PySem.PyData.keyHash P (PySem.Str.ofString "__doc__")) (PySem.Value.str (PySem.Str.ofString "__doc__") (166 : Nat)) PySem.Value.none) :: (PySem.DictEntry.mk (PySem.PyData.keyHash P (PySem.Str.ofString "__package__")) (PySem.Value.str (PySem.Str.ofString "__package__") (167 : Nat)) PySem.Value.none) :: (PySem.DictEntry.mk (PySem.PyData.keyHash P (PySem.Str.ofString "__loader__")) (PySem.Value.str (PySem.Str.ofString "__loader__") (168 : Nat)) (PySem.Value.builtin "__main__.__loader__#opaque")) :: (PySem.DictEntry.mk (PySem.PyData.keyHash P (PySem.Str.ofString "__spec__")) (PySem.Value.str (PySem.Str.ofString "__spec__") (169 : Nat)) PySem.Value.none) :: (PySem.DictEntry.mk (PySem.PyData.keyHash P (PySem.Str.ofString "__annotations__")) (PySem.Value.str (PySem.Str.ofString "__annotations__") (170 : Nat)) (PySem.Value.ref (6 : Nat))) :: (PySem.DictEntry.mk (PySem.PyData.keyHash P (PySem.Str.ofString "__builtins__")) (PySem.Value.str (PySem.Str.ofString "__builtins__") (171 : Nat)) (PySem.Value.ref (4 : Nat))) :: (PySem.DictEntry.mk (PySem.PyData.keyHash P (PySem.Str.ofString "__file__")) (PySem.Value.str (PySem.Str.ofString "__file__") (173 : Nat)) (PySem.Value.str (PySem.Str.ofString "/claim/cut.py") (172 : Nat))) :: (PySem.DictEntry.mk (PySem.PyData.keyHash P (PySem.Str.ofString "__cached__")) (PySem.Value.str (PySem.Str.ofString "__cached__") (174 : Nat)) PySem.Value.none) :: (PySem.DictEntry.mk (PySem.PyData.keyHash P (PySem.Str.ofString "_sre")) (PySem.Value.str (PySem.Str.ofString "_sre") (275 : Nat)) (PySem.Value.ref (12 : Nat))) :: (PySem.DictEntry.mk (PySem.PyData.keyHash P (PySem.Str.ofString "_wall")) (PySem.Value.str (PySem.Str.ofString "_wall") (288 : Nat)) (PySem.Value.ref (38 : Nat))) :: (PySem.DictEntry.mk (PySem.PyData.keyHash P (PySem.Str.ofString "TOMLDecodeError")) (PySem.Value.str (PySem.Str.ofString "TOMLDecodeError") (308 : Nat)) (PySem.Value.ref (48 : Nat))) :: (PySem.DictEntry.mk (PySem.PyData.keyHash P (PySem.Str.ofString "skip_until")) (PySem.Value.str (PySem.Str.ofString "skip_until") (320 : Nat)) (PySem.Value.ref (58 : Nat))) :: (PySem.DictEntry.mk (PySem.PyData.keyHash P (PySem.Str.ofString "suffixed_err")) (PySem.Value.str (PySem.Str.ofString "suffixed_err") (330 : Nat)) (PySem.Value.ref (65 : Nat))) :: (PySem.DictEntry.mk (PySem.PyData.keyHash P (PySem.Str.ofString "_buffer")) (PySem.Value.str (PySem.Str.ofString "_buffer") (340 : Nat)) (PySem.Value.ref (72 : Nat))) :: (PySem.DictEntry.mk (PySem.PyData.keyHash P (PySem.Str.ofString "_truth")) (PySem.Value.str (PySem.Str.ofString "_truth") (348 : Nat)) (PySem.Value.ref (79 : Nat))) :: (PySem.DictEntry.mk (PySem.PyData.keyHash P (PySem.Str.ofString "_B64")) (PySem.Value.str (PySem.Str.ofString "_B64") (350 : Nat)) (PySem.Value.bytes (List.toArray (65 :: 66 :: 67 :: 68 :: 69 :: 70 :: 71 :: 72 :: 73 :: 74 :: 75 :: 76 :: 77 :: 78 :: 79 :: 80 :: 81 :: 82 :: 83 :: 84 :: 85 :: 86 :: 87 :: 88 :: 89 :: 90 :: 97 :: 98 :: 99 :: 100 :: 101 :: 102 :: 103 :: 104 :: 105 :: 106 :: 107 :: 108 :: 109 :: 110 :: 111 :: 112 :: 113 :: 114 :: 115 :: 116 :: 117 :: 118 :: 119 :: 120 :: 121 :: 122 :: 48 :: 49 :: 50 :: 51 :: 52 :: 53 :: 54 :: 55 :: 56 :: 57 :: 43 :: 47 :: [])) (349 : Nat))) :: (PySem.DictEntry.mk (PySem.PyData.keyHash P (PySem.Str.ofString "b2a_base64")) (PySem.Value.str (PySem.Str.ofString "b2a_base64") (364 : Nat)) (PySem.Value.ref (87 : Nat))) :: (PySem.DictEntry.mk (PySem.PyData.keyHash P (PySem.Str.ofString "_NO_SEP")) (PySem.Value.str (PySem.Str.ofString "_NO_SEP") (365 : Nat)) (PySem.Value.ref (88 : Nat))) :: (PySem.DictEntry.mk (PySem.PyData.keyHash P (PySem.Str.ofString "b2a_hex")) (PySem.Value.str (PySem.Str.ofString "b2a_hex") (376 : Nat)) (PySem.Value.ref (96 : Nat))) :: (PySem.DictEntry.mk (PySem.PyData.keyHash P (PySem.Str.ofString "hexlify")) (PySem.Value.str (PySem.Str.ofString "hexlify") (377 : Nat)) (PySem.Value.ref (96 : Nat))) :: (PySem.DictEntry.mk (PySem.PyData.keyHash P (PySem.Str.ofString "b64encode")) (PySem.Value.str (PySem.Str.ofString "b64encode") (388 : Nat)) (PySem.Value.ref (104 : Nat))) :: (PySem.DictEntry.mk (PySem.PyData.keyHash P (PySem.Str.ofString "b16encode")) (PySem.Value.str (PySem.Str.ofString "b16encode") (395 : Nat)) (PySem.Value.ref (111 : Nat))) :: (PySem.DictEntry.mk (PySem.PyData.keyHash P (PySem.Str.ofString "_twin_re_1")) (PySem.Value.str (PySem.Str.ofString "_twin_re_1") (435 : Nat)) (PySem.Value.ref (116 : Nat))) :: (PySem.DictEntry.mk (PySem.PyData.keyHash P (PySem.Str.ofString "translate")) (PySem.Value.str (PySem.Str.ofString "translate") (444 : Nat)) (PySem.Value.ref (123 : Nat))) :: (PySem.DictEntry.mk (PySem.PyData.keyHash P (PySem.Str.ofString "_special_chars_map")) (PySem.Value.str (PySem.Str.ofString "_special_chars_map") (592 : Nat)) (PySem.Value.ref (125 : Nat))) :: [])) (26 : Nat)) (List.toArray []))
noncomputable def oc124 (P : Params) : Obj := (PySem.Obj.mk (PySem.Value.type "bytes_iterator") (@Option.none Nat) (PySem.Data.fields (List.toArray [PySem.Value.none, (PySem.Value.int 24 (0 : Nat))])) (List.toArray []))
noncomputable def oc125 (P : Params) : Obj := (PySem.Obj.mk (PySem.Value.type "dict") (@Option.none Nat) (PySem.Data.dict (List.toArray ((PySem.DictEntry.mk 40 (PySem.Value.int 40 (448 : Nat)) (PySem.Value.str (PySem.Str.ofString "\\(") (452 : Nat))) :: (PySem.DictEntry.mk 41 (PySem.Value.int 41 (454 : Nat)) (PySem.Value.str (PySem.Str.ofString "\\)") (458 : Nat))) :: (PySem.DictEntry.mk 91 (PySem.Value.int 91 (460 : Nat)) (PySem.Value.str (PySem.Str.ofString "\\[") (464 : Nat))) :: (PySem.DictEntry.mk 93 (PySem.Value.int 93 (466 : Nat)) (PySem.Value.str (PySem.Str.ofString "\\]") (470 : Nat))) :: (PySem.DictEntry.mk 123 (PySem.Value.int 123 (472 : Nat)) (PySem.Value.str (PySem.Str.ofString "\\{") (476 : Nat))) :: (PySem.DictEntry.mk 125 (PySem.Value.int 125 (478 : Nat)) (PySem.Value.str (PySem.Str.ofString "\\}") (482 : Nat))) :: (PySem.DictEntry.mk 63 (PySem.Value.int 63 (484 : Nat)) (PySem.Value.str (PySem.Str.ofString "\\?") (488 : Nat))) :: (PySem.DictEntry.mk 42 (PySem.Value.int 42 (490 : Nat)) (PySem.Value.str (PySem.Str.ofString "\\*") (494 : Nat))) :: (PySem.DictEntry.mk 43 (PySem.Value.int 43 (496 : Nat)) (PySem.Value.str (PySem.Str.ofString "\\+") (500 : Nat))) :: (PySem.DictEntry.mk 45 (PySem.Value.int 45 (502 : Nat)) (PySem.Value.str (PySem.Str.ofString "\\-") (506 : Nat))) :: (PySem.DictEntry.mk 124 (PySem.Value.int 124 (508 : Nat)) (PySem.Value.str (PySem.Str.ofString "\\|") (512 : Nat))) :: (PySem.DictEntry.mk 94 (PySem.Value.int 94 (514 : Nat)) (PySem.Value.str (PySem.Str.ofString "\\^") (518 : Nat))) :: (PySem.DictEntry.mk 36 (PySem.Value.int 36 (520 : Nat)) (PySem.Value.str (PySem.Str.ofString "\\$") (524 : Nat))) :: (PySem.DictEntry.mk 92 (PySem.Value.int 92 (526 : Nat)) (PySem.Value.str (PySem.Str.ofString "\\\\") (530 : Nat))) :: (PySem.DictEntry.mk 46 (PySem.Value.int 46 (532 : Nat)) (PySem.Value.str (PySem.Str.ofString "\\.") (536 : Nat))) :: (PySem.DictEntry.mk 38 (PySem.Value.int 38 (538 : Nat)) (PySem.Value.str (PySem.Str.ofString "\\&") (542 : Nat))) :: (PySem.DictEntry.mk 126 (PySem.Value.int 126 (544 : Nat)) (PySem.Value.str (PySem.Str.ofString "\\~") (548 : Nat))) :: (PySem.DictEntry.mk 35 (PySem.Value.int 35 (550 : Nat)) (PySem.Value.str (PySem.Str.ofString "\\#") (554 : Nat))) :: (PySem.DictEntry.mk 32 (PySem.Value.int 32 (556 : Nat)) (PySem.Value.str (PySem.Str.ofString "\\ ") (560 : Nat))) :: (PySem.DictEntry.mk 9 (PySem.Value.int 9 (562 : Nat)) (PySem.Value.str (PySem.Str.ofString "\\\x09") (566 : Nat))) :: (PySem.DictEntry.mk 10 (PySem.Value.int 10 (568 : Nat)) (PySem.Value.str (PySem.Str.ofString "\\\x0a") (572 : Nat))) :: (PySem.DictEntry.mk 13 (PySem.Value.int 13 (574 : Nat)) (PySem.Value.str (PySem.Str.ofString "\\\x0d") (578 : Nat))) :: (PySem.DictEntry.mk 11 (PySem.Value.int 11 (580 : Nat)) (PySem.Value.str (PySem.Str.ofString "\\\x0b") (584 : Nat))) :: (PySem.DictEntry.mk 12 (PySem.Value.int 12 (586 : Nat)) (PySem.Value.str (PySem.Str.ofString "\\\x0c") (590 : Nat))) :: [])) (24 : Nat)) (List.toArray []))
noncomputable def oc126 (P : Params) : Obj := (PySem.Obj.mk (PySem.Value.type "dict") (@Option.none Nat) (PySem.Data.dict (List.toArray []) (2 : Nat)) (List.toArray []))
noncomputable def oc127 (P : Params) : Obj := (PySem.Obj.mk (PySem.Value.type "tuple") (@Option.none Nat) (PySem.Data.seq (List.toArray []) (0 : Nat)) (List.toArray []))
noncomputable def oc128 (P : Params) : Obj := (PySem.Obj.mk (PySem.Value.type "StopIteration") (@Option.none Nat) (PySem.Data.fields (List.toArray [(PySem.Value.ref (127 : Nat)), PySem.Value.none, PySem.Value.none, PySem.Value.none, (PySem.Value.bool Bool.false), PySem.Value.none])) (List.toArray []))
noncomputable def objs0 (P : Params) : List Obj := ob0 P :: ob1 P :: ob2 P :: oa3 P :: ob4 P :: ob5 P :: ob6 P :: ob7 P :: ob8 P :: ob9 P :: ob10 P :: ob11 P :: ob12 P :: ob13 P :: ob14 P :: ob15 P :: ob16 P :: ob17 P :: ob18 P :: ob19 P :: ob20 P :: ob21 P :: ob22 P :: ob23 P :: ob24 P :: ob25 P :: ob26 P :: ob27 P :: []
noncomputable def objs1 (P : Params) : List Obj := ob0 P :: ob1 P :: ob2 P :: ob3 P :: ob4 P :: ob5 P :: ob6 P :: ob7 P :: ob8 P :: ob9 P :: ob10 P :: ob11 P :: ob12 P :: ob13 P :: ob14 P :: ob15 P :: ob16 P :: ob17 P :: ob18 P :: ob19 P :: ob20 P :: ob21 P :: ob22 P :: ob23 P :: ob24 P :: ob25 P :: ob26 P :: ob27 P :: ob28 P :: ob29 P :: ob30 P :: ob31 P :: ob32 P :: ob33 P :: ob34 P :: ob35 P :: ob36 P :: ob37 P :: ob38 P :: ob39 P :: ob40 P :: ob41 P :: ob42 P :: ob43 P :: ob44 P :: ob45 P :: ob46 P :: ob47 P :: ob48 P :: ob49 P :: ob50 P :: ob51 P :: ob52 P :: ob53 P :: ob54 P :: ob55 P :: ob56 P :: ob57 P :: ob58 P :: ob59 P :: ob60 P :: ob61 P :: ob62 P :: ob63 P :: ob64 P :: ob65 P :: ob66 P :: ob67 P :: ob68 P :: ob69 P :: ob70 P :: ob71 P :: ob72 P :: ob73 P :: ob74 P :: ob75 P :: ob76 P :: ob77 P :: ob78 P :: ob79 P :: ob80 P :: ob81 P :: ob82 P :: ob83 P :: ob84 P :: ob85 P :: ob86 P :: ob87 P :: ob88 P :: ob89 P :: ob90 P :: ob91 P :: ob92 P :: ob93 P :: ob94 P :: ob95 P :: ob96 P :: ob97 P :: ob98 P :: ob99 P :: ob100 P :: ob101 P :: ob102 P :: ob103 P :: ob104 P :: ob105 P :: ob106 P :: ob107 P :: ob108 P :: ob109 P :: ob110 P :: ob111 P :: ob112 P :: ob113 P :: ob114 P :: ob115 P :: ob116 P :: ob117 P :: ob118 P :: ob119 P :: ob120 P :: ob121 P :: ob122 P :: ob123 P :: []
noncomputable def objs2 (P : Params) : List Obj := ob0 P :: ob1 P :: ob2 P :: oc3 P :: ob4 P :: ob5 P :: ob6 P :: ob7 P :: ob8 P :: ob9 P :: ob10 P :: ob11 P :: ob12 P :: ob13 P :: ob14 P :: ob15 P :: ob16 P :: ob17 P :: ob18 P :: ob19 P :: ob20 P :: ob21 P :: ob22 P :: ob23 P :: ob24 P :: ob25 P :: ob26 P :: ob27 P :: ob28 P :: ob29 P :: ob30 P :: ob31 P :: ob32 P :: ob33 P :: ob34 P :: ob35 P :: ob36 P :: ob37 P :: ob38 P :: ob39 P :: ob40 P :: ob41 P :: ob42 P :: ob43 P :: ob44 P :: ob45 P :: ob46 P :: ob47 P :: ob48 P :: ob49 P :: ob50 P :: ob51 P :: ob52 P :: ob53 P :: ob54 P :: ob55 P :: ob56 P :: ob57 P :: ob58 P :: ob59 P :: ob60 P :: ob61 P :: ob62 P :: ob63 P :: ob64 P :: ob65 P :: ob66 P :: ob67 P :: ob68 P :: ob69 P :: ob70 P :: ob71 P :: ob72 P :: ob73 P :: ob74 P :: ob75 P :: ob76 P :: ob77 P :: ob78 P :: ob79 P :: ob80 P :: ob81 P :: ob82 P :: ob83 P :: ob84 P :: ob85 P :: ob86 P :: ob87 P :: ob88 P :: ob89 P :: ob90 P :: ob91 P :: ob92 P :: ob93 P :: ob94 P :: ob95 P :: ob96 P :: ob97 P :: ob98 P :: ob99 P :: ob100 P :: ob101 P :: ob102 P :: ob103 P :: ob104 P :: ob105 P :: ob106 P :: ob107 P :: ob108 P :: ob109 P :: ob110 P :: ob111 P :: ob112 P :: ob113 P :: ob114 P :: ob115 P :: ob116 P :: ob117 P :: ob118 P :: ob119 P :: ob120 P :: ob121 P :: ob122 P :: ob123 P :: oc124 P :: oc125 P :: oc126 P :: oc127 P :: oc128 P :: []
end Mine
end
section
namespace Mine
theorem fresh_Ht : True := by
  w_top off
  trivial
end Mine
open PySem PySem.W PyProof.Rows
set_option Elab.async false
set_option bootstrap.genMatcherCode false
namespace Mine
/-- a list of objects laid into a tree -/
noncomputable def treeOf : List Obj → BT → Nat → Option (BT × Nat)
  | [], t, n => some (t, n)
  | o :: l, t, n => match ((t.ins n o).get n).isSome with
    | true => treeOf l (t.ins n o) (n + 1)
    | false => none
theorem treeOf_abs {life : Life} : ∀ {l : List Obj} {t t' : BT} {n n' : Nat}, treeOf l t n = some (t', n') → absHeap t' n' life = ⟨(absHeap t n life).objs ++ l.toArray, life⟩
  | [], _, _, _, _, h => by
    cases h
    show _ = Heap.mk _ _
    rw [show ([] : List Obj).toArray = #[] from rfl, Array.append_empty]
    rfl
  | o :: l, t, t', n, n', h => by
    unfold treeOf at h
    cases g : ((t.ins n o).get n).isSome with
    | false => rw [g] at h; cases h
    | true =>
      rw [g] at h
      rw [treeOf_abs h, absHeap_ins g]
      show Heap.mk (((absHeap t n life).objs.push o) ++ l.toArray) life = _
      congr 1
      apply Array.ext'
      simp
noncomputable def onTree (s : Shared) : Option SharedT := (treeOf s.heap.objs.toList .nil 0).map fun x => ⟨x.1, x.2, s.heap.life, s.gens, s.drawn, s.toks, s.os⟩
theorem onTree_abs {s : Shared} {S : SharedT} (h : onTree s = some S) : S.abs = s := by
  obtain ⟨⟨t, n⟩, e, rfl⟩ := Option.map_eq_some_iff.mp h
  obtain ⟨⟨objs, life⟩, gens, drawn, toks, os⟩ := s
  show (⟨absHeap t n life, gens, drawn, toks, os⟩ : Shared) = _
  rw [treeOf_abs e]
  show (⟨⟨(absHeap .nil 0 life).objs ++ objs.toList.toArray, life⟩, gens, drawn, toks, os⟩ : Shared) = _
  congr 2
  show (#[] : Array Obj) ++ _ = _
  simp
section
variable (tb : String → Option Builtin) (p : Program) (w : World)
noncomputable def impT : Nat → SharedT → Thread → Option SharedT
  | 0, _, _ => none
  | n + 1, s, t => match t.atExitBegin with
    | some [] => some s
    | some (_ :: _) => none
    | none => match stepT (denote tb) p w s t with
      | some (s', t') => impT n s' t'
      | none => none
noncomputable def topT (n₀ : Nat) (ann : Option Value) : Nat → SharedT → Thread → Option SharedT
  | 0, _, _ => none
  | n + 1, s, t => match through t with
    | true => some s
    | false => match stepOk n₀ ann t with
      | false => none
      | true => match stepT (denote tb) p w s t with
        | some (s', t') => topT n₀ ann n s' t'
        | none => none
variable {tb p w}
theorem impT_of : ∀ {n : Nat} {s s' : SharedT} {t : Thread}, impT tb p w n s t = some s' → importEnds tb p w n s.abs t = some s'.abs
  | 0, _, _, _, h => by cases h
  | n + 1, s, s', t, h => by
    unfold impT at h
    unfold importEnds
    cases he : t.atExitBegin with
    | some x => cases x with
      | nil => rw [he] at h; cases h; rfl
      | cons => rw [he] at h; cases h
    | none =>
      rw [he] at h
      cases hs : stepT (denote tb) p w s t with
      | none => rw [hs] at h; cases h
      | some r => obtain ⟨s₂, t₂⟩ := r; rw [hs] at h; dsimp only; rw [stepT_spec hs]; exact impT_of h
theorem topT_of {n₀ : Nat} {ann : Option Value} : ∀ {n : Nat} {s s' : SharedT} {t : Thread}, topT tb p w n₀ ann n s t = some s' → topRun tb p w n₀ ann n s.abs t = some s'.abs
  | 0, _, _, _, h => by cases h
  | n + 1, s, s', t, h => by
    unfold topT at h
    unfold topRun
    cases he : through t with
    | true => rw [he] at h; cases h; rfl
    | false =>
      rw [he] at h
      cases hk : stepOk n₀ ann t with
      | false => rw [hk] at h; cases h
      | true =>
        rw [hk] at h
        cases hs : stepT (denote tb) p w s t with
        | none => rw [hs] at h; cases h
        | some r => obtain ⟨s₂, t₂⟩ := r; rw [hs] at h; dsimp only; rw [stepT_spec hs]; exact topT_of h
end
/-- the opening, run on a tree -/
noncomputable def fenceT (p : Program) (w : World) (N : Nat) : Option Shared :=
  ((onTree (start (opening p)).1).bind fun S => impT treeTable (opening p) w N S (start (opening p)).2).bind fun S => fenceModules? p S.abs
theorem fenceT_of {p : Program} {w : World} {N : Nat} {s : Shared} (h : fenceT p w N = some s) : fencedOpening treeTable p w N = some s := by
  obtain ⟨S', h1, h2⟩ := Option.bind_eq_some_iff.mp h
  obtain ⟨S, h3, h4⟩ := Option.bind_eq_some_iff.mp h1
  have h5 := impT_of h4
  rw [onTree_abs h3] at h5
  unfold fencedOpening
  rw [h5]
  exact h2
section
variable (tb : String → Option Builtin) (p : Program) (w : World)
noncomputable def topGoT (n₀ : Nat) (ann : Option Value) : Nat → SharedT → Thread → Option (SharedT × Thread)
  | 0, s, t => some (s, t)
  | n + 1, s, t => match through t with
    | true => none
    | false => match stepOk n₀ ann t with
      | false => none
      | true => match stepT (denote tb) p w s t with
        | some (s', t') => topGoT n₀ ann n s' t'
        | none => none
variable {tb p w}
theorem topGoT_of {n₀ : Nat} {ann : Option Value} : ∀ {n : Nat} {s s' : SharedT} {t t' : Thread}, topGoT tb p w n₀ ann n s t = some (s', t') → topGo tb p w n₀ ann n s.abs t = some (s'.abs, t')
  | 0, _, _, _, _, h => by cases h; rfl
  | n + 1, s, s', t, t', h => by
    unfold topGoT at h
    unfold topGo
    cases he : through t with
    | true => rw [he] at h; cases h
    | false =>
      rw [he] at h
      cases hk : stepOk n₀ ann t with
      | false => rw [hk] at h; cases h
      | true =>
        rw [hk] at h
        cases hs : stepT (denote tb) p w s t with
        | none => rw [hs] at h; cases h
        | some r => obtain ⟨s₂, t₂⟩ := r; rw [hs] at h; dsimp only; rw [stepT_spec hs]; exact topGoT_of h
end
/-- the first part: from the opening's end to the statements `l1`'s end -/
noncomputable def firstT (p : Program) (w : World) (n₀ : Nat) (ann : Option Value) (env : Env) (l1 : List Stmt) (B : List Frame) (s : Shared) :=
  (onTree s).bind fun S => (topGoT treeTable p w n₀ ann 12 S (topStub p)).bind fun x =>
    (segRunT treeTable p w n₀ ann 1 2 x.1 (blockOf (behindTheImports p) env (.body (behindTheImports p) env) default B)).bind fun y =>
      (segRunT treeTable p w n₀ ann 1 800 y.2.1 (piecesOf l1 env (.body (behindTheImports p) env) y.2.2.2 B)).map fun z => (x.2, (y.1, y.2.2.1), (z.1, z.2.2.1, z.2.2.2), z.2.1.abs)
theorem firstT_of {p : Program} {w : World} {n₀ : Nat} {ann : Option Value} {env : Env} {l1 l2 : List Stmt} {s s₁ : Shared} {pos : Pos} (hb : behindTheImports p = l1 ++ l2)
    (h : firstT p w n₀ ann env l1 [topFrame default] s = some (⟨denote treeTable (.body (behindTheImports p) env), .body (behindTheImports p) env, default, [topFrame default]⟩, (.next, .body (behindTheImports p) env), (.next, .body (behindTheImports p) env, pos), s₁))
    {N : Nat} {r : Shared} (k : topRun treeTable p w n₀ ann N s₁ (restOf l2 env (.body (behindTheImports p) env) pos [topFrame default]) = some r) : topRun treeTable p w n₀ ann (12 + (2 + (800 + N))) s (topStub p) = some r := by
  obtain ⟨S, h1, h2⟩ := Option.bind_eq_some_iff.mp h
  obtain ⟨⟨Sx, tx⟩, h3, h4⟩ := Option.bind_eq_some_iff.mp h2
  obtain ⟨⟨fy, Sy, cy, py⟩, h5, h6⟩ := Option.bind_eq_some_iff.mp h4
  obtain ⟨⟨fz, Sz, cz, pz⟩, h7, h8⟩ := Option.map_eq_some_iff.mp h6
  dsimp only at h3 h5 h7 h8
  simp only [Prod.mk.injEq] at h8
  obtain ⟨rfl, ⟨rfl, rfl⟩, ⟨rfl, rfl, rfl⟩, rfl⟩ := h8
  have g1 := topGoT_of h3
  have g2 := segRun_of h5
  have g3 := segRun_of h7
  rw [onTree_abs h1] at g1
  refine go_top g1 (piece_block g2 ?_)
  rw [hb] at g3 k ⊢
  exact piece_app g3 k
/-- some of the top's statements -/
noncomputable def midT (p : Program) (w : World) (n₀ : Nat) (ann : Option Value) (env : Env) (l : List Stmt) (c : Code) (pos : Pos) (B : List Frame) (n : Nat) (s : Shared) :=
  (onTree s).bind fun S => (segRunT treeTable p w n₀ ann 1 n S (piecesOf l env c pos B)).map fun z => ((z.1, z.2.2.1, z.2.2.2), z.2.1.abs)
theorem midT_of {p : Program} {w : World} {n₀ : Nat} {ann : Option Value} {env : Env} {l1 l2 : List Stmt} {s s₁ : Shared} {c : Code} {pos pos' q : Pos} {n : Nat}
    (h : midT p w n₀ ann env l1 c pos [topFrame q] n s = some ((.next, c, pos'), s₁))
    {N : Nat} {r : Shared} (k : topRun treeTable p w n₀ ann N s₁ (restOf l2 env c pos' [topFrame q]) = some r) : topRun treeTable p w n₀ ann (n + N) s (restOf (l1 ++ l2) env c pos [topFrame q]) = some r := by
  obtain ⟨S, h1, h2⟩ := Option.bind_eq_some_iff.mp h
  obtain ⟨⟨fz, Sz, cz, pz⟩, h7, h8⟩ := Option.map_eq_some_iff.mp h2
  dsimp only at h7 h8
  simp only [Prod.mk.injEq] at h8
  obtain ⟨⟨rfl, rfl, rfl⟩, rfl⟩ := h8
  have g3 := segRun_of h7
  rw [onTree_abs h1] at g3
  exact piece_app g3 k
/-- the last part, to the top's end, with the looks at it -/
noncomputable def lastT (p : Program) (w : World) (n₀ : Nat) (ann : Option Value) (s₀ s₁ : Shared) (t : Thread) : Option Shared :=
  ((onTree s₁).bind fun S => topT treeTable p w n₀ ann 400 S t).bind fun S₁ =>
    match staticsOk (importedModules p.main.body) s₀.heap S₁.abs.heap && namesBound p S₁.abs.heap && gensDone S₁.abs && laidKept s₀.heap S₁.abs.heap with
    | true => some S₁.abs
    | false => none
theorem all_of {p : Program} {w : World} {ann : Option Value} {env : Env} {s₀ s₁ s₂ : Shared} {pos pos' : Pos} {n₀ : Nat} {α : Type} {f : Shared → α} {a : α} (k₁ : Nat) (h0 : fenceT p w 4466 = some s₀)
    (hs : (s₀.heap.isNs mainGlobals && s₀.gens.size == 0, s₀.heap.objs.size, s₀.heap.nsMap mainGlobals "__annotations__") = (true, n₀, ann))
    (h : firstT p w n₀ ann env ((behindTheImports p).take k₁) [topFrame default] s₀ = some (⟨denote treeTable (.body (behindTheImports p) env), .body (behindTheImports p) env, default, [topFrame default]⟩, (.next, .body (behindTheImports p) env), (.next, .body (behindTheImports p) env, pos), s₁))
    (m : midT p w n₀ ann env (((behindTheImports p).drop k₁).take 1) (.body (behindTheImports p) env) pos [topFrame default] 1300 s₁ = some ((.next, .body (behindTheImports p) env, pos'), s₂))
    (k : (lastT p w n₀ ann s₀ s₂ (restOf (((behindTheImports p).drop k₁).drop 1) env (.body (behindTheImports p) env) pos' [topFrame default])).map f = some a) : (openEnds treeTable p w 4466).map f = some a := by
  obtain ⟨s, k1, k2⟩ := Option.map_eq_some_iff.mp k
  obtain ⟨S₁, k3, k4⟩ := Option.bind_eq_some_iff.mp k1
  obtain ⟨S, k5, k6⟩ := Option.bind_eq_some_iff.mp k3
  have k7 := topT_of k6
  rw [onTree_abs k5] at k7
  have m7 := midT_of m k7
  rw [List.take_append_drop] at m7
  have k8 := topRun_mono (4466 - (12 + (2 + (800 + (1300 + 400))))) _ _ _ _ (firstT_of (List.take_append_drop k₁ _).symm h m7)
  simp only [Prod.mk.injEq] at hs
  obtain ⟨hs1, hs2, hs3⟩ := hs
  have k9 : openEnds treeTable p w 4466 = some s := by
    unfold openEnds
    rw [fenceT_of h0]
    show topFrom treeTable p w 4466 s₀ = some s
    unfold topFrom
    rw [hs1, hs2, hs3]
    dsimp only
    rw [show (4466 : Nat) = 12 + (2 + (800 + (1300 + 400))) + (4466 - (12 + (2 + (800 + (1300 + 400))))) from rfl, k8]
    exact k4
  rw [k9]
  exact congrArg some k2
end Mine
end
section
namespace Mine
theorem fresh_Hl : True := by
  w_top off
  trivial
end Mine
open PySem PySem.W PyProof.Rows
set_option Elab.async false
set_option maxRecDepth 100000
set_option maxHeartbeats 8000000
namespace Mine
theorem keys_ok (P : Params) : [2, 3, 32, 34, 35, 37, 38, 39, 46, 47, 48, 49, 52, 54, 55, 57, 58, 59, 61, 62, 64, 65, 66, 68, 69, 71, 72, 73,
          75, 76, 78, 79, 80, 81, 83, 84, 86, 87, 88, 89, 90, 92, 93, 95, 96, 97, 98, 100, 101, 103, 104, 105, 107, 108,
          110, 111, 115, 116, 117, 119, 120, 122, 123, 125, 129, 131, 132, 134, 135, 136, 138, 139, 141, 142, 143, 145,
          146, 148, 149, 150, 152, 153, 155, 156, 157, 160, 161, 162, 164, 165, 167, 168, 169, 172, 173] = (heap P).map (·.1) := by kernel_rfl
noncomputable abbrev hook : Hook := kmHook heap [2, 3, 32, 34, 35, 37, 38, 39, 46, 47, 48, 49, 52, 54, 55, 57, 58, 59, 61, 62, 64, 65, 66, 68, 69, 71, 72, 73,
          75, 76, 78, 79, 80, 81, 83, 84, 86, 87, 88, 89, 90, 92, 93, 95, 96, 97, 98, 100, 101, 103, 104, 105, 107, 108,
          110, 111, 115, 116, 117, 119, 120, 122, 123, 125, 129, 131, 132, 134, 135, 136, 138, 139, 141, 142, 143, 145,
          146, 148, 149, 150, 152, 153, 155, 156, 157, 160, 161, 162, 164, 165, 167, 168, 169, 172, 173] keys_ok [60, 137]
noncomputable abbrev loose : List Str := ["b2a_base64", "_NO_SEP", "b2a_hex", "hexlify", "b64encode", "_twin_re_1", "_special_chars_map"]
noncomputable abbrev topProg : Program := PySem.Challenge.rw_in0265_01.row.prog
noncomputable abbrev topS0 (w : World) : Shared := ⟨⟨(objs0 w.params).toArray, {}⟩, #[], {}, 276, (start (opening topProg)).1.os⟩
noncomputable abbrev topS1 (w : World) : Shared := ⟨⟨(objs1 w.params).toArray, {}⟩, #[], {}, 447, (start (opening topProg)).1.os⟩
noncomputable abbrev topS2 (w : World) : Shared := ⟨⟨(objs2 w.params).toArray, {}⟩, #[], {}, 593, (start (opening topProg)).1.os⟩
noncomputable abbrev topEnv : Env := { scope := topProg.main.scope, locals := mainNs, globals := mainNs, cells := [], code := .ref 30, frame := some 31 }
noncomputable abbrev topCode : Code := .body (behindTheImports topProg) topEnv
noncomputable abbrev topPos1 : Pos := ⟨101, 0, 101, 8⟩
noncomputable abbrev topPos2 : Pos := ⟨102, 0, 102, 18⟩
theorem open_S0 (w : World) : fenceT topProg w 4466 = some (topS0 w) := by kernel_rfl
theorem sizes_S0 (w : World) : ((topS0 w).heap.isNs mainGlobals && (topS0 w).gens.size == 0, (topS0 w).heap.objs.size, (topS0 w).heap.nsMap mainGlobals "__annotations__") = (true, 28, some (.ref 6)) := by kernel_rfl
theorem first_S1 (w : World) : firstT topProg w 28 (some (.ref 6)) topEnv ((behindTheImports topProg).take 20) [topFrame default] (topS0 w) = some (⟨denote treeTable topCode, topCode, default, [topFrame default]⟩, (.next, topCode), (.next, topCode, topPos1), topS1 w) := by kernel_rfl
noncomputable abbrev TopMid (w : World) : Prop := midT topProg w 28 (some (.ref 6)) topEnv (((behindTheImports topProg).drop 20).take 1) topCode topPos1 [topFrame default] 1300 (topS1 w) = some ((.next, topCode, topPos2), topS2 w)
theorem mid_ff (w : World) : TopMid ((w.withFollow "special-get-raises" false).withFollow "comprehension-iter-twice" false) := by kernel_rfl
theorem mid_ft (w : World) : TopMid ((w.withFollow "special-get-raises" true).withFollow "comprehension-iter-twice" false) := by kernel_rfl
theorem mid_tf (w : World) : TopMid ((w.withFollow "special-get-raises" false).withFollow "comprehension-iter-twice" true) := by kernel_rfl
theorem mid_tt (w : World) : TopMid ((w.withFollow "special-get-raises" true).withFollow "comprehension-iter-twice" true) := by kernel_rfl
theorem mid_all (w : World) : TopMid w :=
  byRow2 "comprehension-iter-twice" (P := TopMid)
    (byRow2 "special-get-raises" (P := fun w => TopMid (w.withFollow "comprehension-iter-twice" false)) mid_ff mid_ft)
    (byRow2 "special-get-raises" (P := fun w => TopMid (w.withFollow "comprehension-iter-twice" true)) mid_tf mid_tt) w
noncomputable abbrev topLook (s : Shared) := (openSeen view loose (importedModules topProg.main.body) (fun s => xlAt view [] s && recOk PySem.Challenge.rw_in0265_01.row.records s) true s, hook.obs s)
theorem last_ok (w : World) : (lastT topProg w 28 (some (.ref 6)) (topS0 w) (topS2 w) (restOf (((behindTheImports topProg).drop 20).drop 1) topEnv topCode topPos2 [topFrame default])).map topLook = some (openGood view loose, hook.val w) := by kernel_rfl
theorem look_and {a b : Bool} (x : a = true) (y : b = true) : (a && b) = true := by rw [x, y]; rfl
theorem said_top : looksOpen topProg = true := by
  unfold looksOpen
  repeat' (with_reducible refine look_and ?_ ?_)
  all_goals decide +kernel
theorem said_row : PySem.Challenge.rw_in0265_01.row.wellSaid = true := by
  unfold OpenRow.wellSaid OpenRow.partSaid
  repeat' (with_reducible refine look_and ?_ ?_)
  · exact said_top
  all_goals decide +kernel
theorem said_law : PySem.Challenge.rw_in0265_01.wellSaid = true := by
  unfold OpenLaw.wellSaid
  repeat' (with_reducible refine look_and ?_ ?_)
  · exact said_row
  all_goals decide +kernel
theorem left_ok : LeftO topProg view loose (fun s => xlAt view [] s && recOk PySem.Challenge.rw_in0265_01.row.records s) hook.obs hook.val 4466 := fun w => all_of 20 (open_S0 w) (sizes_S0 w) (first_S1 w) (mid_all w) (last_ok w)
end Mine
end
section
namespace Mine
theorem fresh_Enter : True := by
  w_top off
  trivial
end Mine
open PySem PySem.W PyProof.Rows PySem.Spec PySem.Calls
set_option Elab.async false
set_option maxRecDepth 100000
namespace Mine
section
variable {prog : Program} {w : World} {A₀ A : Around} {gs : Array GenState} {dr : Drawn} {tk₀ : Nat} {os : OsState} {K : Frag} {base h₀ : Heap} {outer : List Env} {L : Addr} {m mg mb : Str → Option Value} {env : Env} {p : Program} {loose : List Str} {mean : ExcName → Option Value}
  {R : Result → Shared → Prop} {name qual : Str} {params : Arguments} {body : List Stmt} {scope : Scope} {dV kV doc pm cdv ct oc : Value} {an od : Option Addr} {osl : Array (Option Value)} {f : Addr} {args : Args} {binds : List (Str × Value)}

/-- a def is entered over the whole heap of the call: all that stands there stays -/
theorem enterS {h : Heap} (B : Below A₀ base outer h₀) (F : Fr h₀ L h m) (X₀ : K.In h₀) (T : Top p loose mean mg mb h₀) (hA : A.frames = some (env :: outer)) (hf : env.frame = some L) (hke : env.scope.kind = .function)
    (ho : K.lookup f = some ⟨oc, od, .func (fnOf name qual params body scope dV kV doc pm an cdv ct), osl⟩) (hcd : codeIn K cdv qual = true) (hroom : A.depth < recursionLimit)
    (hbind : BindsTo ⟨h, gs, dr, tk₀, os⟩ (fnOf name qual params body scope dV kV doc pm an cdv ct) args binds) (hloc : ∀ y ∈ binds, scope.names.lookup y.1 = some .local)
    (hh : ∀ L' h₁, Fr h L' h₁ (fun y => binds.reverse.lookup y) → News h L' h₁ [] → Below A base (env :: outer) h → K.In h → Top p loose mean mg mb h →
      wpAny (model prog w) (A.deeper (envOf qual scope L' f cdv)) (execs body (envOf qual scope L' f cdv))
        (fun fl s' => LeaveK h₀ L m h R (match fl with | .ret v => v | _ => .none) s')
        (fun e s' => wpAny (model prog w) (A.deeper (envOf qual scope L' f cdv)) (leaving (envOf qual scope L' f cdv) e) (fun _ s'' => R (.error e) s'') (fun e' s'' => R (.error e') s'') s')
        ⟨h₁, gs, dr, tk₀ + binds.length, os⟩)
    (hco : scope.isCoroutine = false) (hgen : scope.isGenerator = false) (hk : scope.kind = .function)
    (hcell : ∀ x ∈ scope.names, x.2 ≠ .cell) : codeAny (model prog w) A (.call (.ref f) args) R ⟨h, gs, dr, tk₀, os⟩ := by
  have X := X₀.keeps F.keep
  obtain ⟨_, BG, _, lv⟩ := groundX (R := R) (s := ⟨h, gs, dr, tk₀, os⟩) B F News.nil hA hf hke
  refine codeAny_call_def (fd := fnOf name qual params body scope dV kV doc pm an cdv ct) (body := body) (binds := binds) hroom (X _ _ ho) rfl (T.nolimit.keeps F.keep) (codeRec_of X hcd) rfl hbind hcell hloc (fun h₁ hns hk₁ => ?_) hco hgen hk
  exact wpAny_mono (hh h.objs.size h₁ ⟨hns, hk₁, Nat.le_refl _⟩ News.nil BG X (T.keeps F.keep)) (fun fl s' hl => lv _ _ hl) fun _ _ y => y

theorem enterCS {h : Heap} (B : Below A₀ base outer h₀) (F : Fr h₀ L h m) (X₀ : K.In h₀) (T : Top p loose mean mg mb h₀) (hA : A.frames = some (env :: outer)) (hf : env.frame = some L) (hke : env.scope.kind = .function)
    (ho : K.lookup f = some ⟨oc, od, .func (fnOf name qual params body scope dV kV doc pm an cdv ct), osl⟩) (hcd : codeIn K cdv qual = true) (hroom : A.depth < recursionLimit)
    (hbind : BindsTo ⟨h, gs, dr, tk₀, os⟩ (fnOf name qual params body scope dV kV doc pm an cdv ct) args binds)
    (hkind : (binds.all fun y => scope.names.lookup y.1 == some .local || scope.names.lookup y.1 == some .cell) = true)
    (hnd : ((cellsFrom 0 scope.names []).map (·.1)).Nodup)
    (hh : ∀ L' h₁ tk cells, Fr h L' h₁ (bindL (envOfC qual scope L' f cdv).kindOf binds fun _ => none) → News h L' h₁ cells →
      CellsAre (bindC (envOfC qual scope L' f cdv).kindOf binds fun _ => none) (cellsFrom (L' + 1) scope.names []) cells → Below A base (env :: outer) h → K.In h → Top p loose mean mg mb h →
      wpAny (model prog w) (A.deeper (envOfC qual scope L' f cdv)) (execs body (envOfC qual scope L' f cdv))
        (fun fl s' => LeaveK h₀ L m h R (match fl with | .ret v => v | _ => .none) s')
        (fun e s' => wpAny (model prog w) (A.deeper (envOfC qual scope L' f cdv)) (leaving (envOfC qual scope L' f cdv) e) (fun _ s'' => R (.error e) s'') (fun e' s'' => R (.error e') s'') s')
        ⟨h₁, gs, dr, tk, os⟩)
    (hco : scope.isCoroutine = false) (hgen : scope.isGenerator = false) (hk : scope.kind = .function) : codeAny (model prog w) A (.call (.ref f) args) R ⟨h, gs, dr, tk₀, os⟩ := by
  have X := X₀.keeps F.keep
  obtain ⟨_, BG, _, lv⟩ := groundX (R := R) (s := ⟨h, gs, dr, tk₀, os⟩) B F News.nil hA hf hke
  refine codeAny_call_function hroom (X _ _ ho) rfl hco hgen rfl (codeRec_of X hcd) (hbind _ _ _ _ ?_)
  refine wpAny_newFunctionEnv_cells hk (kindsX hkind _) fun env' he s' x => ?_
  subst he
  refine ⟨(T.nolimit.keeps F.keep).keeps x.toInCall.keep, codeAny_func ?_⟩
  obtain ⟨h₁, tk, rfl, _⟩ := x.done
  have hk₁ := x.toInCall.keep
  obtain ⟨cells, NC, Y⟩ := Cl.news (h₀ := h) (Nat.le_refl _) fun n c hm => ⟨x.cell n c (lookup_of_mem_nodup (cellsFrom_names scope.names 0 (h.objs.size + 1) [] [] rfl ▸ hnd) hm), x.above n c hm⟩
  exact wpAny_mono (hh h.objs.size h₁ tk cells ⟨x.toInCall.ns, hk₁, Nat.le_refl _⟩ NC Y BG X (T.keeps F.keep)) (fun fl s' hl => lv _ _ hl) fun _ _ y => y
end

/-- all that stood stands -/
theorem news_kept {h₀ h h' : Heap} {L : Addr} {news : List (Addr × Obj)} (N : News h₀ L h news) (k : ∀ b o, h.get? b = some o → h'.get? b = some o) : News h₀ L h' news :=
  fun p hp => ⟨k _ _ (N p hp).1, (N p hp).2⟩
theorem news_add {h₀ h : Heap} {L x : Addr} {o : Obj} {own news : List (Addr × Obj)} (N₁ : News h₀ L h own) (hx : (x, o) ∈ own) (N : News h₀ L h news) : News h₀ L h ((x, o) :: news) :=
  fun p hp => (List.mem_cons.mp hp).elim (fun e => e ▸ N₁ _ hx) (N p)
/-- a new object stands apart from the ledger -/
theorem news_ne {h₀ hp h' : Heap} {L L' x : Addr} {o : Obj} {own news : List (Addr × Obj)} (N : News h₀ L hp news) (N' : News hp L' h' own) (hx : (x, o) ∈ own) : ∀ p ∈ news, p.1 ≠ x := fun p hp' e => by
  have h1 := (N p hp').1
  have h2 := (N' _ hx).2.2
  rw [e, h2] at h1
  cases h1
noncomputable def AllNe (d : Addr) : List (Addr × Obj) → Prop
  | [] => True
  | p :: r => @Ne Nat p.1 d ∧ AllNe d r
theorem allNe_of {d : Addr} : ∀ {l : List (Addr × Obj)}, (∀ p ∈ l, p.1 ≠ d) → AllNe d l
  | [], _ => trivial
  | p :: _, h => ⟨h p (.head _), allNe_of fun q hq => h q (.tail _ hq)⟩
/-- the tokens' number is forgotten -/
theorem tok_any {M : Model} {A : Around} {α : Type} {tree : Sem α} {Q : α → Shared → Prop} {E : Value → Shared → Prop} {h : Heap} {g : Array GenState} {d : Drawn} {t : Nat} {o : OsState} (H : ∀ t : Nat, wpAny M A tree Q E ⟨h, g, d, t, o⟩) : wpAny M A tree Q E ⟨h, g, d, t + 1, o⟩ := H _
/-- the same, at a statement's start alone -/
theorem tok_execs {M : Model} {A : Around} {b : List Stmt} {env : Env} {Q : Flow → Shared → Prop} {E : Value → Shared → Prop} {h : Heap} {g : Array GenState} {d : Drawn} {t : Nat} {o : OsState} (H : ∀ t : Nat, wpAny M A (execs b env) Q E ⟨h, g, d, t, o⟩) : wpAny M A (execs b env) Q E ⟨h, g, d, t + 1, o⟩ := H _
end Mine
end
section
namespace Mine
theorem fresh_Bi1 : True := by
  w_top off
  trivial
end Mine
open PySem PySem.W PyProof.Rows PySem.Spec PySem.Calls
set_option Elab.async false
set_option maxRecDepth 100000
namespace Mine
open PySem.Builtin
theorem slot_bytes_upper : Slot "bytes" "upper" "bytes.upper" :=
  .of (owner := "bytes") (n := "upper") (by rw [typeLookup_type, builtinLookup_eq_fast]; kernel_rfl) (by decide +kernel) (by decide +kernel) (by decide +kernel)
    (by first | exact .inl (by decide +kernel) | exact .inr (by decide +kernel)) (by rw [isSubtype_type]; kernel_rfl)
theorem type_bytes_upper : typeOf (.builtin "bytes.upper") = pure (.type "method_descriptor") := by show builtinType _ = _; rw [builtinType_eq_fast]; kernel_rfl
theorem entry_bytes_upper : entryFor table "bytes.upper" = some Builtin.«bytes.upper» := entryFor_of_tree (by kernel_rfl)
theorem args_bytes_upper_1 (a : Value) : argsOk "bytes.upper" ⟨[a], []⟩ := by
  unfold argsOk; rw [signature?_of (id := "bytes.upper") (n := ['r', 'e', 'p', 'p', 'u']) (o := ['s', 'e', 't', 'y', 'b']) (by kernel_rfl) FB.owner_bytes]; kernel_rfl

section
variable {prog : Program} {w : World} {M : Model} {A : Around} {E : Value → Shared → Prop} {s : Shared} {t : Tok}
theorem method_hex {b : Array UInt8} {pl : Sem Bool} {Q : Value × List Value → Shared → Prop} (h : Q (.builtin "bytes.hex", [.bytes b t]) s) : wpAny M A (getMethod (.bytes b t) "hex" pl) Q E s := by
  with_reducible exact KBd.method_of (.bytes b t) (typeIs_bytes _ _ _) FB.slot_bytes_hex FB.type_bytes_hex KBd.noRef h
theorem method_upper {b : Array UInt8} {pl : Sem Bool} {Q : Value × List Value → Shared → Prop} (h : Q (.builtin "bytes.upper", [.bytes b t]) s) : wpAny M A (getMethod (.bytes b t) "upper" pl) Q E s := by
  with_reducible exact KBd.method_of (.bytes b t) (typeIs_bytes _ _ _) slot_bytes_upper type_bytes_upper KBd.noRef h

/-- six octets' twelve figures -/
noncomputable abbrev hex6 (a b c d e f : UInt8) : Array Nat := #[Bytes.hexDigit (a.toNat / 16), Bytes.hexDigit (a.toNat % 16), Bytes.hexDigit (b.toNat / 16), Bytes.hexDigit (b.toNat % 16), Bytes.hexDigit (c.toNat / 16), Bytes.hexDigit (c.toNat % 16), Bytes.hexDigit (d.toNat / 16), Bytes.hexDigit (d.toNat % 16), Bytes.hexDigit (e.toNat / 16), Bytes.hexDigit (e.toNat % 16), Bytes.hexDigit (f.toNat / 16), Bytes.hexDigit (f.toNat % 16)]
theorem hex_eq (a b c d e f : UInt8) : «bytes.hex» ⟨[.bytes #[a, b, c, d, e, f] t], []⟩ = (mkStr ⟨hex6 a b c d e f⟩ >>= fun v => ret v) := by kernel_rfl
theorem upper_eq (b : Array UInt8) : «bytes.upper» ⟨[.bytes b t], []⟩ = (mkBytes (b.toList.map Bytes.toUpper).toArray >>= fun v => ret v) := by kernel_rfl

theorem call_hex {a b c d e f : UInt8} {Q : Value → Shared → Prop} (h : Q (.str ⟨hex6 a b c d e f⟩ s.toks) { s with toks := s.toks + 1 }) :
    wpAny (model prog w) A (call (.builtin "bytes.hex") [.bytes #[a, b, c, d, e, f] t]) Q E s :=
  call_meets FB.slot_bytes_hex (typeIs_bytes _ _ _) FB.entry_bytes_hex (FB.args_bytes_hex_1 _)
    (S := fun _ R s => R (.ok (.ret (.str ⟨hex6 a b c d e f⟩ s.toks))) { s with toks := s.toks + 1 })
    (.of_wp fun prog w A R s h => by
      rw [hex_eq]
      exact wpAny_bind (wpAny_mkStr (wpAny_pure ⟨_, rfl, h⟩) (by rw [sizeLine_eq]; exact Nat.le_of_ble_eq_true rfl))) h
theorem call_upper {b : Array UInt8} {Q : Value → Shared → Prop} (hz : b.size ≤ 1000) (h : Q (.bytes (b.toList.map Bytes.toUpper).toArray s.toks) { s with toks := s.toks + 1 }) :
    wpAny (model prog w) A (call (.builtin "bytes.upper") [.bytes b t]) Q E s :=
  call_meets slot_bytes_upper (typeIs_bytes _ _ _) entry_bytes_upper (args_bytes_upper_1 _)
    (S := fun _ R s => R (.ok (.ret (.bytes (b.toList.map Bytes.toUpper).toArray s.toks))) { s with toks := s.toks + 1 })
    (.of_wp fun prog w A R s h => by
      rw [upper_eq]
      exact wpAny_bind (wpAny_mkBytes (wpAny_pure ⟨_, rfl, h⟩) (by rw [sizeLine_eq]; simp; omega))) h

end
theorem forIn_two {α β : Type} {a b : α} {l : List α} {i j r : β} {f : α → β → Sem (ForInStep β)} (h1 : f a i = pure (.yield j)) (h2 : f b j = pure (.done r)) : forIn (a :: b :: l) i f = (pure r : Sem β) := by
  rw [List.forIn_cons, h1]
  show (forIn (b :: l) j f : Sem β) = pure r
  rw [List.forIn_cons, h2]
  rfl
theorem push_all (l : List Nat) (acc : Array UInt8) : l.foldl (fun acc y => acc ++ (_codecs.asciiCodec.bytesOf y).toArray) acc = acc ++ (l.map Nat.toUInt8).toArray := by
  induction l generalizing acc with
  | nil => simp
  | cons y r ih =>
    rw [List.foldl_cons, ih]
    show acc ++ #[y.toUInt8] ++ _ = _
    simp
theorem narrow_eq {id : String} {self : Value} {x : Str} (hx : ∀ c ∈ x.cps, c < 128) {n : Nat} (h0 : x.cps.size = n + 2) (hz : n < 1000) : _codecs.encodeNarrow id _codecs.asciiCodec none self x = pure (x.cps.map Nat.toUInt8) := by
  have hb : (x.cps.extract 0 x.cps.size).findIdx? _codecs.asciiCodec.bad = none := by
    rw [Array.findIdx?_eq_none_iff]
    intro c hc
    have hc' : c ∈ x.cps := by
      rw [← Array.mem_toList_iff] at hc ⊢
      rw [Array.toList_extract] at hc
      exact List.mem_of_mem_drop (List.mem_of_mem_take hc)
    have := hx c hc'
    show decide (c ≥ 128) = false
    exact decide_eq_false (by omega)
  have hl : x.length = n + 2 := h0
  have h00 : 0 < x.cps.size := by omega
  have hb0 : _codecs.asciiCodec.bad x.cps[0] = false := by
    have := hx x.cps[0] (Array.getElem_mem h00)
    show decide (_ ≥ 128) = false
    exact decide_eq_false (by omega)
  unfold _codecs.encodeNarrow
  rw [hl]
  simp only [Std.Legacy.Range.forIn_eq_forIn_range', Std.Legacy.Range.size]
  have hr : List.range' 0 ((n + 2 - 0 + 1 - 1) / 1) = 0 :: 1 :: List.range' 2 n := by
    have : (n + 2 - 0 + 1 - 1) / 1 = n + 2 := by omega
    rw [this]; rfl
  rw [hr]
  have hex : x.cps.extract 0 x.cps.size = x.cps := by simp
  have hempty : ¬ (#[] : Array UInt8).size > sizeLine := by rw [sizeLine_eq]; decide
  have hres : Array.foldl (fun acc y => acc ++ (_codecs.asciiCodec.bytesOf y).toArray) #[] x.cps = x.cps.map Nat.toUInt8 := by
    rw [← Array.foldl_toList, push_all]
    apply Array.toList_inj.mp
    simp
  rw [forIn_two (j := (x.cps.size, x.cps.map Nat.toUInt8, ({} : _codecs.Faults))) (r := (x.cps.size, x.cps.map Nat.toUInt8, ({} : _codecs.Faults)))]
  · rfl
  · rw [hex] at hb
    simp only [hempty, if_false, Array.getElem?_eq_getElem h00, hb0, Bool.not_false, if_true, hb, Option.getD_none, hex, hres, Nat.zero_add]
  · have hs : ¬ (x.cps.map Nat.toUInt8).size > sizeLine := by rw [sizeLine_eq, Array.size_map]; omega
    have hn : x.cps[x.cps.size]? = none := Array.getElem?_eq_none (Nat.le_refl _)
    simp only [hs, if_false, hn]

theorem ascii_name : (_codecs.normalName (PySem.Str.ofString "ascii")).toString = "ascii" := by decide +kernel
theorem ascii_road {x : Str} {self : Value} : _codecs.encodeRoad "str.encode" self x (PySem.Str.ofString "ascii") none = (_codecs.encodeNarrow "str.encode" _codecs.asciiCodec none self x >>= fun b => mkBytes b) := by
  unfold _codecs.encodeRoad
  rw [ascii_name]
  rfl
theorem encode_eq {x : Str} {t t2 : Tok} : «str.encode» ⟨[.str x t, .str (PySem.Str.ofString "ascii") t2], []⟩ = (_codecs.encodeRoad "str.encode" (.str x t) x (PySem.Str.ofString "ascii") none >>= fun v => ret v) := by kernel_rfl
theorem args_str_encode_2' (a b : Value) : argsOk "str.encode" ⟨[a, b], []⟩ := by
  unfold argsOk; rw [signature?_of (id := "str.encode") (n := ['e', 'd', 'o', 'c', 'n', 'e']) (o := ['r', 't', 's']) (by kernel_rfl) PySem.F.owner_str]; kernel_rfl
section
variable {prog : Program} {w : World} {M : Model} {A : Around} {E : Value → Shared → Prop} {s : Shared} {t : Tok}
theorem call_encode {x : Str} {t2 : Tok} {n : Nat} (hx : ∀ c ∈ x.cps, c < 128) (h0 : x.cps.size = n + 2) (hz : n < 1000) {Q : Value → Shared → Prop} (h : Q (.bytes (x.cps.map Nat.toUInt8) s.toks) { s with toks := s.toks + 1 }) :
    wpAny (model prog w) A (call (.builtin "str.encode") [.str x t, .str (PySem.Str.ofString "ascii") t2]) Q E s :=
  call_meets PySem.F.slot_str_encode (typeIs_str _ _ _) PySem.F.entry_str_encode (args_str_encode_2' _ _)
    (S := fun _ R s => R (.ok (.ret (.bytes (x.cps.map Nat.toUInt8) s.toks))) { s with toks := s.toks + 1 })
    (.of_wp fun prog w A R s h => by
      rw [encode_eq, ascii_road, narrow_eq hx h0 hz]
      exact wpAny_bind (wpAny_bind (wpAny_pure (wpAny_mkBytes (wpAny_pure ⟨_, rfl, h⟩) (by rw [sizeLine_eq, Array.size_map]; omega))))) h
end

theorem object_mro : mroOf (.type "object") = pure [.type "object"] := by rw [mroOf_type]; kernel_rfl
theorem object_lookup_new : typeLookup (.type "object") "__new__" = pure (some (.builtin "object.__new__")) := by rw [typeLookup_type, builtinLookup_eq_fast]; kernel_rfl
theorem object_slot_init : Slot "object" "__init__" "object.__init__" :=
  .of (owner := "object") (n := "__init__") (by rw [typeLookup_type, builtinLookup_eq_fast]; kernel_rfl) (by decide +kernel) (by decide +kernel) (by decide +kernel)
    (by first | exact .inl (by decide +kernel) | exact .inr (by decide +kernel)) (by rw [isSubtype_type]; kernel_rfl)
theorem object_called : TypeCalled "object" "object.__new__" "object.__init__" :=
  ⟨by decide +kernel, by decide +kernel, ⟨_, _, object_mro⟩, madeBy_type object_mro object_lookup_new (by decide +kernel), by decide +kernel, by rw [isSubtype_type]; kernel_rfl, object_slot_init⟩
theorem object_typeCall : checkTypeCall "object" ⟨[], []⟩ = pure () := by kernel_rfl
theorem object_newCall : checkBuiltinCall "object.__new__" ⟨[.type "object"], []⟩ = pure () := by kernel_rfl
theorem object_entry : entryFor table "object.__new__" = some Builtin.«object.__new__» := by first | exact entryFor_of_fast (by kernel_rfl) | exact entryFor_of_tree (by kernel_rfl)
theorem object_init_eq (v : Value) : «object.__init__» ⟨[v], []⟩ = ret .none := rfl
theorem object_new_eq : «object.__new__» ⟨[.type "object"], []⟩ = (newObj (.type "object") .plain none >>= fun v => ret v) := by kernel_rfl
end Mine
end
section
namespace Mine
theorem fresh_Bi2 : True := by
  w_top off
  trivial
end Mine
open PySem PySem.W PyProof.Rows PySem.Spec PySem.Calls
set_option Elab.async false
set_option maxRecDepth 100000
namespace Mine
open PySem.Builtin PySem.Builtin.Str

/-- the 64 signs -/
noncomputable def b64 : List Nat := [65, 66, 67, 68, 69, 70, 71, 72, 73, 74, 75, 76, 77, 78, 79, 80, 81, 82, 83, 84, 85, 86, 87, 88, 89, 90, 97, 98, 99, 100, 101, 102, 103, 104, 105, 106, 107, 108, 109, 110, 111, 112, 113, 114, 115, 116, 117, 118, 119, 120, 121, 122, 48, 49, 50, 51, 52, 53, 54, 55, 56, 57, 43, 47]
/-- what the table of special signs makes of one of them -/
noncomputable def esc (c : Nat) : Array Nat := if c = 43 then #[92, 43] else #[c]

theorem b64_all {p : Nat → Bool} (h : b64.all p = true) {c : Nat} (hc : c ∈ b64) : p c = true := List.all_eq_true.mp h c hc
theorem b64_lt {c : Nat} (hc : c ∈ b64) : c < 128 := by simpa using b64_all (p := fun c => decide (c < 128)) (by decide) hc

/-- what a table's answer makes of a sign -/
noncomputable def trOf (v : Option Value) (c : Nat) : Str := match v with | some (.str x _) => x | _ => ⟨#[c]⟩

/-- Fr, News over a heap that has grown -/
theorem fr_kept {h₀ h h' : Heap} {L : Addr} {m : Str → Option Value} (F : Fr h₀ L h m) (k : ∀ b o, h.get? b = some o → h'.get? b = some o) : Fr h₀ L h' m :=
  let ⟨oL, a, b, hL, r⟩ := F.ns
  ⟨⟨oL, a, b, k _ _ hL, r⟩, fun b o e => k _ _ (F.keep b o e), F.above⟩

theorem keyErr_sub : isSubtype (.type "KeyError") (.type "LookupError") = pure true := by rw [isSubtype_type]; kernel_rfl

section
variable {prog : Program} {w : World} {A : Around} {E : Value → Shared → Prop} {s : Shared} {d : Addr} {f : Int → Option Value}

theorem lookup_text {c : Nat} {x : Str} {tx : Tok} {Q : Mapped → Shared → Prop} (hm : s.heap.MapOf (intKind prog w) d f) (hf : f c = some (.str x tx))
    (h : ∀ tk, Q (.text x) { s with toks := tk }) : wpAny (model prog w) A (tableLookup (.ref d) c) Q E s := by
  unfold tableLookup
  refine wpAny_bind (wpAny_attempt (wpAny_bind (wpAny_mkInt ?_)))
  refine wpAny_getItem_of (s := { s with toks := s.toks + 1 }) (k := (c : Int)) (by simp [intKind, Value.isInt]) hm hf ?_
  exact wpAny_bind (wpAny_pure (wpAny_bind (wpAny_pure (wpAny_pure (h _)))))

theorem lookup_keep {c : Nat} {Q : Mapped → Shared → Prop} (hd : (d == sysModules) = false) (hh : A.handled = none) (hm : s.heap.MapOf (intKind prog w) d f) (hf : f c = none)
    (h : ∀ h' tk, (∀ b o, s.heap.get? b = some o → h'.get? b = some o) → Q .keep { s with heap := h', toks := tk }) : wpAny (model prog w) A (tableLookup (.ref d) c) Q E s := by
  unfold tableLookup
  refine wpAny_bind (wpAny_attempt (wpAny_bind (wpAny_mkInt ?_)))
  refine wpAny_getItem_missing_of (s := { s with toks := s.toks + 1 }) (k := (c : Int)) (by simp [intKind, Value.isInt]) hd hh hm hf fun h' e X => ?_
  obtain ⟨ob, t, ho, hc, _⟩ := X.there
  refine wpAny_bind (wpAny_isInstance (T := "KeyError") ⟨ob, ho, hc⟩ keyErr_sub ?_)
  exact wpAny_bind (wpAny_rule (wpAny_pure (h _ _ X.keeps)))

theorem MapOf_kept {h h' : Heap} (hm : h.MapOf (intKind prog w) d f) (k : ∀ b o, h.get? b = some o → h'.get? b = some o) : h'.MapOf (intKind prog w) d f :=
  let ⟨o, es, ep, ho, r⟩ := hm; ⟨o, es, ep, k _ _ ho, r⟩

theorem tr_args {c : Nat} {t : Tok} : strOneArg "translate" ⟨[.str ⟨#[c]⟩ t, .ref d], []⟩ = pure (.str ⟨#[c]⟩ t, ⟨#[c]⟩, .ref d) := by kernel_rfl

/-- one sign through a table -/
theorem tr_one {c : Nat} {t : Tok} {R : Fin → Shared → Prop} (hc : c < 128) (hd : (d == sysModules) = false) (hh : A.handled = none) (hm : s.heap.MapOf (intKind prog w) d f)
    (hf : f c = none ∨ ∃ x tx, f c = some (.str x tx) ∧ x.length = 2)
    (h : ∀ h' tk tk', (∀ b o, s.heap.get? b = some o → h'.get? b = some o) → R (.done (.ret (.str (trOf (f c) c) tk))) { s with heap := h', toks := tk' }) :
    wpAny (model prog w) A («str.translate» ⟨[.str ⟨#[c]⟩ t, .ref d], []⟩) R E s := by
  have hl : (Str.length ⟨#[c]⟩ == 0) = false := rfl
  have ht : tooLong 0 = false := by decide +kernel
  have ha : (#[c] : Array Nat).all (fun x => decide (x < 128)) = true := by simp [hc]
  unfold «str.translate»
  rw [tr_args]
  simp only [pure_bind, hl, ha, ht, Bool.false_eq_true, if_false, if_true, List.forIn_toArray, List.forIn_cons, List.forIn_nil, List.lookup_nil, bind_assoc]
  have t1 : tooLong (0 + 1) = false := by decide +kernel
  have t2 : tooLong (0 + 2) = false := by decide +kernel
  rcases hf with hf | ⟨x, tx, hf, hx⟩
  · refine wpAny_bind (lookup_keep hd hh hm hf fun h' tk k => ?_)
    simp only [pure_bind, t1, Bool.false_eq_true, if_false]
    rw [hf] at h
    exact wpAny_bind (wpAny_mkStr (wpAny_pure (h h' _ _ k)) (by rw [sizeLine_eq]; exact Nat.le_of_ble_eq_true rfl))
  · refine wpAny_bind (lookup_text hm hf fun tk => ?_)
    have hx1 : (x.length == 1) = false := by rw [hx]; rfl
    simp only [hx1, Bool.false_and, Bool.false_eq_true, if_false, bind_assoc]
    refine wpAny_bind (wpAny_rule ?_)
    refine wpAny_bind (lookup_text (s := { s with toks := tk }) hm hf fun tk' => ?_)
    simp only [pure_bind, hx, t2, Bool.false_eq_true, if_false]
    rw [hf] at h
    have e : (List.foldl (fun acc p => acc ++ p.cps) #[] [x].reverse : Array Nat) = x.cps := by simp
    rw [e]
    refine wpAny_bind (wpAny_mkStr (wpAny_pure (h _ _ _ fun _ _ e => e)) ?_)
    show x.length ≤ sizeLine
    rw [sizeLine_eq, hx]; exact Nat.le_of_ble_eq_true rfl

theorem call_translate {c : Nat} {t : Tok} {Q : Value → Shared → Prop} (hc : c < 128) (hd : (d == sysModules) = false) (hh : A.handled = none) (hm : s.heap.MapOf (intKind prog w) d f)
    (hf : f c = none ∨ ∃ x tx, f c = some (.str x tx) ∧ x.length = 2)
    (h : ∀ h' tk tk', (∀ b o, s.heap.get? b = some o → h'.get? b = some o) → Q (.str (trOf (f c) c) tk) { s with heap := h', toks := tk' }) :
    wpAny (model prog w) A (call (.builtin "str.translate") [.str ⟨#[c]⟩ t, .ref d]) Q E s :=
  wpAny_call (codeAny_call_builtin PySem.F.slot_str_translate.plain PySem.F.entry_str_translate (PySem.F.slot_str_translate.check _ _ _ _ _ _ _ _ (typeIs_str _ _ _) (PySem.F.args_str_translate_2 _ _)
    (tr_one hc hd hh hm hf fun h' tk tk' k => h h' tk tk' k)))
theorem method_str_of {M : Model} {pl : Sem Bool} {Q : Value × List Value → Shared → Prop} {name : PySem.Str} {id : String} (v : Value) (hT : s.TypeIs v "str") (slot : Slot "str" name id) (ty : typeOf (.builtin id) = pure (.type "method_descriptor"))
    (hd : ∀ a, v = .ref a → ∃ o, s.heap.get? a = some o ∧ o.dict = none) (h : Q (.builtin id, [v]) s) : wpAny M A (getMethod v name pl) Q E s :=
  getMethod_builtin hT PySem.F.plainAttrs_str slot ty hd h
theorem noRef_str {x : Str} {t : Tok} : ∀ a, Value.str x t = .ref a → ∃ o, s.heap.get? a = some o ∧ o.dict = none := fun _ e => nomatch e
theorem method_translate {M : Model} {x : Str} {t : Tok} {pl : Sem Bool} {Q : Value × List Value → Shared → Prop} (h : Q (.builtin "str.translate", [.str x t]) s) : wpAny M A (getMethod (.str x t) "translate" pl) Q E s := by
  with_reducible exact method_str_of (.str x t) (typeIs_str _ _ _) PySem.F.slot_str_translate PySem.F.type_str_translate noRef_str h
theorem method_encode {M : Model} {x : Str} {t : Tok} {pl : Sem Bool} {Q : Value × List Value → Shared → Prop} (h : Q (.builtin "str.encode", [.str x t]) s) : wpAny M A (getMethod (.str x t) "encode" pl) Q E s := by
  with_reducible exact method_str_of (.str x t) (typeIs_str _ _ _) PySem.F.slot_str_encode PySem.F.type_str_encode noRef_str h
end
end Mine
end
section
namespace Mine
theorem fresh_Bi3 : True := by
  w_top off
  trivial
end Mine
open PySem PySem.W PyProof.Rows PySem.Spec PySem.Calls
set_option Elab.async false
set_option maxRecDepth 100000
namespace Mine
open PySem.Builtin PySem.Builtin.Str
noncomputable def entries125 (P : Params) : Array DictEntry := match (heap P).lookup 125 with | some o => (match o.data with | .dict es _ => es | _ => #[]) | none => #[]
noncomputable def count125 (P : Params) : Nat := match (heap P).lookup 125 with | some o => (match o.data with | .dict _ n => n | _ => 0) | none => 0
theorem look125 (P : Params) : (heap P).lookup 125 = some ⟨.type "dict", none, .dict (entries125 P) (count125 P), #[]⟩ := by kernel_rfl
noncomputable def keyOk (e : DictEntry) : Bool := match e.key with | .int i _ => e.hash == hashInt i | _ => false
theorem keys125 (P : Params) : (entries125 P).toList.all keyOk = true := by kernel_rfl
noncomputable def missed (es : Array DictEntry) (c : Nat) : Bool := match es.toList.find? (fun e => Value.isInt c e.key) with
  | none => c != 43
  | some e => c == 43 && (match e.val with | .str x _ => x == (⟨#[92, 43]⟩ : Str) | _ => false)
theorem missed125 (P : Params) : b64.all (missed (entries125 P)) = true := by kernel_rfl
theorem map125 {prog : Program} {w : World} {h : Heap} (X : (heap w.params).In h) :
    ∃ f, h.MapOf (intKind prog w) 125 f ∧ ∀ c ∈ b64, (c ≠ 43 ∧ f c = none) ∨ (c = 43 ∧ ∃ tx, f c = some (.str ⟨#[92, 43]⟩ tx)) := by
  have hn := look125 w.params
  refine ⟨fun k => findBy Value.isInt (entries125 w.params) k, ⟨_, _, _, X _ _ hn, ⟨rfl, rfl, rfl⟩, rfl, fun e he => ?_, fun k => rfl⟩, fun c hc => ?_⟩
  · have := List.all_eq_true.mp (keys125 w.params) e (by simpa using he)
    unfold keyOk at this
    split at this
    · rename_i i t hk
      exact ⟨i, by rw [hk]; simp [intKind, Value.isInt], by simpa [intKind] using this⟩
    · cases this
  · have := b64_all (missed125 w.params) hc
    unfold missed at this
    show (_ ∧ findBy Value.isInt (entries125 w.params) c = none) ∨ (_ ∧ ∃ tx, findBy Value.isInt (entries125 w.params) c = some (.str ⟨#[92, 43]⟩ tx))
    unfold findBy
    rw [← Array.find?_toList]
    split at this
    · rename_i hq
      left
      rw [hq]
      exact ⟨by simpa using this, rfl⟩
    · rename_i e hq
      right
      rw [hq]
      obtain ⟨h1, h2⟩ := Bool.and_eq_true_iff.mp this
      refine ⟨by simpa using h1, ?_⟩
      split at h2
      · rename_i x tx hv
        exact ⟨tx, by show some e.val = _; rw [hv, eq_of_beq h2]⟩
      · cases h2
end Mine
end
section
namespace Mine
theorem fresh_Bx4 : True := by
  w_top off
  trivial
end Mine
open PySem PySem.W PyProof.Rows PySem.Spec PySem.Calls
set_option Elab.async false
set_option maxRecDepth 100000
set_option maxHeartbeats 2000000
namespace Mine
open PySem.Builtin
theorem md_get : typeLookup (.type "method_descriptor") "__get__" = pure (some (.builtin "method_descriptor.__get__")) := by rw [typeLookup_type, builtinLookup_eq_fast]; kernel_rfl
theorem md_set : typeLookup (.type "method_descriptor") "__set__" = pure none := by rw [typeLookup_type, builtinLookup_eq_fast]; kernel_rfl
theorem md_del : typeLookup (.type "method_descriptor") "__delete__" = pure none := by rw [typeLookup_type, builtinLookup_eq_fast]; kernel_rfl
theorem slot_md : Slot "method_descriptor" "__get__" "method_descriptor.__get__" :=
  .of (owner := "method_descriptor") (n := "__get__") (by rw [typeLookup_type, builtinLookup_eq_fast]; kernel_rfl) (by decide +kernel) (by decide +kernel) (by decide +kernel)
    (by first | exact .inl (by decide +kernel) | exact .inr (by decide +kernel)) (by rw [isSubtype_type]; kernel_rfl)
theorem entry_md : entryFor table "method_descriptor.__get__" = some Builtin.«method_descriptor.__get__» := entryFor_of_tree (by kernel_rfl)
theorem args_md (a b c : Value) : argsOk "method_descriptor.__get__" ⟨[a, b, c], []⟩ := by unfold argsOk; kernel_rfl
theorem list_sub : isSubtype (.type "list") (.type "list") = pure true := by rw [isSubtype_type]; kernel_rfl
noncomputable abbrev bound (l : Addr) : Obj := { cls := .type "builtin_function_or_method", data := .fields #[.builtin "list.append", .ref l] }
theorem meets_append_attr (a : Addr) (xs : Array Value) (k : Nat) (u : Tok) :
    Meets (Builtin.«object.__getattribute__» ⟨[.ref a, .str (PySem.Str.ofString "append") u], []⟩) (fun A R s => s.heap.get? a = some { cls := .type "list", data := .seq xs k } ∧ R (.ok (.ret (.ref s.heap.objs.size))) { s with heap := s.heap.push (bound a) }) :=
  fun prog w A R s hs => by
    obtain ⟨hp, g, d, tk, os⟩ := s
    obtain ⟨hx, hs⟩ := hs
    have hT : (⟨hp, g, d, tk, os⟩ : Shared).TypeIs (.ref a) "list" := ⟨_, hx, rfl⟩
    have f1 := PySem.F.slot_list_append.lookup
    have f2 := PySem.F.type_list_append
    have f3 := md_get
    have f4 := md_set
    have f5 := md_del
    unfold Builtin.«object.__getattribute__»
    repeat (any_goals (first | assumption | wp_step))
    refine codeAny_call_builtin slot_md.plain entry_md (slot_md.check _ _ _ _ _ _ _ _ (by show typeOf _ = _; exact f2) (args_md _ _ _) ?_)
    unfold Builtin.«method_descriptor.__get__»
    repeat (any_goals (first | assumption | wp_step))
    rw [show (".".intercalate ("list.append".cutAt '.').dropLast) = "list" from by decide +kernel]
    refine wpAny_of_eq list_sub ?_
    simp only [Bool.not_true, Bool.false_eq_true, if_false]
    refine wpAny_pure ?_
    unfold newFields
    refine wpAny_bind (wpAny_newObj_type (s := ⟨hp, g, d, tk, os⟩) ?_ (by size_fits))
    exact wpAny_pure (wpAny_pure hs)

theorem getAttr_append {prog : Program} {w : World} {A : Around} {E : Value → Shared → Prop} {s : Shared} {a : Addr} {xs : Array Value} {k : Nat} {Q : Value → Shared → Prop}
    (hx : s.heap.get? a = some { cls := .type "list", data := .seq xs k })
    (h : ∀ tk, Q (.ref s.heap.objs.size) { s with heap := s.heap.push (bound a), toks := tk }) :
    wpAny (model prog w) A (getAttr (.ref a) (PySem.Str.ofString "append") true) Q E s := by
  obtain ⟨hp, g, d, tk, os⟩ := s
  have hT : ∀ tk', (⟨hp, g, d, tk', os⟩ : Shared).TypeIs (.ref a) "list" := fun _ => ⟨_, hx, rfl⟩
  have f3 := PySem.F.slot_list_getattribute.lookup
  have f4 := PySem.F.slot_list_getattribute.bind (.ref a)
  unfold getAttr getAttrBy
  repeat (any_goals (first | assumption | exact hT _ | ((with_reducible show wpAny _ _ (call (Value.builtin "list.__getattribute__") _ _) _ _ _); refine call_meets PySem.F.slot_list_getattribute (hT _) am_entry_list_getattribute (PySem.F.args_list_getattribute_2 _ _) (meets_append_attr a xs k _) ⟨hx, ?_⟩) | wp_step))
  show wpAny _ _ (handedOut _) _ _ _
  rw [handedOut_of rfl]
  exact wpAny_pure (h _)
end Mine
end
section
namespace Mine
theorem fresh_Bx5 : True := by
  w_top off
  trivial
end Mine
open PySem PySem.W PyProof.Rows PySem.Spec PySem.Calls
set_option Elab.async false
set_option maxRecDepth 100000
set_option maxHeartbeats 2000000
namespace Mine
open PySem.Builtin
theorem not_module : isSubtype (.type "list") (.type "module") = pure false := by rw [isSubtype_type]; kernel_rfl
theorem append_sig : ∃ sg, Manifest.signature? "list.append" = some sg ∧ ∀ a b, Bind.checkArgs "list.append" { sg with full := s!"{Bind.lastOf "list"}.{Bind.lastOf "list.append"}" } ⟨[a, b], []⟩ = pure () := by
  refine ⟨_, signature?_of (id := "list.append") (n := ['d', 'n', 'e', 'p', 'p', 'a']) (o := ['t', 's', 'i', 'l']) (by kernel_rfl) PySem.F.owner_list, fun a b => by kernel_rfl⟩
theorem append_kind : builtinKind "list.append" = some .method := by decide +kernel
theorem append_va : Manifest.varargsMethods.contains "list.append" = false := by decide +kernel
theorem check_append {M : Model} {A : Around} {E : Value → Shared → Prop} {s : Shared} {l : Addr} {x : Value} {its : Array Value} {n : Nat} {Q : Unit → Shared → Prop} (ho : s.heap.get? l = some { cls := .type "list", data := .seq its n }) (h : Q () s) :
    wpAny M A (checkBoundCall "list.append" ⟨[.ref l, x], []⟩) Q E s := by
  obtain ⟨sg, e1, e2⟩ := append_sig
  obtain ⟨hp, g, d, tk, os⟩ := s
  have hT : (⟨hp, g, d, tk, os⟩ : Shared).TypeIs (.ref l) "list" := ⟨_, ho, rfl⟩
  unfold checkBoundCall
  rw [e1, append_kind]
  simp only [bne_self_eq_false, Bool.false_and, Bool.false_eq_true, if_false]
  refine wpAny_bind (wpAny_isInstance hT not_module ?_)
  simp only [append_va, Bool.or_false, Bool.false_eq_true, if_false]
  have h1 : wpAny M A (isType (.ref l)) (fun b s' => b = false ∧ s' = ⟨hp, g, d, tk, os⟩) E ⟨hp, g, d, tk, os⟩ := by
    unfold isType
    unfold loadHead
    exact wpAny_bind (wpAny_loadPart ho (wpAny_pure ⟨rfl, rfl⟩))
  refine wpAny_bind (wpAny_mono h1 (fun b s' hb => ?_) fun _ _ e => e)
  obtain ⟨rfl, rfl⟩ := hb
  simp only [Bool.false_eq_true, if_false]
  refine wpAny_bind (wpAny_typeOf hT ?_)
  exact wpAny_of_eq (e2 _ _) h

theorem call_bound {prog : Program} {w : World} {A : Around} {E : Value → Shared → Prop} {s : Shared} {q l : Addr} {x : Value} {its : Array Value} {n : Nat} {Q : Value → Shared → Prop}
    (hq : s.heap.get? q = some (bound l)) (ho : s.heap.get? l = some { cls := .type "list", data := .seq its n }) (hsz : its.size ≤ sizeLine)
    (h : ∀ h', Heap.SameBut l s.heap h' → h'.get? l = some { cls := .type "list", data := .seq (its.push x) (n + 1) } → Q .none { s with heap := h' }) :
    wpAny (model prog w) A (call (.ref q) [x]) Q E s := by
  refine wpAny_call (codeAny_of_tree ?_)
  show wpAny _ _ (callAny (.ref q) ⟨[x], []⟩) _ _ s
  unfold callAny
  refine wpAny_bind (wpAny_load hq ?_)
  show wpAny _ _ (checkBoundCall "list.append" ⟨[.ref l, x], []⟩ >>= fun _ => again (.builtin "list.append" ⟨[.ref l, x], []⟩)) _ _ s
  refine wpAny_bind (check_append ho (wpAny_pure ⟨plainId_quiet PySem.F.slot_list_append.plain _, codeAny_builtin PySem.F.entry_list_append ?_⟩))
  rw [Around.under_plainId PySem.F.slot_list_append.plain _]
  show wpAny _ _ (updateSeq l (·.push x) >>= fun _ => ret .none) _ _ s
  refine wpAny_bind ?_
  refine wpAny_updateSeq ho rfl (wpAny_pure (h _ (Heap.SameBut.update ..) ?_))
  rw [Heap.get?_update_self _ ho (by rw [mapSeq_push]; rfl), mapSeq_push]
end Mine
end
section
namespace Mine
theorem fresh_Bi4 : True := by
  w_top off
  trivial
end Mine
open PySem PySem.W PyProof.Rows PySem.Spec PySem.Calls
set_option Elab.async false
set_option maxRecDepth 100000
namespace Mine
open PySem.Builtin
noncomputable def BoundP (q l : Addr) (h : Heap) : Prop := h.get? q = some (bound l)
section
variable {M : Model} {A : Around} {E : Value → Shared → Prop} {s : Shared} {env : Env} {pos : Pos} {first : List Value} {Q : Value → Shared → Prop} {q l : Addr}
theorem keeps_B (h : Heap) (X : BoundP q l h) : ∃ k, (k = Keeper.frame ∨ k = Keeper.machine ∨ k = Keeper.boundFrame) ∧ Looks M h (keeperOf (.ref q)) k :=
  ⟨.machine, .inr (.inl rfl), (Looks.ld (part := none) X).andThen .now⟩
theorem callWith_B {h₀ : Heap} {L : Addr} {news : List (Addr × Obj)} {e : Expr} {rest : List Expr} (_N : News h₀ L s.heap news) (_q : (q, bound l) ∈ news) (h : wpAny M A (spliced (backTo pos (starEach (e :: rest) env))) (fun vs s₁ => BoundP q l s₁.heap ∧ wpAny M A (call (.ref q) (first ++ vs)) Q E s₁) E s)
    (he : starEach (e :: rest) env = (false, eval e env) :: starEach rest env := by rfl) (hplain : (backTo pos (starEach rest env)).any (·.1) = false := by rfl) :
    wpAny M A (callWith pos (.ref q) first (backTo pos (starEach (e :: rest) env)) []) Q E s := by
  rw [he] at h ⊢
  exact callWith_of (by show ((false || (backTo pos (starEach rest env)).any (·.1)) || false) = false; rw [hplain]; rfl) keeps_B (evalArgs_plain h)
theorem boundP {h₀ : Heap} {L : Addr} {h : Heap} {news : List (Addr × Obj)} (N : News h₀ L h news) (hq : (q, bound l) ∈ news) : BoundP q l h := (N _ hq).1
end
section
variable {prog : Program} {w : World} {A : Around} {E : Value → Shared → Prop} {s : Shared} {h₀ : Heap} {L q l : Addr} {m : Str → Option Value} {news news' : List (Addr × Obj)} {Q : Value → Shared → Prop} {x : Value} {its : Array Value} {n : Nat}
theorem call_boundK (F : Fr h₀ L s.heap m) (N : News h₀ L s.heap news) (hq : (q, bound l) ∈ news) (U : Upd l (listOf its n) (listOf (its.push x) (n + 1)) news news')
    (h : ∀ h', Fr h₀ L h' m → News h₀ L h' news' → Q .none { s with heap := h' }) (hsz : its.size ≤ sizeLine := by size_fits) : wpAny (model prog w) A (call (.ref q) [x]) Q E s := by
  have hq' := (N _ hq).1
  obtain ⟨pre, post, rfl, rfl, a, b⟩ := U.split
  have z := N (l, listOf its n) (List.mem_append.mpr (.inr (.head _)))
  exact call_bound hq' z.1 hsz fun h' hs ho' => h h' (F.change hs z.2.1 z.2.2) (news_set N a b hs ho')
theorem getAttr_appendK (F : Fr h₀ L s.heap m) (N : News h₀ L s.heap news) (hm : (l, listOf its n) ∈ news)
    (h : ∀ q h' tk, Fr h₀ L h' m → News h₀ L h' ((q, bound l) :: news) → (∀ p ∈ news, p.1 < q) → Q (.ref q) { s with heap := h', toks := tk }) :
    wpAny (model prog w) A (getAttr (.ref l) (PySem.Str.ofString "append") true) Q E s :=
  getAttr_append (N _ hm).1 fun tk => h _ _ tk (F.push _) (News.push F N _) fun p hp => Heap.lt_size (N p hp).1

noncomputable abbrev objectOf : Obj := { cls := .type "object" }
theorem call_objectK (F : Fr h₀ L s.heap m) (N : News h₀ L s.heap news)
    (h : ∀ q h', Fr h₀ L h' m → News h₀ L h' ((q, objectOf) :: news) → (∀ p ∈ news, p.1 < q) → Q (.ref q) { s with heap := h' }) :
    wpAny (model prog w) A (call (.type "object") []) Q E s := by
  refine callType_meets (Q₁ := fun obj s₁ => obj = .ref s.heap.objs.size ∧ s₁ = { s with heap := s.heap.push objectOf }) (S := fun _ R s => R (.ok (.ret (.ref s.heap.objs.size))) { s with heap := s.heap.push objectOf })
    object_called object_typeCall object_newCall object_entry PySem.F.entry_object_init (.of_wp fun prog w A R s hs => ?_) ⟨rfl, rfl⟩ ?_
  · rw [object_new_eq]
    exact wpAny_bind (wpAny_newObj_type (wpAny_pure ⟨_, rfl, hs⟩) (by size_fits))
  · rintro obj s₁ ⟨rfl, rfl⟩
    refine ⟨⟨_, Heap.get?_push_size _ rfl, rfl⟩, PySem.F.args_object_init_1 _, fun _ R s => R (.ok (.ret .none)) s, .of_wp fun prog w A R s hs => ?_, ⟨rfl, ?_⟩⟩
    · rw [object_init_eq]
      exact wpAny_pure ⟨_, rfl, hs⟩
    · exact h _ _ (F.push _) (News.push F N _) fun p hp => Heap.lt_size (N p hp).1
end
end Mine
end
section
namespace Mine
theorem fresh_Bi5 : True := by
  w_top off
  trivial
end Mine
open PySem PySem.W PyProof.Rows PySem.Spec PySem.Calls
set_option Elab.async false
set_option maxRecDepth 100000
namespace Mine
open PySem.Builtin
theorem ne_of_b64 {c k : Nat} (hc : c ∈ b64) (hk : b64.contains k = false) : c ≠ k := fun e => by
  rw [e] at hc
  have := List.contains_iff_mem.mpr hc
  rw [hk] at this; cases this
theorem it0 {a : Nat} {l : List Nat} : (List.toArray (a :: l))[Int.toNat 0]? = some a := rfl
theorem it1 {a b : Nat} {l : List Nat} : (List.toArray (a :: b :: l))[Int.toNat 1]? = some b := rfl
theorem it2 {a b c : Nat} {l : List Nat} : (List.toArray (a :: b :: c :: l))[Int.toNat 2]? = some c := rfl
theorem it3 {a b c d : Nat} {l : List Nat} : (List.toArray (a :: b :: c :: d :: l))[Int.toNat 3]? = some d := rfl
theorem it4 {a b c d e : Nat} {l : List Nat} : (List.toArray (a :: b :: c :: d :: e :: l))[Int.toNat 4]? = some e := rfl
theorem it5 {a b c d e f : Nat} {l : List Nat} : (List.toArray (a :: b :: c :: d :: e :: f :: l))[Int.toNat 5]? = some f := rfl
theorem it6 {a b c d e f g : Nat} {l : List Nat} : (List.toArray (a :: b :: c :: d :: e :: f :: g :: l))[Int.toNat 6]? = some g := rfl
theorem it7 {a b c d e f g h : Nat} {l : List Nat} : (List.toArray (a :: b :: c :: d :: e :: f :: g :: h :: l))[Int.toNat 7]? = some h := rfl
theorem it8 {a b c d e f g h i : Nat} {l : List Nat} : (List.toArray (a :: b :: c :: d :: e :: f :: g :: h :: i :: l))[Int.toNat 8]? = some i := rfl
theorem it9 {a b c d e f g h i j : Nat} {l : List Nat} : (List.toArray (a :: b :: c :: d :: e :: f :: g :: h :: i :: j :: l))[Int.toNat 9]? = some j := rfl
section
variable {prog : Program} {w : World} {A : Around} {E : Value → Shared → Prop} {s : Shared} {Q : Value → Shared → Prop} {x y : Str} {t u : Tok} {c k : Nat} {value slice : Expr}
theorem len10 {a b c d e f g h i j : Nat} (hq : ∀ tk tk', Q (.int 10 tk) { s with toks := tk' }) : wpAny (model prog w) A (call (.builtin "len") [.str ⟨#[a, b, c, d, e, f, g, h, i, j]⟩ t]) Q E s :=
  P.len_str (x := ⟨#[a, b, c, d, e, f, g, h, i, j]⟩) (by show ¬ ((10 : Nat) : Int) ≥ _; decide) (hq _ _)
theorem eq_one_t (hy : y.cps.toList = [c]) (h : Q (.bool true) s) : wpAny (model prog w) A (compareOp .Eq (.str ⟨#[c]⟩ t) (.str y u)) Q E s :=
  P.eq_str (by rw [hy]; simpa using h)
theorem eq_one_f (hy : y.cps.toList = [k]) (hc : c ≠ k) (h : Q (.bool false) s) : wpAny (model prog w) A (compareOp .Eq (.str ⟨#[c]⟩ t) (.str y u)) Q E s :=
  P.eq_str (by
    rw [hy]
    have e : ((#[c] : Array Nat).toList == [k]) = false := by simpa using hc
    rw [e]; exact h)
theorem item_lit {i : Int} (h0 : 0 ≤ i) (h1 : i < 2 ^ 62) (hc : x.cps[i.toNat]? = some c)
    (h : Q (.str ⟨#[c]⟩ s.toks) { s with toks := s.toks + 1 })
    (hs : subscripted slice false (.str x t) (.int i u) = operate [.str x t, .int i u] (getItem (.str x t) (.int i u)) := by with_unfolding_all rfl)
    (ht : ∀ r, letTemporaryGo value (.str x t) r = pure () := by intro _; with_unfolding_all rfl) :
    wpAny (model prog w) A (subscriptTail value slice (.str x t) (.int i u)) Q E s := by
  obtain ⟨hlt, he⟩ := Array.getElem?_eq_some_iff.mp hc
  refine item_str (fitsSsize_of (N := 2 ^ 62) (by omega) (by omega) (by decide)) (by show -(x.cps.size : Int) ≤ i; omega) (by show i < (x.cps.size : Int); omega) (fun _ => ?_) hs ht
  have e : Txt.item x i = ⟨#[c]⟩ := by
    unfold Txt.item Txt.charAt seqIndex?
    have h2 : i < (x.length : Int) := by show i < (x.cps.size : Int); omega
    simp [h0, h2, show ¬ i < 0 by omega, hc]
  rw [e]; exact h
theorem item_at0 {a0 : Nat} {l : List Nat} {i : Int} (hi : i = 0) (h : Q (.str ⟨#[a0]⟩ s.toks) { s with toks := s.toks + 1 })
    (hs : subscripted slice false (.str ⟨List.toArray (a0 :: l)⟩ t) (.int i u) = operate [.str ⟨List.toArray (a0 :: l)⟩ t, .int i u] (getItem (.str ⟨List.toArray (a0 :: l)⟩ t) (.int i u)) := by with_unfolding_all rfl)
    (ht : ∀ r, letTemporaryGo value (.str ⟨List.toArray (a0 :: l)⟩ t) r = pure () := by intro _; with_unfolding_all rfl) :
    wpAny (model prog w) A (subscriptTail value slice (.str ⟨List.toArray (a0 :: l)⟩ t) (.int i u)) Q E s := by
  subst hi
  exact item_lit (by decide) (by decide) it0 h hs ht
theorem item_at1 {a0 a1 : Nat} {l : List Nat} {i : Int} (hi : i = 1) (h : Q (.str ⟨#[a1]⟩ s.toks) { s with toks := s.toks + 1 })
    (hs : subscripted slice false (.str ⟨List.toArray (a0 :: a1 :: l)⟩ t) (.int i u) = operate [.str ⟨List.toArray (a0 :: a1 :: l)⟩ t, .int i u] (getItem (.str ⟨List.toArray (a0 :: a1 :: l)⟩ t) (.int i u)) := by with_unfolding_all rfl)
    (ht : ∀ r, letTemporaryGo value (.str ⟨List.toArray (a0 :: a1 :: l)⟩ t) r = pure () := by intro _; with_unfolding_all rfl) :
    wpAny (model prog w) A (subscriptTail value slice (.str ⟨List.toArray (a0 :: a1 :: l)⟩ t) (.int i u)) Q E s := by
  subst hi
  exact item_lit (by decide) (by decide) it1 h hs ht
theorem item_at2 {a0 a1 a2 : Nat} {l : List Nat} {i : Int} (hi : i = 2) (h : Q (.str ⟨#[a2]⟩ s.toks) { s with toks := s.toks + 1 })
    (hs : subscripted slice false (.str ⟨List.toArray (a0 :: a1 :: a2 :: l)⟩ t) (.int i u) = operate [.str ⟨List.toArray (a0 :: a1 :: a2 :: l)⟩ t, .int i u] (getItem (.str ⟨List.toArray (a0 :: a1 :: a2 :: l)⟩ t) (.int i u)) := by with_unfolding_all rfl)
    (ht : ∀ r, letTemporaryGo value (.str ⟨List.toArray (a0 :: a1 :: a2 :: l)⟩ t) r = pure () := by intro _; with_unfolding_all rfl) :
    wpAny (model prog w) A (subscriptTail value slice (.str ⟨List.toArray (a0 :: a1 :: a2 :: l)⟩ t) (.int i u)) Q E s := by
  subst hi
  exact item_lit (by decide) (by decide) it2 h hs ht
theorem item_at3 {a0 a1 a2 a3 : Nat} {l : List Nat} {i : Int} (hi : i = 3) (h : Q (.str ⟨#[a3]⟩ s.toks) { s with toks := s.toks + 1 })
    (hs : subscripted slice false (.str ⟨List.toArray (a0 :: a1 :: a2 :: a3 :: l)⟩ t) (.int i u) = operate [.str ⟨List.toArray (a0 :: a1 :: a2 :: a3 :: l)⟩ t, .int i u] (getItem (.str ⟨List.toArray (a0 :: a1 :: a2 :: a3 :: l)⟩ t) (.int i u)) := by with_unfolding_all rfl)
    (ht : ∀ r, letTemporaryGo value (.str ⟨List.toArray (a0 :: a1 :: a2 :: a3 :: l)⟩ t) r = pure () := by intro _; with_unfolding_all rfl) :
    wpAny (model prog w) A (subscriptTail value slice (.str ⟨List.toArray (a0 :: a1 :: a2 :: a3 :: l)⟩ t) (.int i u)) Q E s := by
  subst hi
  exact item_lit (by decide) (by decide) it3 h hs ht
theorem item_at4 {a0 a1 a2 a3 a4 : Nat} {l : List Nat} {i : Int} (hi : i = 4) (h : Q (.str ⟨#[a4]⟩ s.toks) { s with toks := s.toks + 1 })
    (hs : subscripted slice false (.str ⟨List.toArray (a0 :: a1 :: a2 :: a3 :: a4 :: l)⟩ t) (.int i u) = operate [.str ⟨List.toArray (a0 :: a1 :: a2 :: a3 :: a4 :: l)⟩ t, .int i u] (getItem (.str ⟨List.toArray (a0 :: a1 :: a2 :: a3 :: a4 :: l)⟩ t) (.int i u)) := by with_unfolding_all rfl)
    (ht : ∀ r, letTemporaryGo value (.str ⟨List.toArray (a0 :: a1 :: a2 :: a3 :: a4 :: l)⟩ t) r = pure () := by intro _; with_unfolding_all rfl) :
    wpAny (model prog w) A (subscriptTail value slice (.str ⟨List.toArray (a0 :: a1 :: a2 :: a3 :: a4 :: l)⟩ t) (.int i u)) Q E s := by
  subst hi
  exact item_lit (by decide) (by decide) it4 h hs ht
theorem item_at5 {a0 a1 a2 a3 a4 a5 : Nat} {l : List Nat} {i : Int} (hi : i = 5) (h : Q (.str ⟨#[a5]⟩ s.toks) { s with toks := s.toks + 1 })
    (hs : subscripted slice false (.str ⟨List.toArray (a0 :: a1 :: a2 :: a3 :: a4 :: a5 :: l)⟩ t) (.int i u) = operate [.str ⟨List.toArray (a0 :: a1 :: a2 :: a3 :: a4 :: a5 :: l)⟩ t, .int i u] (getItem (.str ⟨List.toArray (a0 :: a1 :: a2 :: a3 :: a4 :: a5 :: l)⟩ t) (.int i u)) := by with_unfolding_all rfl)
    (ht : ∀ r, letTemporaryGo value (.str ⟨List.toArray (a0 :: a1 :: a2 :: a3 :: a4 :: a5 :: l)⟩ t) r = pure () := by intro _; with_unfolding_all rfl) :
    wpAny (model prog w) A (subscriptTail value slice (.str ⟨List.toArray (a0 :: a1 :: a2 :: a3 :: a4 :: a5 :: l)⟩ t) (.int i u)) Q E s := by
  subst hi
  exact item_lit (by decide) (by decide) it5 h hs ht
theorem item_at6 {a0 a1 a2 a3 a4 a5 a6 : Nat} {l : List Nat} {i : Int} (hi : i = 6) (h : Q (.str ⟨#[a6]⟩ s.toks) { s with toks := s.toks + 1 })
    (hs : subscripted slice false (.str ⟨List.toArray (a0 :: a1 :: a2 :: a3 :: a4 :: a5 :: a6 :: l)⟩ t) (.int i u) = operate [.str ⟨List.toArray (a0 :: a1 :: a2 :: a3 :: a4 :: a5 :: a6 :: l)⟩ t, .int i u] (getItem (.str ⟨List.toArray (a0 :: a1 :: a2 :: a3 :: a4 :: a5 :: a6 :: l)⟩ t) (.int i u)) := by with_unfolding_all rfl)
    (ht : ∀ r, letTemporaryGo value (.str ⟨List.toArray (a0 :: a1 :: a2 :: a3 :: a4 :: a5 :: a6 :: l)⟩ t) r = pure () := by intro _; with_unfolding_all rfl) :
    wpAny (model prog w) A (subscriptTail value slice (.str ⟨List.toArray (a0 :: a1 :: a2 :: a3 :: a4 :: a5 :: a6 :: l)⟩ t) (.int i u)) Q E s := by
  subst hi
  exact item_lit (by decide) (by decide) it6 h hs ht
theorem item_at7 {a0 a1 a2 a3 a4 a5 a6 a7 : Nat} {l : List Nat} {i : Int} (hi : i = 7) (h : Q (.str ⟨#[a7]⟩ s.toks) { s with toks := s.toks + 1 })
    (hs : subscripted slice false (.str ⟨List.toArray (a0 :: a1 :: a2 :: a3 :: a4 :: a5 :: a6 :: a7 :: l)⟩ t) (.int i u) = operate [.str ⟨List.toArray (a0 :: a1 :: a2 :: a3 :: a4 :: a5 :: a6 :: a7 :: l)⟩ t, .int i u] (getItem (.str ⟨List.toArray (a0 :: a1 :: a2 :: a3 :: a4 :: a5 :: a6 :: a7 :: l)⟩ t) (.int i u)) := by with_unfolding_all rfl)
    (ht : ∀ r, letTemporaryGo value (.str ⟨List.toArray (a0 :: a1 :: a2 :: a3 :: a4 :: a5 :: a6 :: a7 :: l)⟩ t) r = pure () := by intro _; with_unfolding_all rfl) :
    wpAny (model prog w) A (subscriptTail value slice (.str ⟨List.toArray (a0 :: a1 :: a2 :: a3 :: a4 :: a5 :: a6 :: a7 :: l)⟩ t) (.int i u)) Q E s := by
  subst hi
  exact item_lit (by decide) (by decide) it7 h hs ht
theorem item_at8 {a0 a1 a2 a3 a4 a5 a6 a7 a8 : Nat} {l : List Nat} {i : Int} (hi : i = 8) (h : Q (.str ⟨#[a8]⟩ s.toks) { s with toks := s.toks + 1 })
    (hs : subscripted slice false (.str ⟨List.toArray (a0 :: a1 :: a2 :: a3 :: a4 :: a5 :: a6 :: a7 :: a8 :: l)⟩ t) (.int i u) = operate [.str ⟨List.toArray (a0 :: a1 :: a2 :: a3 :: a4 :: a5 :: a6 :: a7 :: a8 :: l)⟩ t, .int i u] (getItem (.str ⟨List.toArray (a0 :: a1 :: a2 :: a3 :: a4 :: a5 :: a6 :: a7 :: a8 :: l)⟩ t) (.int i u)) := by with_unfolding_all rfl)
    (ht : ∀ r, letTemporaryGo value (.str ⟨List.toArray (a0 :: a1 :: a2 :: a3 :: a4 :: a5 :: a6 :: a7 :: a8 :: l)⟩ t) r = pure () := by intro _; with_unfolding_all rfl) :
    wpAny (model prog w) A (subscriptTail value slice (.str ⟨List.toArray (a0 :: a1 :: a2 :: a3 :: a4 :: a5 :: a6 :: a7 :: a8 :: l)⟩ t) (.int i u)) Q E s := by
  subst hi
  exact item_lit (by decide) (by decide) it8 h hs ht
theorem item_at9 {a0 a1 a2 a3 a4 a5 a6 a7 a8 a9 : Nat} {l : List Nat} {i : Int} (hi : i = 9) (h : Q (.str ⟨#[a9]⟩ s.toks) { s with toks := s.toks + 1 })
    (hs : subscripted slice false (.str ⟨List.toArray (a0 :: a1 :: a2 :: a3 :: a4 :: a5 :: a6 :: a7 :: a8 :: a9 :: l)⟩ t) (.int i u) = operate [.str ⟨List.toArray (a0 :: a1 :: a2 :: a3 :: a4 :: a5 :: a6 :: a7 :: a8 :: a9 :: l)⟩ t, .int i u] (getItem (.str ⟨List.toArray (a0 :: a1 :: a2 :: a3 :: a4 :: a5 :: a6 :: a7 :: a8 :: a9 :: l)⟩ t) (.int i u)) := by with_unfolding_all rfl)
    (ht : ∀ r, letTemporaryGo value (.str ⟨List.toArray (a0 :: a1 :: a2 :: a3 :: a4 :: a5 :: a6 :: a7 :: a8 :: a9 :: l)⟩ t) r = pure () := by intro _; with_unfolding_all rfl) :
    wpAny (model prog w) A (subscriptTail value slice (.str ⟨List.toArray (a0 :: a1 :: a2 :: a3 :: a4 :: a5 :: a6 :: a7 :: a8 :: a9 :: l)⟩ t) (.int i u)) Q E s := by
  subst hi
  exact item_lit (by decide) (by decide) it9 h hs ht
end
end Mine
end
section
namespace Mine
theorem fresh_Bi6 : True := by
  w_top off
  trivial
end Mine
open PySem PySem.W PyProof.Rows PySem.Spec PySem.Calls
set_option Elab.async false
set_option maxRecDepth 100000
namespace Mine
open PySem.Builtin
section
variable {prog : Program} {w : World} {A : Around} {E : Value → Shared → Prop} {s : Shared} {Q : Value → Shared → Prop} {t u : Tok} {value slice : Expr} {h₀ : Heap} {L l : Addr} {m : Str → Option Value} {its : Array Value} {n : Nat}
theorem base_list (F : Fr h₀ L s.heap m) (hl : h₀.get? l = some (listOf its n)) : s.heap.IsList l its := ⟨_, F.keep _ _ hl, rfl, n, rfl⟩
theorem item_base {k : Int} {v : Value} (F : Fr h₀ L s.heap m) (hl : h₀.get? l = some (listOf its n)) (h0 : 0 ≤ k) (hhi : k < 2 ^ 63) (hx : its[k.toNat]? = some v) (h : Q v s)
    (hs : subscripted slice false (.ref l) (.int k u) = operate [.ref l, .int k u] (getItem (.ref l) (.int k u)) := by with_unfolding_all rfl) :
    wpAny (model prog w) A (subscriptTail value slice (.ref l) (.int k u)) Q E s :=
  tail_any (base_list F hl).typeIs PySem.F.slot_list_getitem.lookup (wpAny_getItem_list (base_list F hl) h0 hhi hx h) hs
theorem len_base {k : Int} (F : Fr h₀ L s.heap m) (hl : h₀.get? l = some (listOf its n)) (hk : (its.size : Int) = k) (hz : k < 2 ^ 60) (h : ∀ tk tk', Q (.int k tk) { s with toks := tk' }) :
    wpAny (model prog w) A (call (.builtin "len") [.ref l]) Q E s := by
  subst hk
  exact PyProof.Rows.len_list (base_list F hl) (by omega) (h _ _)
variable {a : Addr}
theorem base_at0 {v0 : Value} {l : List Value} {i : Int} (F : Fr h₀ L s.heap m) (hl : h₀.get? a = some (listOf (List.toArray (v0 :: l)) n)) (hi : i = 0) (h : Q v0 s)
    (hs : subscripted slice false (.ref a) (.int i u) = operate [.ref a, .int i u] (getItem (.ref a) (.int i u)) := by with_unfolding_all rfl) :
    wpAny (model prog w) A (subscriptTail value slice (.ref a) (.int i u)) Q E s := by
  subst hi
  exact item_base F hl (by decide) (by decide) rfl h hs
theorem base_at1 {v0 v1 : Value} {l : List Value} {i : Int} (F : Fr h₀ L s.heap m) (hl : h₀.get? a = some (listOf (List.toArray (v0 :: v1 :: l)) n)) (hi : i = 1) (h : Q v1 s)
    (hs : subscripted slice false (.ref a) (.int i u) = operate [.ref a, .int i u] (getItem (.ref a) (.int i u)) := by with_unfolding_all rfl) :
    wpAny (model prog w) A (subscriptTail value slice (.ref a) (.int i u)) Q E s := by
  subst hi
  exact item_base F hl (by decide) (by decide) rfl h hs
theorem base_at2 {v0 v1 v2 : Value} {l : List Value} {i : Int} (F : Fr h₀ L s.heap m) (hl : h₀.get? a = some (listOf (List.toArray (v0 :: v1 :: v2 :: l)) n)) (hi : i = 2) (h : Q v2 s)
    (hs : subscripted slice false (.ref a) (.int i u) = operate [.ref a, .int i u] (getItem (.ref a) (.int i u)) := by with_unfolding_all rfl) :
    wpAny (model prog w) A (subscriptTail value slice (.ref a) (.int i u)) Q E s := by
  subst hi
  exact item_base F hl (by decide) (by decide) rfl h hs
theorem base_at3 {v0 v1 v2 v3 : Value} {l : List Value} {i : Int} (F : Fr h₀ L s.heap m) (hl : h₀.get? a = some (listOf (List.toArray (v0 :: v1 :: v2 :: v3 :: l)) n)) (hi : i = 3) (h : Q v3 s)
    (hs : subscripted slice false (.ref a) (.int i u) = operate [.ref a, .int i u] (getItem (.ref a) (.int i u)) := by with_unfolding_all rfl) :
    wpAny (model prog w) A (subscriptTail value slice (.ref a) (.int i u)) Q E s := by
  subst hi
  exact item_base F hl (by decide) (by decide) rfl h hs
theorem base_at4 {v0 v1 v2 v3 v4 : Value} {l : List Value} {i : Int} (F : Fr h₀ L s.heap m) (hl : h₀.get? a = some (listOf (List.toArray (v0 :: v1 :: v2 :: v3 :: v4 :: l)) n)) (hi : i = 4) (h : Q v4 s)
    (hs : subscripted slice false (.ref a) (.int i u) = operate [.ref a, .int i u] (getItem (.ref a) (.int i u)) := by with_unfolding_all rfl) :
    wpAny (model prog w) A (subscriptTail value slice (.ref a) (.int i u)) Q E s := by
  subst hi
  exact item_base F hl (by decide) (by decide) rfl h hs
theorem base_at5 {v0 v1 v2 v3 v4 v5 : Value} {l : List Value} {i : Int} (F : Fr h₀ L s.heap m) (hl : h₀.get? a = some (listOf (List.toArray (v0 :: v1 :: v2 :: v3 :: v4 :: v5 :: l)) n)) (hi : i = 5) (h : Q v5 s)
    (hs : subscripted slice false (.ref a) (.int i u) = operate [.ref a, .int i u] (getItem (.ref a) (.int i u)) := by with_unfolding_all rfl) :
    wpAny (model prog w) A (subscriptTail value slice (.ref a) (.int i u)) Q E s := by
  subst hi
  exact item_base F hl (by decide) (by decide) rfl h hs
theorem base_at6 {v0 v1 v2 v3 v4 v5 v6 : Value} {l : List Value} {i : Int} (F : Fr h₀ L s.heap m) (hl : h₀.get? a = some (listOf (List.toArray (v0 :: v1 :: v2 :: v3 :: v4 :: v5 :: v6 :: l)) n)) (hi : i = 6) (h : Q v6 s)
    (hs : subscripted slice false (.ref a) (.int i u) = operate [.ref a, .int i u] (getItem (.ref a) (.int i u)) := by with_unfolding_all rfl) :
    wpAny (model prog w) A (subscriptTail value slice (.ref a) (.int i u)) Q E s := by
  subst hi
  exact item_base F hl (by decide) (by decide) rfl h hs
theorem base_at7 {v0 v1 v2 v3 v4 v5 v6 v7 : Value} {l : List Value} {i : Int} (F : Fr h₀ L s.heap m) (hl : h₀.get? a = some (listOf (List.toArray (v0 :: v1 :: v2 :: v3 :: v4 :: v5 :: v6 :: v7 :: l)) n)) (hi : i = 7) (h : Q v7 s)
    (hs : subscripted slice false (.ref a) (.int i u) = operate [.ref a, .int i u] (getItem (.ref a) (.int i u)) := by with_unfolding_all rfl) :
    wpAny (model prog w) A (subscriptTail value slice (.ref a) (.int i u)) Q E s := by
  subst hi
  exact item_base F hl (by decide) (by decide) rfl h hs
theorem base_at8 {v0 v1 v2 v3 v4 v5 v6 v7 v8 : Value} {l : List Value} {i : Int} (F : Fr h₀ L s.heap m) (hl : h₀.get? a = some (listOf (List.toArray (v0 :: v1 :: v2 :: v3 :: v4 :: v5 :: v6 :: v7 :: v8 :: l)) n)) (hi : i = 8) (h : Q v8 s)
    (hs : subscripted slice false (.ref a) (.int i u) = operate [.ref a, .int i u] (getItem (.ref a) (.int i u)) := by with_unfolding_all rfl) :
    wpAny (model prog w) A (subscriptTail value slice (.ref a) (.int i u)) Q E s := by
  subst hi
  exact item_base F hl (by decide) (by decide) rfl h hs
theorem base_at9 {v0 v1 v2 v3 v4 v5 v6 v7 v8 v9 : Value} {l : List Value} {i : Int} (F : Fr h₀ L s.heap m) (hl : h₀.get? a = some (listOf (List.toArray (v0 :: v1 :: v2 :: v3 :: v4 :: v5 :: v6 :: v7 :: v8 :: v9 :: l)) n)) (hi : i = 9) (h : Q v9 s)
    (hs : subscripted slice false (.ref a) (.int i u) = operate [.ref a, .int i u] (getItem (.ref a) (.int i u)) := by with_unfolding_all rfl) :
    wpAny (model prog w) A (subscriptTail value slice (.ref a) (.int i u)) Q E s := by
  subst hi
  exact item_base F hl (by decide) (by decide) rfl h hs
end
end Mine
end
section
namespace Mine
theorem fresh_Bi7 : True := by
  w_top off
  trivial
end Mine
open PySem PySem.W PyProof.Rows PySem.Spec PySem.Calls
set_option Elab.async false
set_option maxRecDepth 100000
namespace Mine
open PySem.Builtin
/-- texts one behind the other -/
noncomputable def cat (ys : List Str) : Str := ⟨((ys.map fun y => y.cps.toList).flatten).toArray⟩
theorem ofString_nil : (PySem.Str.ofString "").cps = #[] := by decide +kernel
theorem join_cat (ys : List Str) : Txt.join (PySem.Str.ofString "") ys = cat ys := by
  have key : ∀ ys : List Str, Str.join (PySem.Str.ofString "") ys = cat ys := by
    intro ys
    induction ys with
    | nil => rfl
    | cons y r ih =>
      cases r with
      | nil =>
        show y = _
        apply PySem.Str.ext'
        simp [cat]
      | cons z r =>
        show y ++ PySem.Str.ofString "" ++ Str.join (PySem.Str.ofString "") (z :: r) = _
        rw [ih]
        apply PySem.Str.ext'
        rw [PySem.Str.cps_append, PySem.Str.cps_append, ofString_nil]
        apply Array.toList_inj.mp
        simp [cat]
  show Builtin.Str.glued _ ys = _
  rw [StrLaws.glued_eq_join, key]
section
variable {prog : Program} {w : World} {A : Around} {E : Value → Shared → Prop} {s : Shared} {Q : Value → Shared → Prop} {t : Tok} {h₀ : Heap} {L l : Addr} {m : Str → Option Value} {n : Nat} {news : List (Addr × Obj)}
theorem join_K {its : Array Value} {ys : List Str} (N : News h₀ L s.heap news) (hm : (l, listOf its n) ∈ news) (hi : StrsAre its.toList ys) (hz : (ys.map (·.length)).sum ≤ 1000000)
    (h : ∀ t' k, Q (.str (cat ys) t') { s with toks := k }) : wpAny (model prog w) A (call (.builtin "str.join") [.str (PySem.Str.ofString "") t, .ref l]) Q E s :=
  join_list (items := its) ⟨_, (N _ hm).1, rfl, n, rfl⟩ hi (by show _ + _ * 0 ≤ _; omega) fun t' k => by rw [join_cat]; exact h t' k
end
theorem mid_len (y : Str) : (cat [Str.empty ++ PySem.Str.ofString "(?>.*?" ++ y ++ PySem.Str.ofString ")", PySem.Str.ofString ".*"]).length = y.length + 9 := by
  have a2 : (PySem.Str.ofString "(?>.*?").cps = #[40, 63, 62, 46, 42, 63] := by decide +kernel
  have a3 : (PySem.Str.ofString ")").cps = #[41] := by decide +kernel
  have a4 : (PySem.Str.ofString ".*").cps = #[46, 42] := by decide +kernel
  show (cat _).cps.size = y.cps.size + 9
  rw [← Array.length_toList]
  simp [cat, PySem.Str.cps_append, a2, a3, a4, Str.empty]
/-- what translate tells of a text y between two stars -/
noncomputable def told (y : Str) : Str := ⟨#[40, 63, 115, 58, 40, 63, 62, 46, 42, 63] ++ y.cps ++ #[41, 46, 42, 41, 92, 90]⟩
theorem told_eq (y : Str) : Str.empty ++ PySem.Str.ofString "(?s:" ++ cat [Str.empty ++ PySem.Str.ofString "(?>.*?" ++ y ++ PySem.Str.ofString ")", PySem.Str.ofString ".*"] ++ PySem.Str.ofString ")\\Z" = told y := by
  have a1 : (PySem.Str.ofString "(?s:").cps = #[40, 63, 115, 58] := by decide +kernel
  have a2 : (PySem.Str.ofString "(?>.*?").cps = #[40, 63, 62, 46, 42, 63] := by decide +kernel
  have a3 : (PySem.Str.ofString ")").cps = #[41] := by decide +kernel
  have a4 : (PySem.Str.ofString ".*").cps = #[46, 42] := by decide +kernel
  have a5 : (PySem.Str.ofString ")\\Z").cps = #[41, 92, 90] := by decide +kernel
  apply PySem.Str.ext'
  apply Array.toList_inj.mp
  simp [cat, told, PySem.Str.cps_append, a1, a2, a3, a4, a5, Str.empty]
end Mine
end
section
namespace Mine
theorem fresh_Bi8 : True := by
  w_top off
  trivial
end Mine
open PySem PySem.W PyProof.Rows PySem.Spec PySem.Calls
set_option Elab.async false
set_option maxRecDepth 100000
namespace Mine
open PySem.Builtin
theorem and_mask (x : Int) : Builtin.bitAnd x 65535 = x % 65536 := kbt_mask x 16
theorem and_63 (x : Int) : Builtin.bitAnd x 63 = x % 64 := kbt_mask x 6
theorem and_low (a b : Nat) (h : b < 256) : (a * 256) &&& b = 0 := by
  apply Nat.eq_of_testBit_eq
  intro i
  rw [Nat.testBit_and, Nat.zero_testBit, show a * 256 = 2 ^ 8 * a from Nat.mul_comm _ _, Nat.testBit_two_pow_mul]
  by_cases hi : 8 ≤ i
  · have : b.testBit i = false := Nat.testBit_lt_two_pow (Nat.lt_of_lt_of_le h (Nat.pow_le_pow_right (by decide) hi : 2 ^ 8 ≤ 2 ^ i))
    rw [this, Bool.and_false]
  · simp [hi]
theorem or_low {a b : Int} (ha : 0 ≤ a) (h0 : 0 ≤ b) (h1 : b < 256) : Builtin.bitOr (a * 256) b = a * 256 + b := by
  have e3 : Builtin.bitAnd (a * 256) b = 0 := by
    rw [bitAnd_pp (by omega) h0, show (a * 256).toNat = a.toNat * 256 by omega, and_low _ _ (by omega)]; rfl
  rw [bitOr_and, e3]; omega
/-- the sign of a number below 64 -/
noncomputable def sign (k : Int) : Int := ((b64.getD k.toNat 0 : Nat) : Int)
noncomputable abbrev b64L : List UInt8 := [65, 66, 67, 68, 69, 70, 71, 72, 73, 74, 75, 76, 77, 78, 79, 80, 81, 82, 83, 84, 85, 86, 87, 88, 89, 90, 97, 98, 99, 100, 101, 102, 103, 104, 105, 106, 107, 108, 109, 110, 111, 112, 113, 114, 115, 116, 117, 118, 119, 120, 121, 122, 48, 49, 50, 51, 52, 53, 54, 55, 56, 57, 43, 47]
theorem b64L_sign : ∀ n < 64, (b64L.getD n 0).toNat = b64.getD n 0 := by decide +kernel
section
variable {prog : Program} {w : World} {A : Around} {E : Value → Shared → Prop} {s : Shared} {Q : Value → Shared → Prop} {t u : Tok} {a b n : Int} {value slice : Expr}
theorem shl8 (h : Q (.int (a * 256) s.toks) { s with toks := s.toks + 1 }) (h0 : a.natAbs < 2 ^ 64) : wpAny (model prog w) A (binaryOp .LShift (.int a t) (.int 8 u)) Q E s :=
  lshift_int_small (by decide) (by decide) h0 h
theorem or8 (ha : 0 ≤ a) (h0 : 0 ≤ b) (h1 : b < 256) (h : Q (.int (a * 256 + b) s.toks) { s with toks := s.toks + 1 }) : wpAny (model prog w) A (binaryOp .BitOr (.int (a * 256) t) (.int b u)) Q E s :=
  or_int (by rw [or_low ha h0 h1]; exact h)
theorem and16 (h : Q (.int (a % 65536) s.toks) { s with toks := s.toks + 1 }) : wpAny (model prog w) A (binaryOp .BitAnd (.int a t) (.int 65535 u)) Q E s := and_int (by rw [and_mask]; exact h)
theorem and6 (h : Q (.int (a % 64) s.toks) { s with toks := s.toks + 1 }) : wpAny (model prog w) A (binaryOp .BitAnd (.int a t) (.int 63 u)) Q E s := and_int (by rw [and_63]; exact h)
theorem shr0 (hn : n = 0) (h : Q (.int a s.toks) { s with toks := s.toks + 1 }) : wpAny (model prog w) A (binaryOp .RShift (.int a t) (.int n u)) Q E s := by
  subst hn
  exact rshift_int (by decide) (by show Q (.int (a.fdiv 1) _) _; rw [Int.fdiv_one]; exact h)
theorem shr2 (hn : n = 2) (h : Q (.int (a / 4) s.toks) { s with toks := s.toks + 1 }) : wpAny (model prog w) A (binaryOp .RShift (.int a t) (.int n u)) Q E s := by
  subst hn
  exact rshift_int (by decide) (by show Q (.int (a.fdiv 4) _) _; rw [Int.fdiv_eq_ediv_of_nonneg _ (by decide)]; exact h)
theorem shr4 (hn : n = 4) (h : Q (.int (a / 16) s.toks) { s with toks := s.toks + 1 }) : wpAny (model prog w) A (binaryOp .RShift (.int a t) (.int n u)) Q E s := by
  subst hn
  exact rshift_int (by decide) (by show Q (.int (a.fdiv 16) _) _; rw [Int.fdiv_eq_ediv_of_nonneg _ (by decide)]; exact h)
theorem shr6 (hn : n = 6) (h : Q (.int (a / 64) s.toks) { s with toks := s.toks + 1 }) : wpAny (model prog w) A (binaryOp .RShift (.int a t) (.int n u)) Q E s := by
  subst hn
  exact rshift_int (by decide) (by show Q (.int (a.fdiv 64) _) _; rw [Int.fdiv_eq_ediv_of_nonneg _ (by decide)]; exact h)
theorem item_b64 {k : Int} (h0 : 0 ≤ k) (h1 : k < 64) (h : Q (.int (sign k) s.toks) { s with toks := s.toks + 1 })
    (hs : subscripted slice false (.bytes b64L.toArray t) (.int k u) = operate [.bytes b64L.toArray t, .int k u] (getItem (.bytes b64L.toArray t) (.int k u)) := by with_unfolding_all rfl)
    (ht : ∀ r, letTemporaryGo value (.bytes b64L.toArray t) r = pure () := by intro _; with_unfolding_all rfl) :
    wpAny (model prog w) A (subscriptTail value slice (.bytes b64L.toArray t) (.int k u)) Q E s := by
  refine subscriptTail_builtin (typeIs_bytes s _ t) FB.slot_bytes_getitem.lookup (PySem.W.getItem_bytes (by decide) h0 (by show k < 64; exact h1) ?_) hs ht
  rw [b64L_sign _ (by omega)]; exact h
end
theorem sign_lt (k : Int) : 0 ≤ sign k ∧ sign k < 128 := by
  unfold sign
  rw [List.getD_eq_getElem?_getD]
  cases h : b64[k.toNat]? with
  | none => exact ⟨by decide, by decide⟩
  | some c =>
    have := b64_lt (List.mem_of_getElem? h)
    show 0 ≤ (c : Int) ∧ (c : Int) < 128
    omega
theorem sign_mem {k : Int} (h0 : 0 ≤ k) (h1 : k < 64) : ∃ c, c ∈ b64 ∧ sign k = (c : Int) ∧ b64[k.toNat]? = some c := by
  have hl : k.toNat < b64.length := by show k.toNat < 64; omega
  refine ⟨b64[k.toNat], List.getElem_mem hl, ?_, List.getElem?_eq_getElem hl⟩
  unfold sign
  rw [List.getD_eq_getElem?_getD, List.getElem?_eq_getElem hl]; rfl
theorem signs_lt {ks : List Int} : ∀ n ∈ ks.map sign, 0 ≤ n ∧ n < 256 := fun n hn => by
  obtain ⟨k, _, rfl⟩ := List.mem_map.mp hn
  have := sign_lt k
  omega
section
variable {prog : Program} {w : World} {A : Around} {E : Value → Shared → Prop} {s : Shared} {Q : Value → Shared → Prop} {h₀ : Heap} {L l : Addr} {m : Str → Option Value} {news : List (Addr × Obj)} {n : Nat}
theorem call_bytes8 {k0 k1 k2 k3 k4 k5 k6 k7 : Int} {t0 t1 t2 t3 t4 t5 t6 t7 : Tok} (F : Fr h₀ L s.heap m) (N : News h₀ L s.heap news) (hm : (l, listOf #[.int (sign k0) t0, .int (sign k1) t1, .int (sign k2) t2, .int (sign k3) t3, .int (sign k4) t4, .int (sign k5) t5, .int (sign k6) t6, .int (sign k7) t7] n) ∈ news) (hh : A.handled = none)
    (h : ∀ h' t k, Fr h₀ L h' m → News h₀ L h' news → Q (.bytes (byteArr ([k0, k1, k2, k3, k4, k5, k6, k7].map sign)) t) { s with heap := h', toks := k }) : wpAny (model prog w) A (call (.type "bytes") [.ref l]) Q E s :=
  call_bytes_ints (vs := [.int (sign k0) t0, .int (sign k1) t1, .int (sign k2) t2, .int (sign k3) t3, .int (sign k4) t4, .int (sign k5) t5, .int (sign k6) t6, .int (sign k7) t7]) ⟨_, (N _ hm).1, rfl, n, rfl⟩ (.cons _ _ (.cons _ _ (.cons _ _ (.cons _ _ (.cons _ _ (.cons _ _ (.cons _ _ (.cons _ _ (.nil))))))))) (signs_lt (ks := [k0, k1, k2, k3, k4, k5, k6, k7])) (by rw [sizeLine_eq]; exact Nat.le_of_ble_eq_true rfl) hh fun h' t k kk => h h' t k (fr_kept F kk) (news_kept N kk)
end
end Mine
end
section
namespace Mine
theorem fresh_Law1 : True := by
  w_top off
  trivial
end Mine
open PySem PySem.W PyProof.Rows
set_option Elab.async false
set_option maxRecDepth 100000
namespace Mine
/-- the sixes of a number of 48 binary figures, the first first -/
noncomputable def sixes (x : Int) : List Int := [x / 4398046511104 % 64, x / 68719476736 % 64, x / 1073741824 % 64, x / 16777216 % 64, x / 262144 % 64, x / 4096 % 64, x / 64 % 64, x % 64]
/-- its fours -/
noncomputable def fours (x : Int) : List Int := [x / 17592186044416 % 16, x / 1099511627776 % 16, x / 68719476736 % 16, x / 4294967296 % 16, x / 268435456 % 16, x / 16777216 % 16, x / 1048576 % 16, x / 65536 % 16, x / 4096 % 16, x / 256 % 16, x / 16 % 16, x % 16]
/-- its octets -/
noncomputable def octs (x : Int) : List Int := [x / 1099511627776 % 256, x / 4294967296 % 256, x / 16777216 % 256, x / 65536 % 256, x / 256 % 256, x % 256]
theorem octs_back {x : Int} (h0 : 0 ≤ x) (h1 : x < 281474976710656) : x / 1099511627776 % 256 * 1099511627776 + x / 4294967296 % 256 * 4294967296 + x / 16777216 % 256 * 16777216 + x / 65536 % 256 * 65536 + x / 256 % 256 * 256 + x % 256 = x := by omega
end Mine
end
section
namespace Mine
theorem fresh_Dg : True := by
  w_top off
  trivial
end Mine
open PySem PySem.W PyProof.Rows
set_option Elab.async false
set_option maxRecDepth 100000
namespace Mine
noncomputable def rotl {α : Type} : List α → List α
  | [] => []
  | a :: r => r ++ [a]
/-- the figures of a number, the first first -/
noncomputable def digs (b : Int) : Nat → Int → List Int
  | 0, _ => []
  | n + 1, x => (x / b ^ n % b) :: digs b n x
theorem digs_len (b x : Int) : ∀ n, (digs b n x).length = n
  | 0 => rfl
  | n + 1 => congrArg Nat.succ (digs_len b x n)
theorem digs_low {b : Int} (hb : 0 < b) (q r : Int) : ∀ n k, n ≤ k → digs b n (q * b ^ k + r) = digs b n r
  | 0, _, _ => rfl
  | n + 1, k, h => by
    show (_ :: _) = (_ :: _)
    rw [digs_low hb q r n k (Nat.le_of_succ_le h)]
    congr 1
    have e : q * b ^ k + r = r + (q * b ^ (k - (n + 1)) * b) * b ^ n := by
      rw [Int.mul_assoc, Int.mul_assoc, Int.mul_comm b, ← Int.pow_succ, ← Int.pow_add, show k - (n + 1) + (n + 1) = k by omega, Int.add_comm]
    rw [e, Int.add_mul_ediv_right _ _ (Int.ne_of_gt (Int.pow_pos hb)), Int.add_mul_emod_self_right]
theorem digs_shift {b : Int} (hb : 0 < b) {r a : Int} (a0 : 0 ≤ a) (a1 : a < b) : ∀ n, digs b (n + 1) (r * b + a) = digs b n r ++ [a]
  | 0 => by
    show [(r * b + a) / b ^ 0 % b] = [a]
    rw [Int.pow_zero, Int.ediv_one, Int.add_comm, Int.add_mul_emod_self_right, Int.emod_eq_of_lt a0 a1]
  | n + 1 => by
    show ((r * b + a) / b ^ (n + 1) % b) :: digs b (n + 1) (r * b + a) = (r / b ^ n % b) :: (digs b n r ++ [a])
    rw [digs_shift hb a0 a1 n]
    congr 2
    rw [Int.pow_succ, Int.mul_comm (b ^ n), ← Int.ediv_ediv_of_nonneg (Int.le_of_lt hb), Int.add_comm, Int.add_mul_ediv_right _ _ (Int.ne_of_gt hb), Int.ediv_eq_zero_of_lt a0 a1, Int.zero_add]
/-- turned by one figure -/
theorem digs_turn {b : Int} (hb : 0 < b) (n : Nat) {x : Int} (h0 : 0 ≤ x) (h1 : x < b ^ (n + 1)) : digs b (n + 1) ((x % b ^ n) * b + x / b ^ n) = rotl (digs b (n + 1) x) := by
  have hp : 0 < b ^ n := Int.pow_pos hb
  have q0 : 0 ≤ x / b ^ n := Int.ediv_nonneg h0 (Int.le_of_lt hp)
  have q1 : x / b ^ n < b := Int.ediv_lt_of_lt_mul hp (by rw [Int.mul_comm, ← Int.pow_succ]; exact h1)
  rw [digs_shift hb q0 q1]
  show _ = digs b n x ++ [x / b ^ n % b]
  rw [Int.emod_eq_of_lt q0 q1]
  congr 1
  have e : x = x / b ^ n * b ^ n + x % b ^ n := by rw [Int.mul_comm]; exact (Int.mul_ediv_add_emod x (b ^ n)).symm
  have e2 := digs_low hb (x / b ^ n) (x % b ^ n) n n (Nat.le_refl n)
  rw [← e] at e2
  exact e2.symm
theorem digs_inj {b : Int} (hb : 0 < b) : ∀ (n : Nat) {x y : Int}, 0 ≤ x → x < b ^ n → 0 ≤ y → y < b ^ n → digs b n x = digs b n y → x = y
  | 0, x, y, x0, x1, y0, y1, _ => by
    rw [Int.pow_zero] at x1 y1
    omega
  | n + 1, x, y, x0, x1, y0, y1, h => by
    have hp : 0 < b ^ n := Int.pow_pos hb
    have lt : ∀ z, 0 ≤ z → z < b ^ (n + 1) → z / b ^ n % b = z / b ^ n := fun z z0 z1 =>
      Int.emod_eq_of_lt (Int.ediv_nonneg z0 (Int.le_of_lt hp)) (Int.ediv_lt_of_lt_mul hp (by rw [Int.mul_comm, ← Int.pow_succ]; exact z1))
    have lo : ∀ z : Int, digs b n z = digs b n (z % b ^ n) := fun z => by
      have e : z = z / b ^ n * b ^ n + z % b ^ n := by rw [Int.mul_comm]; exact (Int.mul_ediv_add_emod z (b ^ n)).symm
      have e2 := digs_low hb (z / b ^ n) (z % b ^ n) n n (Nat.le_refl n)
      rw [← e] at e2
      exact e2
    injection h with h1 h2
    rw [lt x x0 x1, lt y y0 y1] at h1
    rw [lo x, lo y] at h2
    have h3 := digs_inj hb n (Int.emod_nonneg x (Int.ne_of_gt hp)) (Int.emod_lt_of_pos x hp) (Int.emod_nonneg y (Int.ne_of_gt hp)) (Int.emod_lt_of_pos y hp) h2
    rw [← Int.mul_ediv_add_emod x (b ^ n), ← Int.mul_ediv_add_emod y (b ^ n), h1, h3]
theorem sixes_digs (x : Int) : sixes x = digs 64 8 x := by
  show [_, _, _, _, _, _, _, _] = [_, _, _, _, _, _, _, x / 1 % 64]
  rw [Int.ediv_one]
  rfl
theorem fours_digs (x : Int) : fours x = digs 16 12 x := by
  show [_, _, _, _, _, _, _, _, _, _, _, _] = [_, _, _, _, _, _, _, _, _, _, _, x / 1 % 16]
  rw [Int.ediv_one]
  rfl
theorem u8_int (v : UInt8) : 0 ≤ (v.toNat : Int) ∧ (v.toNat : Int) < 256 := by have := v.toNat_lt; omega
theorem digs_app {b : Int} (hb : 0 < b) (q : Int) {r : Int} (k : Nat) (r0 : 0 ≤ r) (r1 : r < b ^ k) : ∀ n, digs b (n + k) (q * b ^ k + r) = digs b n q ++ digs b k r
  | 0 => by
    rw [Nat.zero_add, digs_low hb q r k k (Nat.le_refl k)]
    rfl
  | n + 1 => by
    have e : digs b (n + 1 + k) (q * b ^ k + r) = ((q * b ^ k + r) / b ^ (n + k) % b) :: digs b (n + k) (q * b ^ k + r) := by
      rw [show n + 1 + k = (n + k) + 1 by omega]
      rfl
    rw [e, digs_app hb q k r0 r1 n]
    show _ :: _ = (q / b ^ n % b) :: (digs b n q ++ digs b k r)
    congr 2
    have hp : 0 < b ^ k := Int.pow_pos hb
    rw [Nat.add_comm n k, Int.pow_add, ← Int.ediv_ediv_of_nonneg (Int.le_of_lt hp), Int.add_comm, Int.add_mul_ediv_right _ _ (Int.ne_of_gt hp), Int.ediv_eq_zero_of_lt r0 r1, Int.zero_add]
theorem six4 (x : Int) : digs 64 4 x = [x / 262144 % 64, x / 4096 % 64, x / 64 % 64, x % 64] := by
  show [_, _, _, x / 1 % 64] = _
  rw [Int.ediv_one]
  rfl
theorem four2 (x : Int) : digs 16 2 x = [x / 16 % 16, x % 16] := by
  show [_, x / 1 % 16] = _
  rw [Int.ediv_one]
  rfl
theorem e1 {a z : Int} (z0 : 0 ≤ z) (z1 : z < 65536) : (a * 65536 + z) / 262144 % 64 = a / 4 % 64 := by
  rw [show (262144 : Int) = 65536 * 4 from rfl, ← Int.ediv_ediv_of_nonneg (by decide), Int.add_comm, Int.add_mul_ediv_right _ _ (by decide), Int.ediv_eq_zero_of_lt z0 z1, Int.zero_add]
theorem e2 {y c : Int} (c0 : 0 ≤ c) (c1 : c < 256) : (y * 256 + c) / 4096 = y / 16 := by
  rw [show (4096 : Int) = 256 * 16 from rfl, ← Int.ediv_ediv_of_nonneg (by decide), Int.add_comm, Int.add_mul_ediv_right _ _ (by decide), Int.ediv_eq_zero_of_lt c0 c1, Int.zero_add]
theorem e3 (a z : Int) : (a * 65536 + z) / 64 % 64 = z / 64 % 64 := by
  rw [show (65536 : Int) = 1024 * 64 from rfl, ← Int.mul_assoc, Int.add_comm, Int.add_mul_ediv_right _ _ (by decide), show (1024 : Int) = 16 * 64 from rfl, ← Int.mul_assoc, Int.add_mul_emod_self_right]
theorem e4 (a z : Int) : (a * 65536 + z) % 64 = z % 64 := by
  rw [show (65536 : Int) = 1024 * 64 from rfl, ← Int.mul_assoc, Int.add_comm, Int.add_mul_emod_self_right]
theorem e5 (c d : Int) : (c * 256 + d) / 4 % 64 = d / 4 % 64 := by
  rw [show (256 : Int) = 64 * 4 from rfl, ← Int.mul_assoc, Int.add_comm, Int.add_mul_ediv_right _ _ (by decide), Int.add_mul_emod_self_right]
theorem e6 {a b : Int} (a0 : 0 ≤ a) (a1 : a < 256) (b0 : 0 ≤ b) (b1 : b < 256) : (a * 256 + b) % 65536 = a * 256 + b := Int.emod_eq_of_lt (by omega) (by omega)
theorem e7 {a b c : Int} (b0 : 0 ≤ b) (b1 : b < 256) (c0 : 0 ≤ c) (c1 : c < 256) : ((a * 256 + b) * 256 + c) % 65536 = b * 256 + c := by
  rw [Int.add_mul, Int.mul_assoc, Int.add_assoc, show (256 : Int) * 256 = 65536 from rfl, Int.add_comm, Int.add_mul_emod_self_right, e6 b0 b1 c0 c1]
theorem e8 {y z : Int} : y * 65536 + z * 256 = (y * 256 + z) * 256 := by omega
theorem b64_sixes {a b c d e f : Int} (ha : 0 ≤ a ∧ a < 256) (hb : 0 ≤ b ∧ b < 256) (hc : 0 ≤ c ∧ c < 256) (hd : 0 ≤ d ∧ d < 256) (he : 0 ≤ e ∧ e < 256) (hf : 0 ≤ f ∧ f < 256) :
    [(0 * 256 + a) % 65536 / 4 % 64, ((0 * 256 + a) % 65536 * 256 + b) % 65536 / 16 % 64, (((0 * 256 + a) % 65536 * 256 + b) % 65536 * 256 + c) % 65536 / 64 % 64, (((0 * 256 + a) % 65536 * 256 + b) % 65536 * 256 + c) % 65536 % 64,
      ((((0 * 256 + a) % 65536 * 256 + b) % 65536 * 256 + c) % 65536 * 256 + d) % 65536 / 4 % 64, (((((0 * 256 + a) % 65536 * 256 + b) % 65536 * 256 + c) % 65536 * 256 + d) % 65536 * 256 + e) % 65536 / 16 % 64,
      ((((((0 * 256 + a) % 65536 * 256 + b) % 65536 * 256 + c) % 65536 * 256 + d) % 65536 * 256 + e) % 65536 * 256 + f) % 65536 / 64 % 64, ((((((0 * 256 + a) % 65536 * 256 + b) % 65536 * 256 + c) % 65536 * 256 + d) % 65536 * 256 + e) % 65536 * 256 + f) % 65536 % 64]
      = sixes (a * 1099511627776 + b * 4294967296 + c * 16777216 + d * 65536 + e * 256 + f) := by
  have h1 : (0 * 256 + a) % 65536 = a := by
    rw [Int.zero_mul, Int.zero_add]
    exact Int.emod_eq_of_lt ha.1 (Int.lt_trans ha.2 (by decide))
  rw [h1, e6 ha.1 ha.2 hb.1 hb.2, e7 hb.1 hb.2 hc.1 hc.2, e7 hc.1 hc.2 hd.1 hd.2, e7 hd.1 hd.2 he.1 he.2, e7 he.1 he.2 hf.1 hf.2]
  have g : a * 1099511627776 + b * 4294967296 + c * 16777216 + d * 65536 + e * 256 + f = (a * 65536 + b * 256 + c) * 64 ^ 4 + (d * 65536 + e * 256 + f) := by
    rw [show (64 : Int) ^ 4 = 16777216 from rfl]
    clear h1 ha hb hc hd he hf
    omega
  have r0 : 0 ≤ d * 65536 + e * 256 + f ∧ d * 65536 + e * 256 + f < 64 ^ 4 := by
    rw [show (64 : Int) ^ 4 = 16777216 from rfl]
    clear h1 g ha hb hc
    omega
  have z1 : 0 ≤ b * 256 + c ∧ b * 256 + c < 65536 := by
    clear h1 g r0 ha hd he hf
    omega
  have z2 : 0 ≤ e * 256 + f ∧ e * 256 + f < 65536 := by
    clear h1 g r0 z1 ha hb hc hd
    omega
  rw [g, sixes_digs, digs_app (by decide) _ 4 r0.1 r0.2 4, six4, six4, Int.add_assoc (a * 65536), Int.add_assoc (d * 65536), e1 z1.1 z1.2, e1 z2.1 z2.2, e3, e3, e4, e4, ← Int.add_assoc (a * 65536), ← Int.add_assoc (d * 65536), e8, e8, e2 hc.1 hc.2, e2 hf.1 hf.2, e5]
  rfl
theorem octet {r v : Int} (v0 : 0 ≤ v) (v1 : v < 256) (n : Nat) : digs 16 (n + 2) (r * 256 + v) = digs 16 n r ++ [v / 16, v % 16] := by
  have h := digs_app (b := 16) (by decide) r 2 v0 (by rw [show (16 : Int) ^ 2 = 256 from rfl]; exact v1) n
  rw [show (16 : Int) ^ 2 = 256 from rfl, four2] at h
  rw [h]
  congr 2
  omega
theorem fours_octs {a b c d e f : Int} (ha : 0 ≤ a ∧ a < 256) (hb : 0 ≤ b ∧ b < 256) (hc : 0 ≤ c ∧ c < 256) (hd : 0 ≤ d ∧ d < 256) (he : 0 ≤ e ∧ e < 256) (hf : 0 ≤ f ∧ f < 256) :
    fours (a * 1099511627776 + b * 4294967296 + c * 16777216 + d * 65536 + e * 256 + f) = [a / 16, a % 16, b / 16, b % 16, c / 16, c % 16, d / 16, d % 16, e / 16, e % 16, f / 16, f % 16] := by
  have g : a * 1099511627776 + b * 4294967296 + c * 16777216 + d * 65536 + e * 256 + f = (((((0 * 256 + a) * 256 + b) * 256 + c) * 256 + d) * 256 + e) * 256 + f := by omega
  rw [g, fours_digs, octet hf.1 hf.2 10, octet he.1 he.2 8, octet hd.1 hd.2 6, octet hc.1 hc.2 4, octet hb.1 hb.2 2, octet ha.1 ha.2 0]
  rfl
end Mine
end
section
namespace Mine
theorem fresh_Bi9 : True := by
  w_top off
  trivial
end Mine
open PySem PySem.W PyProof.Rows PySem.Spec PySem.Calls
set_option Elab.async false
set_option maxRecDepth 100000
namespace Mine
section
variable {prog : Program} {w : World} {A : Around} {E : Value → Shared → Prop} {s : Shared} {h₀ : Heap} {L : Addr} {m : Str → Option Value} {env : Env}
noncomputable abbrev BytesAt (l : List Int) (i : Nat) (v : Value) : Prop := ∃ k u, l[i]? = some k ∧ v = .int k u
/-- a comprehension's source that is bytes -/
noncomputable def SrcB (prog : Program) (w : World) (A : Around) (h₀ : Heap) (L : Addr) (m : Str → Option Value) (env : Env) (elt : Expr) (x : Str) (scope : Scope) (cl : List (Str × Addr)) (Fin : Shared → List Value → List (Addr × Obj) → Prop) (xv : Value) (s₁ : Shared) : Prop :=
  ∃ b t l news, xv = .bytes b t ∧ A.handled = none ∧ Fr h₀ L s₁.heap m ∧ News h₀ L s₁.heap news ∧ KBw.bInts b = l ∧ l.length ≤ 1000 ∧
    ∀ s₂ : Shared, (∃ h, s₂ = { s₁ with heap := h }) → LCg.CompRest prog w A h₀ L m env elt x scope cl s₂ (fun _ => True) (BytesAt l) (Fin s₂) l.length 0 [] news
theorem SrcB.intro {elt : Expr} {x : Str} {scope : Scope} {cl : List (Str × Addr)} {Fin : Shared → List Value → List (Addr × Obj) → Prop} {b : Array UInt8} {t : Tok} {l : List Int} {news : List (Addr × Obj)} {s₁ : Shared}
    (hh : A.handled = none) (F : Fr h₀ L s₁.heap m) (N : News h₀ L s₁.heap news) (hb : KBw.bInts b = l) (hl : l.length ≤ 1000)
    (h : ∀ g, LCg.CompRest prog w A h₀ L m env elt x scope cl { s₁ with heap := g } (fun _ => True) (BytesAt l) (Fin { s₁ with heap := g }) l.length 0 [] news) :
    SrcB prog w A h₀ L m env elt x scope cl Fin (.bytes b t) s₁ := ⟨b, t, l, news, rfl, hh, F, N, hb, hl, fun _ ⟨g, e⟩ => e ▸ h g⟩
theorem bytes_walks {I : Addr} {b : Array UInt8} {t : Tok} (hh : A.handled = none) : Walks prog w A I [I] [I] b.size (BytesAt (KBw.bInts b)) (fun i h => KBw.IsBytesIter h I b t i) :=
  let W := KBw.walks (prog := prog) (w := w) hh I b t
  { sub := W.sub, frame := W.frame, done := W.done, self := W.self,
    item := fun i s Q E hi st hQ => W.item i s Q E hi st fun v h' tk hP => hQ v h' tk (by obtain ⟨c, u, hc, rfl⟩ := hP; exact ⟨_, u, KBw.ints_get hc, rfl⟩) }
theorem bytes_st {I : Addr} {b : Array UInt8} {t : Tok} : ∀ i (h h' : Heap) (o : Obj) (nw : List (Addr × Obj)), KBw.IsBytesIter h I b t i → h.get? I = some o → h'.get? I = some o → (∀ b o, h₀.get? b = some o → h'.get? b = some o) → News h₀ L h' nw → True → KBw.IsBytesIter h' I b t i :=
  fun i h h' o nw st e e' _ _ _ => by
    obtain ⟨o', q, r⟩ := st
    rw [e] at q; cases q
    exact ⟨o, e', r⟩
theorem ListComp_B {elt iter : Expr} {x : Str} {px : Pos} {scope : Scope} {cl : List (Str × Addr)} {pos : Pos} {Q : Value → Shared → Prop} (F₀ : Fr h₀ L s.heap m)
    (hclos : closureFor scope env = pure cl) (hcell : ∀ y ∈ scope.names, y.2 ≠ .cell) (hkind : scope.kind = .function)
    (hnames : ∀ y ∈ scope.names, y.2 = .local → scope.names.lookup y.1 = some .local) (hx : scope.names.lookup x = some .local)
    (h : wpAny (model prog w) A (eval iter env) (SrcB prog w A h₀ L m env elt x scope cl (fun s₂ => LCg.FinE h₀ L m s₂ Q)) E s)
    (hs : ∀ x, foldedSetIterable iter env x = pure x := by intro _; rfl) :
    wpAny (model prog w) A (eval (.ListComp elt [⟨.Name x px, iter, [], 0⟩] scope pos) env) Q E s := by
  rw [eval_ListComp]
  refine wpAny_comprehension_free (use := none) rfl hs hclos hkind hnames (wpAny_mono h (fun xv s₁ h₁ => ?_) fun _ _ e => e)
  obtain ⟨b, t, l, news, rfl, hh, F, N, rfl, hsz, R⟩ := h₁
  have hbl : (KBw.bInts b).length = b.size := KBw.ints_length b
  have R' := R { s₁ with heap := s₁.heap.push { cls := .type "bytes_iterator", data := .fields #[.bytes b t, .int 0 0] } } ⟨_, rfl⟩
  rw [hbl] at R' hsz
  refine KBw.pyIter_bytes ?_
  refine LCg.block_U (bytes_walks hh) (by rw [sizeLine_eq]; omega) (fun i h st => by obtain ⟨o, e, _⟩ := st; exact ⟨o, e⟩) bytes_st hcell hkind hx ⟨_, Heap.get?_push_size _ rfl, rfl, rfl⟩ (fun b' hb => ?_)
    (F.keeps fun _ _ e => Heap.get?_push_of_some _ e) (N.grown fun _ _ e => Heap.get?_push_of_some _ e) (Nat.ne_of_lt F.ns.lt) (next_is_new F) (fun p hp => Nat.ne_of_lt (Heap.lt_size (N p hp).1)) trivial R' ?_
  · rw [List.mem_singleton.mp hb]
    show s₁.heap.objs.size < (s₁.heap.push _).objs.size
    rw [Heap.size_push]; exact Nat.lt_succ_self _
  · intro D C h tk m' ys news' F' N' o1 hn hC₀ hD₀ hCL hDL hCD offC fin
    refine ⟨m', hn, fun h'' hs'' => fin D h'' tk (F'.change hs'' hCL hC₀) (fun p hp => ?_) o1⟩
    refine ⟨hs''.extBut _ _ ?_ (N' p hp).1, (N' p hp).2⟩
    rcases List.mem_cons.mp hp with rfl | hp
    · exact Ne.symm hCD
    · exact offC p hp
end
end Mine
end
section
namespace Mine
theorem fresh_Ex1 : True := by
  w_top off
  trivial
end Mine
open PySem PySem.W PyProof.Rows PySem.Spec PySem.Calls
set_option Elab.async false
set_option maxRecDepth 100000
namespace Mine
/-- what stands after an exception was noted in the frame that raised it -/
structure Noted (frs : List Addr) (e : Addr) (c : Value) (t0 : Value) (h h' : Heap) : Prop where
  other : ∀ b o, b ∉ frs → b ≠ e → h.get? b = some o → h'.get? b = some o
  up : ∀ b o, b ≠ e → h.get? b = some o → ∃ sl, h'.get? b = some { o with slots := sl }
  tb : ∃ T oe oT ts, h.get? T = none ∧ T ≠ e ∧ h'.get? e = some oe ∧ oe.cls = c ∧ oe.data = .fields #[t0, .ref T, .none, .none, .bool false, .none] ∧ h'.get? T = some oT ∧ oT.data = .fields ts ∧ 3 < ts.size
theorem Noted.grow {frs : List Addr} {e : Addr} {c t0 : Value} {h h' h'' : Heap} (x : Noted frs e c t0 h h') (k : ∀ q o, h'.get? q = some o → h''.get? q = some o) : Noted frs e c t0 h h'' where
  other := fun b o m n z => k _ _ (x.other b o m n z)
  up := fun b o n z => let ⟨sl, y⟩ := x.up b o n z; ⟨sl, k _ _ y⟩
  tb := let ⟨T, oe, oT, ts, a, b, c, d, e, f, g⟩ := x.tb; ⟨T, oe, oT, ts, a, b, k _ _ c, d, e, k _ _ f, g⟩
section
variable {M : Model} {A : Around} {E : Value → Shared → Prop} {s : Shared}
theorem noted_first {base : Heap} {env : Env} {outer : List Env} {L e : Addr} {oe : Obj} {t0 : Value} {Q : Unit → Shared → Prop}
    (hfr : A.frames = some (env :: outer)) (hl : s.heap.FunFrames base (env :: outer)) (hf : env.frame = some L)
    (he : s.heap.get? e = some oe) (hd : oe.data = .fields #[t0, .none, .none, .none, .bool false, .none])
    (k : ∀ h', Noted ((env :: outer).filterMap (·.frame)) e oe.cls t0 s.heap h' → Q () { s with heap := h' }) : wpAny M A (noteFrame (.ref e) env) Q E s := by
  have hene : e ∉ (env :: outer).filterMap (·.frame) := fun hm => by
    obtain ⟨_, o, ho, hnf⟩ := hl.mem hm
    rw [he] at ho; injection ho with ho; subst ho; exact hnf _ hd
  unfold noteFrame
  simp only [hf]
  refine wpAny_bind (wpAny_field he hd (x := .none) rfl ?_)
  rw [if_neg (show ¬((Value.none != Value.none) = true) from by decide)]
  refine wpAny_bind (wpAny_frameOf_fun hfr hl hf fun h₁ hs₁ => ?_)
  refine wpAny_bind (wpAny_entryPlaceOf fun pl hpl => ?_)
  unfold EntryCells.newEntry newFields
  refine wpAny_bind (wpAny_newObj_type ?_ (hpl.sizeOk5 _ _ _ _ _))
  have he₁ : h₁.get? e = some oe := (hs₁.2.1 e hene).trans he
  refine wpAny_setField (Heap.get?_push_of_some _ he₁) hd (show 1 < 6 from by decide) (k _ ?_)
  have hT : h₁.objs.size ≠ e := Nat.ne_of_gt (Heap.lt_size he₁)
  have e1 := Heap.get?_update_self (Obj.mapFields (·.setIfInBounds 1 (Value.ref h₁.objs.size))) (Heap.get?_push_of_some { cls := .type "traceback", dict := none, data := .fields ([Value.none, .ref L, .none, rawInt L, .none] ++ (if pl.isEmpty then List.replicate 6 Value.none else pl)).toArray } he₁) (Obj.isFreed_of_fields (Obj.data_mapFields hd _))
  have e2 := (Heap.get?_update_other (h₁.push { cls := .type "traceback", dict := none, data := .fields ([Value.none, .ref L, .none, rawInt L, .none] ++ (if pl.isEmpty then List.replicate 6 Value.none else pl)).toArray })
    (Obj.mapFields (·.setIfInBounds 1 (Value.ref h₁.objs.size))) (Ne.symm hT)).trans (Heap.get?_push_size h₁ rfl)
  refine ⟨fun b o m n z => ?_, fun b o n z => ?_, h₁.objs.size, _, _, _, ?_, hT, e1, Obj.cls_mapFields _ _, Obj.data_mapFields hd _, e2, rfl, ?_⟩
  · rw [Heap.get?_update_other _ _ (Ne.symm n)]
    exact Heap.get?_push_of_some _ ((hs₁.2.1 b m).trans z)
  · obtain ⟨sl, z1⟩ := hs₁.2.2 b o z
    refine ⟨sl, ?_⟩
    rw [Heap.get?_update_other _ _ (Ne.symm n)]
    exact Heap.get?_push_of_some _ z1
  · rw [hs₁.1]; exact Heap.get?_none_of_le (Nat.le_refl _)
  · simp only [List.size_toArray, List.length_append, List.length_cons, List.length_nil]; omega
theorem noted_lands {frs : List Addr} {e : Addr} {c t0 : Value} {h : Heap} {Q : Unit → Shared → Prop} (x : Noted frs e c t0 h s.heap)
    (k : ∀ h', Noted frs e c t0 h h' → Q () { s with heap := h' }) : wpAny M A (setFlight (.ref e) none) Q E s := by
  obtain ⟨T, oe, oT, ts, a1, a2, a3, a4, a5, a6, a7, a8⟩ := x.tb
  unfold setFlight
  refine wpAny_bind (wpAny_field a3 a5 (x := .ref T) rfl ?_)
  rw [if_pos (show (Value.ref T != Value.none) = true from by simp)]
  refine wpAny_setField a6 a7 a8 (k _ ?_)
  have hn : ∀ b o, h.get? b = some o → T ≠ b := fun b o z q => by rw [← q, a1] at z; cases z
  refine ⟨fun b o m n z => ?_, fun b o n z => ?_, T, oe, _, _, a1, a2, ?_, a4, a5, Heap.get?_update_self _ a6 (Obj.isFreed_of_fields (Obj.data_mapFields a7 _)), Obj.data_mapFields a7 _, by simpa using a8⟩
  · rw [Heap.get?_update_other _ _ (hn b o z)]; exact x.other b o m n z
  · obtain ⟨sl, y⟩ := x.up b o n z
    exact ⟨sl, by rw [Heap.get?_update_other _ _ (hn b o z)]; exact y⟩
  · rw [Heap.get?_update_other _ _ a2]; exact a3
end
section
variable {prog : Program} {w : World} {A₀ : Around} {E : Value → Shared → Prop} {s' : Shared} {base g h : Heap} {outer : List Env} {L a e : Addr} {m : Str → Option Value} {name : Str} {scope : Scope} {cd : Value}
  {b₀ : Stmt} {suite : List Stmt} {pos : Pos} {rest : List ExceptHandler} {Q : Flow → Shared → Prop} {news : List (Addr × Obj)} {KF : Frag} {tt : Expr}
  {p : Program} {loose : List Str} {mean : ExcName → Option Value} {mg mb : Str → Option Value} {X : String}
/-- an exception of a built-in, raised and caught in one frame: its object is known in the suite -/
theorem caught_here (K : Below A₀ base outer g) (F : Fr g L h m) (N : News g L h news) (hx : Heap.NewExc h s'.heap e X) (XB : KF.In base) (TB : Top p loose mean mg mb base) (D : KtsDicts (outer.filterMap (·.frame)) g)
    (T : KtsTest prog w KF p loose mg mb name scope L a cd (.type X) tt true)
    (k : ∀ h' g' ob t0 tb, KtsTurn (outer.filterMap (·.frame)) g g' → Fr g' L h' m → ob.data = .fields #[t0, tb, .none, .none, .bool false, .none] → News g' L h' ((e, ob) :: news) → Below A₀ base outer g' → KF.In g' → Top p loose mean mg mb g' → KtsDicts (outer.filterMap (·.frame)) g' → (∀ p ∈ news, p.1 ≠ e) →
      wpAny (model prog w) ((A₀.deeper (envOf name scope L a cd)).mark (some (.ref e))) (execs (b₀ :: suite) (envOf name scope L a cd)) Q E { s' with heap := h' })
    (hk : scope.kind = .function := by rfl)
    (hE : PassesOwnAt (model prog w) ((A₀.deeper (envOf name scope L a cd)).mark (some (.ref e))) (A₀.deeper (envOf name scope L a cd)) (envOf name scope L a cd) E := by passes_own) :
    wpAny (model prog w) (A₀.deeper (envOf name scope L a cd)) (noteFrame (.ref e) (envOf name scope L a cd))
      (fun _ s₂ => wpAny (model prog w) (A₀.deeper (envOf name scope L a cd)) (setFlight (.ref e) none) (fun _ s₃ =>
        wpAny (model prog w) (A₀.deeper (envOf name scope L a cd)) (handleBy (.ref e) (envOf name scope L a cd) (.ExceptHandler (some tt) none (b₀ :: suite) pos :: rest)) Q E s₃) E s₂) E s' := by
  obtain ⟨ob0, t0, he, hcls, hd⟩ := hx.there
  have K' := K.push (name := name) (a := a) (cd := cd) F hk
  have ground : ∀ h', Noted ((envOf name scope L a cd :: outer).filterMap (·.frame)) e ob0.cls t0 s'.heap h' → ∃ g', KtsTurn (outer.filterMap (·.frame)) g g' ∧ Fr g' L h' m ∧ Below A₀ base outer g' := fun h' x =>
    kts_ground (B := hideAll h ((envOf name scope L a cd :: outer).filterMap (·.frame))) K F (fun b o q nm => hideAll_get _ q nm)
      (fun b o q => x.other b o (fun hm => by rw [hideAll_none _ hm] at q; cases q) (fun z => by have := of_hideAll _ q; rw [z, hx.new] at this; cases this) (hx.keeps _ _ (of_hideAll _ q)))
      (fun b o q _ => x.up b o (fun z => by rw [z, hx.new] at q; cases q) (hx.keeps _ _ q))
  refine noted_first (base := base) (outer := outer) (L := L) (Around.frames_deeper K.stack) (K'.frames.of_keeps fun b o hb _ => ⟨o, hx.keeps b o hb, rfl⟩) rfl he hd fun h₁ x₁ => ?_
  refine noted_lands (s := { s' with heap := h₁ }) x₁ fun h₂ x₂ => ?_
  obtain ⟨g₂, T₂, F₂, K₂⟩ := ground h₂ x₂
  have ty : Looks (model prog w) h₂ (typeOf (.ref e)) (.type X) := by
    obtain ⟨_, oe, _, _, _, _, c1, c2, _⟩ := x₂.tb
    rw [hcls] at c2
    rw [← c2]
    exact (Looks.ld c1).andThen .now
  refine wpAny_handleBy_cons (codeAny_handlers_test (T _ _ _ _ g₂ e m F₂ (XB.keeps K₂.stays) (topRead_of (TB.keeps K₂.stays)) ty fun h₃ kp => ?_)) (by intro q; cases q)
  have x₃ := x₂.grow kp
  refine codeAny_handlers_suite ?_
  refine noted_lands (s := { s' with heap := h₃ }) x₃ fun h₄ x₄ => ?_
  obtain ⟨g₄, T₄, F₄, K₄⟩ := ground h₄ x₄
  obtain ⟨tb, oe, oT, ts, c0, c1, c2, c3, c4, _⟩ := x₄.tb
  have ge : g.get? e = none := kts_none F.keep hx.new
  have hne : ∀ q ∈ news, q.1 ≠ e := fun q hq z => by have := (N q hq).1; rw [z, hx.new] at this; cases this
  refine wpAny_passesOwnAt hE (k h₄ g₄ oe t0 (.ref tb) T₄ F₄ c4 (fun q hq => ?_) K₄ (XB.keeps K₄.stays) (TB.keeps K₄.stays) (D.turn T₄) hne)
  rcases List.mem_cons.mp hq with rfl | hq
  · refine ⟨c2, fun z => ?_, T₄.none_ _ ge⟩
    obtain ⟨oL, es, ep, hL, hLd, _⟩ := F₄.ns
    rw [← z] at hL
    dsimp only at hL
    rw [c2] at hL
    cases hL
    rw [c4] at hLd; cases hLd
  · obtain ⟨q1, q2, q3⟩ := N q hq
    refine ⟨x₄.other _ _ (fun hm => ?_) (hne q hq) (hx.keeps _ _ q1), q2, T₄.none_ _ q3⟩
    rcases kts_mem hm with z | z
    · exact q2 z
    · obtain ⟨_, o', ho', _⟩ := K.frames.mem z
      rw [q3] at ho'; cases ho'
/-- an exception's object leaves the frame that raised it -/
theorem leave_obj {cls a0 : Value} {ob : Obj} {vs : Array Value} (K : Below A₀ base outer g) (F : Fr g L s'.heap m) (N : News g L s'.heap ((e, ob) :: news)) (hn : ∀ p ∈ news, p.1 ≠ e)
    (hcls : ob.cls = cls) (hd : ob.data = .fields vs) (h1 : vs[1]? = some .none) (h0 : vs[0]? = some a0) {M : Model} {Q : Unit → Shared → Prop}
    (hQ : ∀ h', RaisedSN base g outer e cls news h' → RaisedN base outer e cls news h' → g.UpToSlots h' → Q () { s' with heap := h' }) (hk : scope.kind = .function := by rfl) :
    wpAny M (A₀.deeper (envOf name scope L a cd)) (leaving (envOf name scope L a cd) (.ref e)) Q E s' := by
  obtain ⟨he, heL, heg⟩ := N _ (.head _)
  dsimp only at he heL heg
  have K' := K.push (name := name) (a := a) (cd := cd) F hk
  have nf : e ∉ outer.filterMap (·.frame) := fun hm => by
    obtain ⟨_, o', ho', _⟩ := K.frames.mem hm
    rw [heg] at ho'; cases ho'
  have hin : ∀ env ∈ (envOf name scope L a cd :: outer), ∀ b, env.frame = some b → b ∈ e :: (envOf name scope L a cd :: outer).filterMap (·.frame) := fun env he b hb => List.mem_cons_of_mem _ (List.mem_filterMap.mpr ⟨env, he, hb⟩)
  have hbe : base.get? e = none := fresh_of_stays K.stays heg
  have st : base.StaysIn (hideAll s'.heap (e :: (envOf name scope L a cd :: outer).filterMap (·.frame))) := fun b o q => hideAll_get _ (K'.stays b o q) fun hm => by
    rcases List.mem_cons.mp hm with z | hm
    · rw [z, hbe] at q; cases q
    · rw [(K'.frames.mem hm).1] at q; cases q
  have sg : ∀ b o, g.get? b = some o → b ∉ outer.filterMap (·.frame) → (hideAll s'.heap (e :: (envOf name scope L a cd :: outer).filterMap (·.frame))).get? b = some o := fun b o q nm => hideAll_get _ (F.keep b o q) fun hm => by
    rcases List.mem_cons.mp hm with z | hm
    · rw [z, heg] at q; cases q
    · rcases kts_mem hm with z | z
      · rw [z, kts_self F] at q
        cases q
      · exact nm z
  have hl : ∀ q ∈ news, (hideAll s'.heap (e :: (envOf name scope L a cd :: outer).filterMap (·.frame))).get? q.1 = some q.2 ∧ g.get? q.1 = none ∧ base.get? q.1 = none := fun q hq => by
    obtain ⟨q1, q2, q3⟩ := N q (.tail _ hq)
    refine ⟨hideAll_get _ q1 fun hm => ?_, q3, fresh_of_stays K.stays q3⟩
    rcases List.mem_cons.mp hm with z | hm
    · exact hn q hq z
    · rcases kts_mem hm with z | z
      · exact q2 z
      · obtain ⟨_, o', ho', _⟩ := K.frames.mem z
        rw [q3] at ho'; cases ho'
  refine wpAny_leaving_firstW (base := hideAll s'.heap (e :: (envOf name scope L a cd :: outer).filterMap (·.frame))) (a0 := a0) (outer := outer) (L := L) (Around.frames_deeper K.stack) (funFrames_hide K'.frames hin) rfl he (fun b o hb => of_hideAll _ hb) (hideAll_none _ (.head _)) hd h1 h0 fun h' hL => ?_
  obtain ⟨k1, ⟨_, _, k2⟩, k3, k4⟩ := hL
  have R : RaisedSN base g outer e cls news h' := ⟨_, a0, st, sg, hl, k1, hideAll_none _ (.head _), k2, by rw [← hcls]; exact k3⟩
  exact hQ h' R R.toN ((Heap.UpToSlots.of_keeps F.keep).trans k4)
end
end Mine
end
section
namespace Mine
theorem fresh_Ex2 : True := by
  w_top off
  trivial
end Mine
open PySem PySem.W PyProof.Rows PySem.Spec PySem.Calls
set_option Elab.async false
set_option maxRecDepth 100000
namespace Mine
theorem entry_unchain : entryFor table "proto.unchain" = some Builtin.«proto.unchain» := entryFor_of_tree (by kernel_rfl)
theorem den_builtin {prog : Program} {w : World} {id : String} {args : Args} {b : Builtin} (hb : entryFor table id = some b) : (model prog w).den (.builtin id args) = b args := by
  show (match entryFor table id with | some b => b args | none => unsupported ((withoutEnding? id "#data").getD id)) = _
  rw [hb]
theorem quiet_unchain (args : Args) : (Code.builtin "proto.unchain" args).quiet = true := Code.quiet_builtin args (by decide +kernel)
section
variable {prog : Program} {w : World} {A : Around} {E : Value → Shared → Prop} {s : Shared} {env : Env}
theorem wpAny_unchain {e e0 : Addr} {ob0 : Obj} {vs0 : Array Value} {Q : Value → Shared → Prop} (h0 : s.heap.get? e0 = some ob0) (hd : ob0.data = .fields vs0) (h2 : vs0[2]? = some .none) (hQ : Q .none s) :
    wpAny (model prog w) A (runValue (.builtin "proto.unchain" ⟨[.ref e, .ref e0, .ref e0, .bool false], []⟩)) Q E s := by
  refine wpAny_runValue (codeAny_of_tree ?_)
  rw [den_builtin entry_unchain]
  unfold Builtin.«proto.unchain»
  refine wpAny_bind (wpAny_field h0 hd h2 ?_)
  rw [if_pos (by decide)]
  wp_walk
  exact hQ
end
section
variable {prog : Program} {w : World} {A : Around} {E : Value → Shared → Prop} {s : Shared} {env : Env} {h₀ : Heap} {x : Str} {C : Addr} {B newId : String} {bm : List Value} {mg : Str → Option Value} {pos : Pos} {Q : Flow → Shared → Prop} {ex : Expr}
theorem Raise_obj (O : OwnCls x C bm newId mg h₀) (hbase : bm.contains (.type "BaseException") = true) (hh : A.handled = none)
    (h : wpAny (model prog w) A (eval ex env) (fun v s₁ => ∃ e t, v = .ref e ∧ (∀ b o, h₀.get? b = some o → s₁.heap.get? b = some o) ∧
      s₁.heap.get? e = some { cls := .ref C, data := .fields #[.ref t, .none, .none, .none, .bool false, .none] } ∧ E (.ref e) s₁) E s) :
    wpAny (model prog w) A (exec (.Raise (some ex) none pos) env) Q E s := by
  obtain ⟨tl, N, nm, q, bs, hdct, sn, sub, ab, col, dd, k0, k1, k2, k3, k5, mN, hC, hN, hni, T⟩ := O.obj
  rw [arm_exec_Raise]
  refine wpAny_bind (wpAny_standAt ?_)
  refine wpAny_raiseStmt_made_sub (C := C) (nm := nm) (q := q) (N := N) (bs := bs) (bm := tl) (hdct := hdct) (sn := sn) (sub := sub) (ab := ab) (col := col) (dd := dd) (k0 := k0) (k1 := k1) (k2 := k2) (k3 := k3) (k5 := k5) (newId := newId) (T.hasType hbase) hh ?_
  refine wpAny_bind (wpAny_mono h (fun v s₁ h₁ => wpAny_bind (wpAny_standAt (wpAny_pure ?_))) fun _ _ x => x)
  obtain ⟨e, t, rfl, k, he, hE⟩ := h₁
  exact ⟨e, t, rfl, k _ _ hC, he, hE⟩
/-- raise .. from None, in the suite of another exception -/
theorem Raise_objN {e0 : Addr} {cpos : Pos} {kk : Nat} (O : OwnCls x C bm newId mg h₀) (hbase : bm.contains (.type "BaseException") = true) (hh : A.handled = some (.ref e0))
    (h : wpAny (model prog w) A (eval ex env) (fun v s₁ => ∃ e t ob0 vs0, v = .ref e ∧ e ≠ e0 ∧ (∀ b o, h₀.get? b = some o → s₁.heap.get? b = some o) ∧ h₀.get? e = none ∧
      s₁.heap.get? e = some { cls := .ref C, data := .fields #[.ref t, .none, .none, .none, .bool false, .none] } ∧ s₁.heap.get? e0 = some ob0 ∧ ob0.data = .fields vs0 ∧ vs0[2]? = some .none ∧
      ∀ h', (∀ b, b ≠ e → h'.get? b = s₁.heap.get? b) → h'.get? e = some { cls := .ref C, data := .fields #[.ref t, .none, .ref e0, .none, .bool true, .none] } → E (.ref e) { s₁ with heap := h' }) E s) :
    wpAny (model prog w) A (exec (.Raise (some ex) (some (.Constant .none kk cpos)) pos) env) Q E s := by
  obtain ⟨tl, N, nm, q, bs, hdct, sn, sub, ab, col, dd, k0, k1, k2, k3, k5, mN, hC₀, hN, hni, T⟩ := O.obj
  rw [arm_exec_Raise]
  refine wpAny_bind (wpAny_standAt ?_)
  unfold raiseStmt
  refine wpAny_bind (wpAny_bind (wpAny_mono h (fun v s₁ h₁ => wpAny_bind (wpAny_standAt (wpAny_pure ?_))) fun _ _ x => x))
  obtain ⟨e, t, ob0, vs0, rfl, hne, k, hnew, he, h0, hd0, h2, hE⟩ := h₁
  have hC := k _ _ hC₀
  have hcB : (Value.ref C :: tl).contains (.type "BaseException") = true := by rw [List.contains_cons, T.hasType hbase, Bool.or_true]
  obtain ⟨hp, g, d, tk, os⟩ := s₁
  dsimp only at *
  repeat (first | with_reducible refine wpAny_loadPart_at he ?_ | with_reducible refine wpAny_loadPart_at hC ?_ | (with_reducible refine wpAny_isSubtype_exc hC ?_; rw [hcB]) | wp_step)
  have hCe : C ≠ e := fun z => by rw [z, hnew] at hC₀; cases hC₀
  have o2 : ∀ b, b ≠ e → ((hp.update e (Obj.mapFields fun x => x.setIfInBounds 3 .none)).update e (Obj.mapFields fun x => x.setIfInBounds 4 (.bool true))).get? b = hp.get? b := fun b hb => by
    rw [Heap.get?_update_other _ _ (Ne.symm hb), Heap.get?_update_other _ _ (Ne.symm hb)]
  have e2 : ((hp.update e (Obj.mapFields fun x => x.setIfInBounds 3 .none)).update e (Obj.mapFields fun x => x.setIfInBounds 4 (.bool true))).get? e = some { cls := .ref C, data := .fields #[.ref t, .none, .none, .none, .bool true, .none] } :=
    Heap.get?_update_self _ (Heap.get?_update_self _ he rfl) rfl
  generalize ((hp.update e (Obj.mapFields fun x => x.setIfInBounds 3 .none)).update e (Obj.mapFields fun x => x.setIfInBounds 4 (.bool true))) = H at *
  have hC2 := (o2 C hCe).trans hC
  have h02 := (o2 e0 (Ne.symm hne)).trans h0
  repeat (first | with_reducible refine wpAny_loadPart_at e2 ?_ | with_reducible refine wpAny_loadPart_at hC2 ?_ | wp_step)
  unfold raiseNew
  refine wpAny_bind (wpAny_handled ?_)
  rw [hh]
  dsimp only
  rw [if_pos (show (Value.ref e0 != Value.ref e) = true from by simp [Ne.symm hne])]
  refine wpAny_bind (wpAny_holding (wpAny_unchain (s := ⟨H, g, d, tk, os⟩) h02 hd0 h2 ?_))
  show wpAny _ _ (do setField (.ref e) 2 (.ref e0); throw (.ref e)) _ _ _
  refine wpAny_bind (wpAny_setField (s := ⟨H, g, d, tk, os⟩) (i := 2) (x := .ref e0) e2 rfl (show 2 < 6 from by decide) ?_)
  refine wpAny_throw (hE _ (fun b hb => ?_) ?_)
  · rw [Heap.get?_update_other _ _ (Ne.symm hb)]; exact o2 b hb
  · exact Heap.get?_update_self _ e2 rfl
end
end Mine
end
section
namespace Mine
theorem fresh_Ex3 : True := by
  w_top off
  trivial
end Mine
open PySem PySem.W PyProof.Rows PySem.Spec PySem.Calls
set_option Elab.async false
set_option maxRecDepth 100000
namespace Mine
section
variable {prog : Program} {w : World} {A₀ A : Around} {s : Shared} {base h₀ : Heap} {L a : Addr} {m : Str → Option Value} {cn : Str} {cs : Scope} {ccd : Value} {own : List (Addr × Obj)} {K : Frag} {p : Program} {loose : List Str} {mean : ExcName → Option Value} {mg mb : Str → Option Value}
    {R : Result → Shared → Prop} {name qual : Str} {params : Arguments} {body : List Stmt} {scope : Scope} {dV kV doc pm cdv ct oc : Value} {an od : Option Addr} {osl : Array (Option Value)} {f : Addr} {args : Args} {binds : List (Str × Value)}
/-- how a def that catches is left, its caller's frame turned; all else of the caller's heap stays -/
noncomputable def LeaveP (fs : List Addr) (g : Heap) (R : Result → Shared → Prop) (v : Value) (s' : Shared) : Prop :=
  ∃ g' L' m' news', KtsTurn fs g g' ∧ Fr g' L' s'.heap m' ∧ News g' L' s'.heap news' ∧
    ((∀ b o, g.get? b = some o → b ∉ fs → s'.heap.get? b = some o) → (∀ b o, g.get? b = some o → b ∈ fs → ∃ sl, s'.heap.get? b = some { o with slots := sl }) → (∀ p ∈ news', g.get? p.1 = none) → (∀ p ∈ news', s'.heap.get? p.1 = some p.2) → R (.ok (.ret v)) s')
theorem enterP {env : Env} (B : Below A₀ base [] h₀) (F : Fr h₀ L s.heap m) (X₀ : K.In h₀) (N : News h₀ L s.heap own) (T : Top p loose mean mg mb h₀) (hA : A.frames = some [env]) (hf : env.frame = some L) (hke : env.scope.kind = .function)
    (ho : K.lookup f = some ⟨oc, od, .func (fnOf name qual params body scope dV kV doc pm an cdv ct), osl⟩) (hcd : codeIn K cdv qual = true) (hroom : A.depth < recursionLimit)
    (hbind : BindsTo s (fnOf name qual params body scope dV kV doc pm an cdv ct) args binds) (hloc : ∀ y ∈ binds, scope.names.lookup y.1 = some .local)
    (h : ∀ g L' h₁, g = hideAll s.heap (own.map (·.1)) → Fr g L' h₁ (fun y => binds.reverse.lookup y) → News g L' h₁ own → Below A base [env] g → K.In g → Top p loose mean mg mb g → KtsDicts ([env].filterMap (·.frame)) g →
      wpAny (model prog w) (A.deeper (envOf qual scope L' f cdv)) (execs body (envOf qual scope L' f cdv))
        (fun fl s' => LeaveP [L] g R (match fl with | .ret v => v | _ => .none) s')
        (fun e s' => wpAny (model prog w) (A.deeper (envOf qual scope L' f cdv)) (leaving (envOf qual scope L' f cdv) e) (fun _ s'' => R (.error e) s'') (fun e' s'' => R (.error e') s'') s')
        { s with heap := h₁, toks := s.toks + binds.length })
    (hco : scope.isCoroutine = false) (hgen : scope.isGenerator = false) (hk : scope.kind = .function)
    (hcell : ∀ x ∈ scope.names, x.2 ≠ .cell) : codeAny (model prog w) A (.call (.ref f) args) R s := by
  have X := X₀.keeps F.keep
  refine codeAny_call_def (fd := fnOf name qual params body scope dV kV doc pm an cdv ct) (body := body) (binds := binds) hroom (X _ _ ho) rfl (T.nolimit.keeps F.keep) (codeRec_of X hcd) rfl hbind hcell hloc (fun h₁ hns hk₁ => ?_) hco hgen hk
  obtain ⟨FG, B₂, st, _⟩ := groundX (R := R) B F N hA hf hke
  obtain ⟨oL, es, ep, hLg, hLd, _⟩ := FG.ns
  refine wpAny_mono (h _ s.heap.objs.size h₁ rfl ⟨hns, fun b o e => hk₁ b o (of_hideAll _ e), Nat.le_of_eq (hideAll_size _ _)⟩
    (fun p hp => ⟨hk₁ _ _ (N p hp).1, Nat.ne_of_lt (Heap.lt_size (N p hp).1), hideAll_none _ (List.mem_map_of_mem hp)⟩) B₂ (X₀.keeps st) (T.keeps st) (fun b hb => by
      obtain ⟨e2, he2, hf2⟩ := List.mem_filterMap.mp hb
      rw [List.mem_singleton.mp he2, hf] at hf2
      exact ⟨oL, es, ep, by rw [← Option.some.inj hf2]; exact hLg, hLd⟩)) (fun fl s' hl => ?_) fun _ _ y => y
  obtain ⟨g', L', m', news', T', F', N', k⟩ := hl
  refine k (fun b o q nm => F'.keep _ _ (T'.other b o q nm)) (fun b o q hm => ?_) (fun p hp => ?_) (fun p hp => (N' p hp).1)
  · obtain ⟨sl, hs⟩ := T'.frame b o q hm
    exact ⟨sl, F'.keep _ _ hs⟩
  · cases q : (hideAll s.heap (own.map (·.1))).get? p.1 with
    | none => rfl
    | some o =>
      obtain ⟨sl, hs⟩ := T'.up q
      have := (N' p hp).2.2
      rw [hs] at this; cases this
theorem leaveP_ {fs : List Addr} {g g' : Heap} {L' : Addr} {m' : Str → Option Value} {news' : List (Addr × Obj)} {v : Value} {s' : Shared} (F' : Fr g' L' s'.heap m') (N' : News g' L' s'.heap news') (T : KtsTurn fs g g')
    (k : (∀ b o, g.get? b = some o → b ∉ fs → s'.heap.get? b = some o) → (∀ b o, g.get? b = some o → b ∈ fs → ∃ sl, s'.heap.get? b = some { o with slots := sl }) → (∀ p ∈ news', g.get? p.1 = none) → (∀ p ∈ news', s'.heap.get? p.1 = some p.2) → R (.ok (.ret v)) s') : LeaveP fs g R v s' := ⟨g', L', m', news', T, F', N', k⟩
end
end Mine
end
section
namespace Mine
theorem fresh_Fz0 : True := by
  w_top off
  trivial
end Mine
open PySem PySem.W PyProof.Rows PySem.Spec PySem.Calls
set_option Elab.async false
set_option maxRecDepth 100000
namespace Mine
theorem mro_frozenset : mroOf (.type "frozenset") = pure [.type "frozenset", .type "object"] := by rw [mroOf_type]; kernel_rfl
theorem lookup_frozenset_new : typeLookup (.type "frozenset") "__new__" = pure (some (.builtin "frozenset.__new__")) := by rw [typeLookup_type, builtinLookup_eq_fast]; kernel_rfl
theorem slot_frozenset_init : Slot "frozenset" "__init__" "object.__init__" :=
  .of (owner := "object") (n := "__init__") (by rw [typeLookup_type, builtinLookup_eq_fast]; kernel_rfl) (by decide +kernel) (by decide +kernel) (by decide +kernel)
    (by first | exact .inl (by decide +kernel) | exact .inr (by decide +kernel)) (by rw [isSubtype_type]; kernel_rfl)
theorem called_frozenset : TypeCalled "frozenset" "frozenset.__new__" "object.__init__" :=
  ⟨by decide +kernel, by decide +kernel, ⟨_, _, mro_frozenset⟩, madeBy_type mro_frozenset lookup_frozenset_new (by decide +kernel), by decide +kernel, by rw [isSubtype_type]; kernel_rfl, slot_frozenset_init⟩
theorem typeCall_frozenset_1 (a : Value) : checkTypeCall "frozenset" ⟨[a], []⟩ = pure () := by kernel_rfl
theorem newCall_frozenset_1 (a : Value) : checkBuiltinCall "frozenset.__new__" ⟨[.type "frozenset", a], []⟩ = pure () := by kernel_rfl
theorem entry_frozenset_new : entryFor table "frozenset.__new__" = some Builtin.«frozenset.__new__» := entryFor_of_tree (by kernel_rfl)
theorem sub_frozenset_self : isSubtype (.type "frozenset") (.type "frozenset") = pure true := by rw [isSubtype_type]; kernel_rfl
theorem init_frozenset_lookup : typeLookup (.type "frozenset") "__init__" = pure (some (.builtin "object.__init__")) := slot_frozenset_init.lookup
theorem args_frozenset_init (a b : Value) : argsOk "object.__init__" ⟨[a, b], []⟩ := by unfold argsOk; kernel_rfl
theorem madeHere_frozenset : Bind.madeHere "frozenset.__new__" (.type "frozenset") = pure () := by
  unfold Bind.madeHere
  have e : Bind.staticBase (.type "frozenset") = pure (.type "frozenset") := by first | rfl | kernel_rfl
  rw [e]
  simp only [pure_bind, called_frozenset.made]
  first | rfl | kernel_rfl | (simp; rfl)

/-- what a frozenset of texts holds -/
noncomputable def FzSt (prog : Program) (w : World) (o : Obj) (S : Str → Bool) : Prop :=
  ∃ es ep t, o.data = .set es ep t ∧ ElemsOf (strKind prog w) es.toList ∧ (∀ k, S k = true ↔ ∃ e ∈ es.toList, (strKind prog w).is k e.2 = true) ∧ es.size < scanBound ∧ t.fits es.size = true
noncomputable def fzHas (x k : Str) : Bool := decide (∃ c ∈ x.cps.toList, k = ⟨#[c]⟩)
/-- a frozenset of the letters of a text -/
noncomputable def IsFz (prog : Program) (w : World) (x : Str) (o : Obj) : Prop := o.cls = .type "frozenset" ∧ o.dict = none ∧ FzSt prog w o (fzHas x)
theorem args_frozenset_in (a b : Value) : argsOk "frozenset.__contains__" ⟨[a, b], []⟩ := by unfold argsOk; kernel_rfl
theorem slot_frozenset_in : Slot "frozenset" "__contains__" "frozenset.__contains__" :=
  .of (owner := "frozenset") (n := "__contains__") (by rw [typeLookup_type, builtinLookup_eq_fast]; kernel_rfl) (by decide +kernel) (by decide +kernel) (by decide +kernel)
    (by first | exact .inl (by decide +kernel) | exact .inr (by decide +kernel)) (by rw [isSubtype_type]; kernel_rfl)
theorem entry_frozenset_in : entryFor table "frozenset.__contains__" = some Builtin.«frozenset.__contains__» := entryFor_of_tree (by kernel_rfl)
theorem entry_fz_update : entryFor table "set.update.loop" = some Builtin.«set.update.loop» := entryFor_of_tree (by kernel_rfl)
theorem plain_fz_update : plainId "set.update.loop" = true := by decide +kernel
theorem entry_fz_disj : entryFor table "frozenset.isdisjoint.loop" = some Builtin.«frozenset.isdisjoint.loop» := entryFor_of_tree (by kernel_rfl)
theorem plain_fz_disj : plainId "frozenset.isdisjoint.loop" = true := by decide +kernel
section
variable {prog : Program} {w : World} {A : Around} {E : Value → Shared → Prop} {s : Shared}
theorem fz_find {a : Addr} {o : Obj} {S : Str → Bool} {k : Str} {x : Value} {Q : Option Nat → Shared → Prop} (hk : (strKind prog w).is k x = true) (hx : x.scannable = true) (ho : s.heap.get? a = some o) (hS : FzSt prog w o S)
    (h : ∀ r : Option Nat, r.isSome = S k → Q r s) : wpAny (model prog w) A (setFind a x ((strKind prog w).hash k)) Q E s := by
  obtain ⟨es, ep, t, hd, hel, hm, hb, hf⟩ := hS
  have seen : ∀ i, es.toList.findIdx? (fun e => (strKind prog w).is k e.2) = i → i.isSome = S k := fun i hi => by
    cases i with
    | none =>
      cases hs : S k with
      | false => rfl
      | true =>
        obtain ⟨e, he, hp⟩ := (hm k).mp hs
        exact absurd hp (by simp [List.findIdx?_eq_none_iff.mp hi e he])
    | some j =>
      obtain ⟨hj, hp, _⟩ := List.findIdx?_eq_some_iff_getElem.mp hi
      exact ((hm k).mpr ⟨_, List.getElem_mem hj, hp⟩).symm
  unfold setFind setFindIn
  refine wpAny_bind (wpAny_setState_of ho hd hf ?_)
  dsimp only
  rw [byScan_of hx hb hel, if_pos rfl]
  refine wpAny_bind (wpAny_rule (wpAny_bind (wpAny_setScan_of hk ho hd hf hel ?_)))
  have sk := seen _ rfl
  revert sk
  cases es.toList.findIdx? (fun e => (strKind prog w).is k e.2) with
  | none => exact fun sk => wpAny_pure (h none sk)
  | some j => exact fun sk => wpAny_pure (h _ sk)
theorem fz_add {a : Addr} {o : Obj} {ep : Nat} {t : SetTable} {k : Str} {x : Value} {Q : Bool → Shared → Prop} (hk : (strKind prog w).is k x = true) (hx : x.scannable = true) (ho : s.heap.get? a = some o) (hd : o.data = .set #[] ep t) (hf : t.fits 0 = true)
    (h : ∀ h' o' b, h'.get? a = some o' → o'.cls = o.cls → o'.dict = o.dict → FzSt prog w o' (fun k' => decide (k' = k)) → (∀ b, b ≠ a → h'.get? b = s.heap.get? b) → Q b { s with heap := h' }) :
    wpAny (model prog w) A (setAddHashed a x ((strKind prog w).hash k)) Q E s := by
  have hel : ElemsOf (strKind prog w) (#[] : Array (Int × Value)).toList := fun e he => by cases he
  have putD : ∀ {es : Array (Int × Value)} {ep : Nat} {t : SetTable} {o : Obj} {es'} {t'}, o.data = .set es ep t → (Obj.putSet es' t' o) = { o with data := .set es' (ep + 1) t' } := fun hd => putSet_of _ _ hd
  unfold setAddHashed setAddHashedIn
  refine wpAny_holding (wpAny_bind (wpAny_setState_of ho hd hf ?_))
  dsimp only
  rw [byScan_of hx (by decide) hel, if_pos rfl]
  unfold setAddByScan
  refine wpAny_bind (wpAny_bind (wpAny_rule (wpAny_bind (wpAny_setScan_of hk ho hd hf hel ?_))))
  dsimp only [List.findIdx?_nil]
  have pm := layNew_perm t #[] ((strKind prog w).hash k) x
  have pf := layNew_fits t #[] ((strKind prog w).hash k) x
  generalize layNew t #[] ((strKind prog w).hash k) x = l at pm pf ⊢
  obtain ⟨es1, t1, dm, gv⟩ := l
  dsimp only at pm pf ⊢
  have one : ∀ {es : Array (Int × Value)}, List.Perm es.toList [((strKind prog w).hash k, x)] → es.toList = [((strKind prog w).hash k, x)] := fun p => List.perm_singleton.mp p
  have st : ∀ {es : Array (Int × Value)} {e : Nat} {tt : SetTable} {oo : Obj}, oo.data = .set es e tt → es.toList = [((strKind prog w).hash k, x)] → tt.fits es.size = true → FzSt prog w oo (fun k' => decide (k' = k)) := fun {es e tt oo} hd he hf =>
    ⟨es, e, tt, hd, by rw [he]; exact fun q hq => by rw [List.mem_singleton.mp hq]; exact ⟨⟨k, hk, rfl⟩, hx⟩,
      fun k' => by
        rw [he, decide_eq_true_eq]
        constructor
        · rintro rfl; exact ⟨_, List.mem_singleton_self _, hk⟩
        · rintro ⟨q, hq, hp⟩
          rw [List.mem_singleton.mp hq] at hp
          exact (strKind prog w).inj x k' k hp hk,
      by rw [← Array.length_toList, he]; exact (by decide : 1 < scanBound), hf⟩
  have l1 := one pm
  have z1 : es1.size ≤ sizeLine := by rw [← Array.length_toList, l1]; exact (by decide : 1 ≤ sizeLine)
  have rl : ∀ (b : Bool) {n : String} {s₁ : Shared} {Q' : Unit → Shared → Prop}, Q' () s₁ → wpAny (model prog w) A (match b with | true => rule n | false => pure ()) Q' E s₁ := fun b n s₁ Q' q => by cases b <;> first | exact wpAny_pure q | exact wpAny_rule q
  refine wpAny_bind (rl _ ?_)
  have fin : ∀ {t2 : SetTable} {Q' : Option Bool → Shared → Prop}, t2.fits es1.size = true →
      (∀ h' o', h'.get? a = some o' → o'.cls = o.cls → o'.dict = o.dict → FzSt prog w o' (fun k' => decide (k' = k)) → (∀ b, b ≠ a → h'.get? b = s.heap.get? b) → Q' (some true) { s with heap := h' }) →
      wpAny (model prog w) A (do
        storeSet a es1 t2
        if (!dm && t2.tooFull) = true then do
            (match (relayAll t2 es1 (SetTable.grown es1.size)).2.2 with | true => rule "set.scan.the-table-gave-way" | false => pure ())
            storeSet a (relayAll t2 es1 (SetTable.grown es1.size)).1 (relayAll t2 es1 (SetTable.grown es1.size)).2.1
            pure (some true)
          else pure (some true)) Q' E s := by
    intro t2 Q' f2 q
    refine wpAny_bind (wpAny_storeSet_of ho hd ?_ z1)
    have g1 := Heap.get?_update_self (Obj.putSet es1 t2) ho (by rw [putD hd]; rfl)
    have e1 := putD (es' := es1) (t' := t2) hd
    split
    · have rp := relayAll_perm t2 es1 (SetTable.grown es1.size)
      have rf := relayAll_fits t2 es1 (SetTable.grown es1.size)
      generalize relayAll t2 es1 (SetTable.grown es1.size) = r at rp rf ⊢
      obtain ⟨es2, t3, gv2⟩ := r
      dsimp only at rp rf ⊢
      have l2 := one (l1 ▸ rp)
      refine wpAny_bind (rl _ ?_)
      have d1 : (Obj.putSet es1 t2 o).data = .set es1 (ep + 1) t2 := by rw [e1]
      refine wpAny_bind (wpAny_storeSet_of (s := { s with heap := s.heap.update a (Obj.putSet es1 t2) }) g1 d1 ?_ (by rw [← Array.length_toList, l2]; exact (by decide : 1 ≤ sizeLine)))
      have g2 := Heap.get?_update_self (Obj.putSet es2 t3) g1 (by rw [putD d1, e1]; rfl)
      refine wpAny_pure (q _ _ g2 (by rw [putD d1, e1]) (by rw [putD d1, e1]) (st (by rw [putD d1]) l2 rf) fun b hb => ?_)
      rw [Heap.get?_update_other _ _ (Ne.symm hb), Heap.get?_update_other _ _ (Ne.symm hb)]
    · exact wpAny_pure (q _ _ g1 (by rw [e1]) (by rw [e1]) (st (by rw [e1]) l1 f2) fun b hb => Heap.get?_update_other _ _ (Ne.symm hb))
  split
  · refine wpAny_bind ?_
    rw [hashByValue_scannable 8 hx]
    refine wpAny_pure ?_
    refine fin ?_ ?_
    · split
      · exact pf
      · exact SetTable.fits_plain_off pf
    · exact fun h' o' a1 a2 a3 a4 a5 => wpAny_pure (h h' o' _ a1 a2 a3 a4 a5)
  · refine wpAny_bind (wpAny_pure ?_)
    rw [if_pos rfl]
    exact fin pf fun h' o' a1 a2 a3 a4 a5 => wpAny_pure (h h' o' _ a1 a2 a3 a4 a5)
theorem str_of_len0 {x : Str} (h : x.length = 0) : x.cps.toList = [] := by
  have : x.cps.size = 0 := h
  simpa using this
theorem str_of_len1 {x : Str} (h : x.length = 1) : ∃ c, x.cps.toList = [c] := by
  have : x.cps.toList.length = 1 := by rw [Array.length_toList]; exact h
  exact List.length_eq_one_iff.mp this
theorem FzSt.congr {o : Obj} {S S' : Str → Bool} (x : FzSt prog w o S) (e : ∀ k, S k = S' k) : FzSt prog w o S' := by rw [← funext e]; exact x
theorem fz_upd {S I : Addr} {x : Str} {St : Nat → Heap → Prop} {o : Obj} {t : SetTable} {ep : Nat} {R : Result → Shared → Prop} (W : Walks prog w A.in1 I [I] [I] x.cps.size (SignAt x) St) (hx : x.length ≤ 1) (hne : S ≠ I) (st : St 0 s.heap)
    (hS : s.heap.get? S = some o) (hc : o.cls = .type "frozenset") (hn : o.dict = none) (hd : o.data = .set #[] ep t) (hf : t.fits 0 = true)
    (hR : ∀ h' o' tk', (∀ b q, b ≠ S → b ≠ I → s.heap.get? b = some q → h'.get? b = some q) → h'.get? S = some o' → IsFz prog w x o' → R (.ok (.ret .none)) { s with heap := h', toks := tk' }) :
    codeAny (model prog w) A (.builtin "set.update.loop" ⟨[.ref S, .ref I], []⟩) R s := by
  refine codeAny_builtin entry_fz_update ?_
  rw [Around.under_plainId plain_fz_update _]
  show wpAny _ A.in1 (pyNext (.ref I) >>= _) _ _ s
  rcases (by omega : x.length = 0 ∨ x.length = 1) with z | z
  · have zs : x.cps.size = 0 := z
    rw [zs] at W
    refine wpAny_bind (W.done s _ _ st fun h' tk kp => ?_)
    refine wpAny_pure (hR h' o tk (fun b q b1 b2 e => kp b q (by simpa using b2) e) (kp S o (by simpa using hne) hS) ⟨hc, hn, #[], ep, t, hd, (fun e he => by cases he), fun k => ?_, (by decide), hf⟩)
    simp [fzHas, str_of_len0 z]
  · have zs : x.cps.size = 1 := z
    obtain ⟨c, hc1⟩ := str_of_len1 z
    rw [zs] at W
    refine wpAny_bind (W.item 0 s _ _ Nat.zero_lt_one st fun v h1 tk1 hv st1 kp => ?_)
    obtain ⟨c', u, hg, rfl⟩ := hv
    have ec : c' = c := by rw [← Array.getElem?_toList, hc1] at hg; simpa using hg.symm
    subst ec
    show wpAny _ A.in1 (holding [_] (setAdd S _) >>= _) _ _ _
    refine wpAny_bind (wpAny_holding ?_)
    unfold setAdd
    refine wpAny_holding (wpAny_bind ((strKind prog w).pyHash (k := ⟨#[c']⟩) (by first | exact Value.isStrOf_self _ _ | simp [PySem.strKind, Value.isStrOf]) ?_))
    refine fz_add (t := t) (ep := ep) (by first | exact Value.isStrOf_self _ _ | simp [PySem.strKind, Value.isStrOf]) rfl (kp S o (by simpa using hne) hS) hd hf fun h2 o2 b2 g2 c2 n2 f2 k2 => ?_
    refine wpAny_pure ⟨plainId_quiet plain_fz_update _, ?_⟩
    refine codeAny_builtin entry_fz_update ?_
    rw [Around.under_plainId plain_fz_update _]
    show wpAny _ A.in1 (pyNext (.ref I) >>= _) _ _ _
    refine wpAny_bind (W.done _ _ _ (W.frame _ _ _ st1 fun b hb q e => ?_) fun h3 tk3 kp3 => ?_)
    · rw [List.mem_singleton.mp hb] at e ⊢
      exact (k2 I (Ne.symm hne)).trans e
    · refine wpAny_pure (hR h3 o2 tk3 (fun b q b1 b3 e => kp3 b q (by simpa using b3) ((k2 b b1).trans (kp b q (by simpa using b3) e))) (kp3 S o2 (by simpa using hne) g2) ⟨c2.trans hc, n2.trans hn, f2.congr fun k => ?_⟩)
      simp [fzHas, hc1]
set_option maxHeartbeats 8000000 in
theorem fz_new0 {x : Str} {t : Tok} {Q : Value → Shared → Prop} (hh : A.handled = none) (hx : x.length ≤ 1)
    (h : ∀ D o h' tk', (∀ b q, s.heap.get? b = some q → h'.get? b = some q) → s.heap.get? D = none → h'.get? D = some o → IsFz prog w x o → Q (.ref D) { s with heap := h', toks := tk' }) :
    wpAny (model prog w) A (call (.type "frozenset") [.str x t]) Q E s := by
  refine callType_newIn called_frozenset (by decide) (typeCall_frozenset_1 _) (newCall_frozenset_1 _) (fun obj => args_frozenset_init obj _) entry_frozenset_new
    (S := fun A' R s' => A'.handled = none ∧ ∀ D o h' tk', (∀ b q, s'.heap.get? b = some q → h'.get? b = some q) → s'.heap.get? D = none → h'.get? D = some o → IsFz prog w x o → R (.ok (.ret (.ref D))) { s' with heap := h', toks := tk' }) ?_ ⟨by simpa using hh, fun D o h' tk' a1 a2 a3 a4 => ⟨⟨o, a3, a4.1⟩, h D o h' tk' a1 a2 a3 a4⟩⟩
  refine .of_wp fun A R s ⟨hh, h⟩ => ?_
  have hsub := sub_frozenset_self
  have hinit := init_frozenset_lookup
  have hmh := madeHere_frozenset
  have h1 := PySem.F.sub_str_set
  have h2 := PySem.F.sub_str_frozenset
  obtain ⟨hp, g, d, tk, os⟩ := s
  unfold Builtin.«frozenset.__new__» Builtin.Frozenset.newFrom Builtin.Frozenset.updateFrom
  generalize hPI : pyIter = PI
  generalize hRV : @runValue = RV
  wp_walk
  refine wpAny_askSetting (wpAny_pure ?_)
  dsimp only
  simp only [newObj]
  refine wpAny_bind (wpAny_alloc (wpAny_pure ?_))
  wp_walk
  subst hPI
  subst hRV
  refine wpAny_pyIter_str fun o St W S0 => ?_
  refine wpAny_bind (wpAny_runValue ?_)
  refine fz_upd (W _ (by simp [hh])) hx (by simp) S0 (Heap.get?_push_of_some _ (Heap.get?_push_size _ rfl)) rfl rfl rfl (by rfl) fun h' o' tk' k1 k2 k3 => ?_
  refine wpAny_pure (wpAny_pure (wpAny_pure ⟨_, rfl, h _ o' h' tk' (fun b q e => ?_) ?_ k2 k3⟩))
  · have lt : b < hp.objs.size := Heap.lt_size e
    refine k1 b q (Nat.ne_of_lt lt) ?_ (Heap.get?_push_of_some _ (Heap.get?_push_of_some _ e))
    simp only [Heap.size_push]
    exact Nat.ne_of_lt (Nat.lt_succ_of_lt lt)
  · exact Heap.get?_none_of_le (Nat.le_refl _)
theorem slot_fz_disj : Slot "frozenset" "isdisjoint" "frozenset.isdisjoint" :=
  .of (owner := "frozenset") (n := "isdisjoint") (by rw [typeLookup_type, builtinLookup_eq_fast]; kernel_rfl) (by decide +kernel) (by decide +kernel) (by decide +kernel)
    (by first | exact .inl (by decide +kernel) | exact .inr (by decide +kernel)) (by rw [isSubtype_type]; kernel_rfl)
theorem entry_fz_disj0 : entryFor table "frozenset.isdisjoint" = some Builtin.«frozenset.isdisjoint» := entryFor_of_tree (by kernel_rfl)
theorem args_fz_disj (a b : Value) : argsOk "frozenset.isdisjoint" ⟨[a, b], []⟩ := by unfold argsOk; kernel_rfl
theorem fz_has {x : Str} {c : Nat} {o : Obj} {a : Addr} {u : Tok} {Q : Bool → Shared → Prop} (ho : s.heap.get? a = some o) (hx : IsFz prog w x o) (h : Q (decide (c ∈ x.cps.toList)) { s with toks := s.toks + 1 }) :
    wpAny (model prog w) A (setContains a (.str ⟨#[c]⟩ u)) Q E s := by
  unfold setContains
  have ik : (PySem.strKind prog w).is ⟨#[c]⟩ (.str ⟨#[c]⟩ u) = true := by first | exact Value.isStrOf_self _ _ | simp [PySem.strKind, Value.isStrOf]
  refine wpAny_holding (wpAny_bind ((PySem.strKind prog w).pyHash ik (wpAny_bind (fz_find ik rfl ho hx.2.2 fun r hr => wpAny_pure ?_))))
  have e : fzHas x ⟨#[c]⟩ = decide (c ∈ x.cps.toList) := by
    unfold fzHas
    congr 1
    simp
  rw [hr, e]
  exact h
theorem fz_walk {D I : Addr} {x y : Str} {St : Nat → Heap → Prop} {o : Obj} {R : Result → Shared → Prop} (W : Walks prog w A.in1 I [I] [I] y.cps.size (SignAt y) St) (hne : D ≠ I) (hx : IsFz prog w x o) :
    ∀ (k i : Nat) (s : Shared), y.cps.size - i = k → i ≤ y.cps.size → St i s.heap → s.heap.get? D = some o → (∀ c ∈ y.cps.toList.take i, c ∉ x.cps.toList) →
      (∀ h' tk', (∀ b q, b ≠ I → s.heap.get? b = some q → h'.get? b = some q) → R (.ok (.ret (.bool (decide (∀ c ∈ x.cps.toList, c ∉ y.cps.toList))))) { s with heap := h', toks := tk' }) →
      codeAny (model prog w) A (.builtin "frozenset.isdisjoint.loop" ⟨[.ref D, .ref I], []⟩) R s := by
  intro k
  induction k with
  | zero =>
    intro i s hk hi st hD hn hR
    have hin : i = y.cps.size := by omega
    subst hin
    refine codeAny_builtin entry_fz_disj ?_
    rw [Around.under_plainId plain_fz_disj _]
    show wpAny _ A.in1 (pyNext (.ref I) >>= _) _ _ s
    refine wpAny_bind (W.done s _ _ st fun h' tk kp => wpAny_pure ?_)
    have e : decide (∀ c ∈ x.cps.toList, c ∉ y.cps.toList) = true := decide_eq_true fun c hc hy => hn c (by rw [List.take_of_length_le (by simp)]; exact hy) hc
    have := hR h' tk (fun b q b1 e => kp b q (by simpa using b1) e)
    rw [e] at this
    exact this
  | succ k ih =>
    intro i s hk hi st hD hn hR
    have hlt : i < y.cps.size := by omega
    refine codeAny_builtin entry_fz_disj ?_
    rw [Around.under_plainId plain_fz_disj _]
    show wpAny _ A.in1 (pyNext (.ref I) >>= _) _ _ s
    refine wpAny_bind (W.item i s _ _ hlt st fun v h1 tk1 hv st1 kp => ?_)
    obtain ⟨c, u, hg, rfl⟩ := hv
    have hgl : y.cps.toList[i]? = some c := by rw [Array.getElem?_toList]; exact hg
    have hD1 := kp D o (by simpa using hne) hD
    show wpAny _ A.in1 (holding [_] (setContains D _) >>= _) _ _ _
    refine wpAny_bind (wpAny_holding (fz_has (s := { s with heap := h1, toks := tk1 }) hD1 hx ?_))
    by_cases hc : c ∈ x.cps.toList
    · rw [if_pos (decide_eq_true hc)]
      refine wpAny_pure ?_
      have e : decide (∀ c ∈ x.cps.toList, c ∉ y.cps.toList) = false := decide_eq_false fun h => h c hc (List.mem_of_getElem? hgl)
      have := hR h1 (tk1 + 1) (fun b q b1 e => kp b q (by simpa using b1) e)
      rw [e] at this
      exact this
    · rw [if_neg (by simp [hc])]
      refine wpAny_pure ⟨plainId_quiet plain_fz_disj _, ih (i + 1) _ (by omega) hlt st1 hD1 (fun d hd => ?_) fun h' tk' k' => ?_⟩
      · rw [List.take_add_one, hgl] at hd
        rcases List.mem_append.mp hd with hd | hd
        · exact hn d hd
        · rw [show d = c by simpa using hd]; exact hc
      · exact hR h' tk' fun b q b1 e => k' b q b1 (kp b q (by simpa using b1) e)
set_option maxHeartbeats 8000000 in
theorem fz_disj0 {x y : Str} {t : Tok} {D : Addr} {o : Obj} {Q : Value → Shared → Prop} (hh : A.handled = none) (hD : s.heap.get? D = some o) (hx : IsFz prog w x o)
    (h : ∀ h' tk', (∀ b q, s.heap.get? b = some q → h'.get? b = some q) → Q (.bool (decide (∀ c ∈ x.cps.toList, c ∉ y.cps.toList))) { s with heap := h', toks := tk' }) :
    wpAny (model prog w) A (call (.builtin "frozenset.isdisjoint") [.ref D, .str y t]) Q E s := by
  have hT : s.TypeIs (.ref D) "frozenset" := ⟨o, hD, hx.1⟩
  refine wpAny_call (codeAny_call_builtin slot_fz_disj.plain entry_fz_disj0 (slot_fz_disj.check _ _ _ _ _ _ _ _ hT (args_fz_disj _ _) ?_))
  unfold Builtin.«frozenset.isdisjoint» Builtin.Frozenset.oneOther Builtin.Frozenset.addrOf
  obtain ⟨hp, g, d, tk, os⟩ := s
  generalize hPI : pyIter = PI
  wp_walk
  subst hPI
  refine wpAny_pyIter_str fun o1 St W S0 => ?_
  refine wpAny_pure ⟨plainId_quiet plain_fz_disj _, ?_⟩
  have hne : D ≠ hp.objs.size := Nat.ne_of_lt (Heap.lt_size hD)
  exact fz_walk (W _ (by simp [hh])) hne hx _ 0 _ rfl (Nat.zero_le _) S0 (Heap.get?_push_of_some _ hD) (fun c hc => by simp at hc) fun h' tk' k => h h' tk' fun b q e => k b q (Nat.ne_of_lt (Heap.lt_size e)) (Heap.get?_push_of_some _ e)
theorem fz_notin {x : Str} {c : Nat} {t : Tok} {D : Addr} {o : Obj} {Q : Value → Shared → Prop} (hD : s.heap.get? D = some o) (hx : IsFz prog w x o)
    (h : ∀ tk', Q (.bool (decide (c ∉ x.cps.toList))) { s with toks := tk' }) :
    wpAny (model prog w) A (compareOp .NotIn (.str ⟨#[c]⟩ t) (.ref D)) Q E s := by
  have hT : s.TypeIs (.ref D) "frozenset" := ⟨o, hD, hx.1⟩
  show wpAny _ _ (do return .bool (!(← contains (.ref D) _))) Q E s
  unfold contains
  refine wpAny_bind (wpAny_holding (wpAny_bind (wpAny_specialOf hT slot_frozenset_in.lookup ?_)))
  show wpAny _ _ (if (some (Value.builtin "frozenset.__contains__") == some Value.none) = true then _ else _) _ E s
  rw [if_neg (by rw [beq_builtin_none]; exact Bool.false_ne_true)]
  refine wpAny_bind (wpAny_callSpecialUnlessNone?_slot (name := Str.ofString "__contains__") hT slot_frozenset_in (wpAny_call_entry slot_frozenset_in hT entry_frozenset_in ?_ (args_frozenset_in _ _)))
  unfold Builtin.«frozenset.__contains__» Builtin.Frozenset.oneOther Builtin.Frozenset.withSetAsKey
  refine wpAny_bind (wpAny_pure ?_)
  dsimp only
  refine wpAny_bind (wpAny_tryCatch (fz_has hD hx ?_))
  refine wpAny_pure ⟨_, rfl, wpAny_truthy_bool (wpAny_pure ?_)⟩
  have := h (s.toks + 1)
  rw [show decide (c ∉ x.cps.toList) = !decide (c ∈ x.cps.toList) by simp] at this
  exact this
section
variable {h₀ : Heap} {L : Addr} {m : Str → Option Value} {news : List (Addr × Obj)} {Q : Value → Shared → Prop}
theorem fz_new {x : Str} {t : Tok} (F : Fr h₀ L s.heap m) (N : News h₀ L s.heap news) (hh : A.handled = none) (hx : x.length ≤ 1)
    (h : ∀ D o h' tk', Fr h₀ L h' m → News h₀ L h' ((D, o) :: news) → IsFz prog w x o → (∀ p ∈ news, p.1 ≠ D) → Q (.ref D) { s with heap := h', toks := tk' }) :
    wpAny (model prog w) A (call (.type "frozenset") [.str x t]) Q E s := by
  refine fz_new0 hh hx fun D o h' tk' k kn kd kf => h D o h' tk' ⟨F.ns.keeps k, fun b q z => k _ _ (F.keep b q z), F.above⟩ (fun p hp => ?_) kf fun p hp z => by have := (N p hp).1; rw [z, kn] at this; cases this
  rcases List.mem_cons.mp hp with rfl | hp
  · refine ⟨kd, fun z => ?_, kts_none F.keep kn⟩
    obtain ⟨oL, es, ep, hL, _⟩ := F.ns
    have z' : D = L := z
    rw [← z', kn] at hL; cases hL
  · exact ⟨k _ _ (N p hp).1, (N p hp).2⟩
theorem fz_disjoint {x y : Str} {t : Tok} {D : Addr} {o : Obj} (F : Fr h₀ L s.heap m) (N : News h₀ L s.heap news) (hh : A.handled = none) (hD : s.heap.get? D = some o) (hx : IsFz prog w x o)
    (h : ∀ h' tk', Fr h₀ L h' m → News h₀ L h' news → Q (.bool (decide (∀ c ∈ x.cps.toList, c ∉ y.cps.toList))) { s with heap := h', toks := tk' }) :
    wpAny (model prog w) A (call (.builtin "frozenset.isdisjoint") [.ref D, .str y t]) Q E s :=
  fz_disj0 hh hD hx fun h' tk' k => h h' tk' ⟨F.ns.keeps k, fun b q z => k _ _ (F.keep b q z), F.above⟩ fun p hp => ⟨k _ _ (N p hp).1, (N p hp).2⟩
end
end
end Mine
end
section
namespace Mine
theorem fresh_Ex4 : True := by
  w_top off
  trivial
end Mine
open PySem PySem.W PyProof.Rows PySem.Spec PySem.Calls
open PySem.Builtin PySem.Builtin.Str
set_option Elab.async false
set_option maxRecDepth 100000
namespace Mine
theorem raises_index3 (x y : Str) (p : Int) (t u v : Tok) (h : occurrences x y (fromIndex x.length p) x.length 1 = []) : Meets («str.index» ⟨[.str x t, .str y u, .int p v], []⟩) (raisesNew "ValueError") := by
  intro prog w A R s hS
  show wpAny _ _ (match occurrences x y (fromIndex x.length p) (min x.length x.length) 1 with | i :: _ => retInt i | [] => _) _ _ s
  rw [Nat.min_self, h]
  first
    | exact wpAny_bind (wpAny_rule (by exact_raiseError plainExc_ValueError hS.1 hS.2))
    | exact wpAny_bind (wpAny_rule (wpAny_bind (by exact_raiseError plainExc_ValueError hS.1 hS.2)))
theorem gives_index3 (x y : Str) (p : Int) (t u v : Tok) (i : Nat) (rest : List Nat) (h : occurrences x y (fromIndex x.length p) x.length 1 = i :: rest) : Gives («str.index» ⟨[.str x t, .str y u, .int p v], []⟩) (.int i) := by
  show Gives (match occurrences x y (fromIndex x.length p) (min x.length x.length) 1 with | k :: _ => retInt k | [] => _) _
  rw [Nat.min_self, h]
  exact .of_eq rfl
/-- where a text is found next -/
noncomputable def nxt (x y : Str) (p : Int) : Option Nat := (occurrences x y (fromIndex x.length p) x.length 1).head?
section
variable {prog : Program} {w : World} {A : Around} {E : Value → Shared → Prop} {s : Shared} {x y : Str} {t u v : Tok} {p : Int} {Q : Value → Shared → Prop}
theorem index3 (hA : A.handled = none)
    (h1 : ∀ i : Nat, nxt x y p = some i → Q (.int i s.toks) { s with toks := s.toks + 1 })
    (h0 : nxt x y p = none → ∀ h' tk e, Heap.NewExc s.heap h' e "ValueError" → E (.ref e) { s with heap := h', toks := tk }) :
    wpAny (model prog w) A (call (.builtin "str.index") [.str x t, .str y u, .int p v]) Q E s := by
  cases ho : occurrences x y (fromIndex x.length p) x.length 1 with
  | nil => exact call_meets F.slot_str_index (typeIs_str _ _ _) F.entry_str_index (F.args_str_index_3 _ _ _) (raises_index3 x y p t u v ho) ⟨hA, h0 (by simp [nxt, ho])⟩
  | cons i rest => exact call_gives F.slot_str_index (typeIs_str _ _ _) F.entry_str_index (F.args_str_index_3 _ _ _) (gives_index3 x y p t u v i rest ho) (h1 i (by simp [nxt, ho]))
end
theorem gives_count4 (x y : Str) (i j : Int) (t u v v' : Tok) : Gives («str.count» ⟨[.str x t, .str y u, .int i v, .int j v'], []⟩) (.int (occurrences x y (fromIndex x.length i) (min (fromIndex x.length j) x.length) (x.length + 1)).length) := by
  show Gives (retInt (occurrences x y (fromIndex x.length i) (min (fromIndex x.length j) x.length) (x.length + 1)).length) _
  exact .of_eq rfl
theorem occ_none (x : Str) (c : Nat) (hc : c ∉ x.cps.toList) (lo hi k : Nat) : occurrences x ⟨#[c]⟩ lo hi k = [] := by
  refine List.eq_nil_iff_forall_not_mem.mpr fun i hi2 => ?_
  have h := (PySem.StrLaws.occ_spec x ⟨#[c]⟩ lo hi k i hi2).2
  have e : x.cps.extract i (i + 1) = #[c] := eq_of_beq h
  have h2 : c ∈ (x.cps.extract i (i + 1)) := by rw [e]; simp
  obtain ⟨k, hk, e2⟩ := Array.mem_extract_iff_getElem.mp h2
  exact hc (Array.mem_toList_iff.mpr (e2 ▸ Array.getElem_mem _))
section
variable {prog : Program} {w : World} {A : Around} {E : Value → Shared → Prop} {s : Shared} {x y : Str} {t u v v' : Tok} {i j : Int} {Q : Value → Shared → Prop}
theorem count4_none {c : Nat} (hc : c ∉ x.cps.toList) (hq : Q (.int 0 s.toks) { s with toks := s.toks + 1 }) :
    wpAny (model prog w) A (call (.builtin "str.count") [.str x t, .str ⟨#[c]⟩ u, .int i v, .int j v']) Q E s := by
  refine call_gives F.slot_str_count (typeIs_str _ _ _) F.entry_str_count (F.args_str_count_4 _ _ _ _) (gives_count4 x _ i j t u v v') ?_
  rw [occ_none x c hc]
  exact hq
end
end Mine
end
section
namespace Mine
theorem fresh_Fz1 : True := by
  w_top off
  trivial
end Mine
open PySem PySem.W PyProof.Rows PySem.Spec PySem.Calls
set_option Elab.async false
set_option maxRecDepth 100000
namespace Mine
theorem plainAttrs_frozenset : PlainAttrs "frozenset" :=
  ⟨⟨"object.__getattribute__", by rw [typeLookup_type, builtinLookup_eq_fast]; kernel_rfl, by decide +kernel⟩, by rw [typeLookup_type, builtinLookup_eq_fast]; kernel_rfl⟩
theorem slot_isdisjoint : Slot "frozenset" "isdisjoint" "frozenset.isdisjoint" :=
  .of (owner := "frozenset") (n := "isdisjoint") (by rw [typeLookup_type, builtinLookup_eq_fast]; kernel_rfl) (by decide +kernel) (by decide +kernel) (by decide +kernel)
    (by first | exact .inl (by decide +kernel) | exact .inr (by decide +kernel)) (by rw [isSubtype_type]; kernel_rfl)
theorem type_isdisjoint : typeOf (.builtin "frozenset.isdisjoint") = pure (.type "method_descriptor") := by show builtinType _ = _; rw [builtinType_eq_fast]; kernel_rfl
theorem entry_isdisjoint : entryFor table "frozenset.isdisjoint" = some Builtin.«frozenset.isdisjoint» := entryFor_of_tree (by kernel_rfl)
theorem args_isdisjoint (a b : Value) : argsOk "frozenset.isdisjoint" ⟨[a, b], []⟩ := by unfold argsOk; kernel_rfl
section
variable {M : Model} {A : Around} {E : Value → Shared → Prop} {s : Shared} {D : Addr} {o : Obj}
theorem getMethod_disjoint {pl : Sem Bool} {Q : Value × List Value → Shared → Prop} (hD : s.heap.get? D = some o) (hc : o.cls = .type "frozenset" ∧ o.dict = none) (h : Q (.builtin "frozenset.isdisjoint", [.ref D]) s) :
    wpAny M A (getMethod (.ref D) "isdisjoint" pl) Q E s :=
  getMethod_builtin ⟨o, hD, hc.1⟩ plainAttrs_frozenset slot_isdisjoint type_isdisjoint (fun b e => by injection e with e; subst e; exact ⟨o, hD, hc.2⟩) h
end
end Mine
end
section
namespace Mine
theorem fresh_Ex5 : True := by
  w_top off
  trivial
end Mine
open PySem PySem.W PyProof.Rows PySem.Spec PySem.Calls
set_option Elab.async false
set_option maxRecDepth 100000
namespace Mine
/-- the cut of a text from p up to i -/
noncomputable abbrev cutS (x : Str) (p i : Int) : Str := Txt.slice x (some p) (some i)
/-- what _law_places gives, from a place on -/
noncomputable def placesFrom (x y b : Str) : Nat → Int → List Int → List Int
  | 0, _, acc => acc
  | n + 1, p, acc => match nxt x y p with
    | none => acc
    | some i => if ∀ c ∈ b.cps.toList, c ∉ (cutS x p i).cps.toList then placesFrom x y b n (i + 1) (acc ++ [(i : Int)]) else acc
section
variable {prog : Program} {w : World} {A : Around} {E : Value → Shared → Prop} {s : Shared} {env : Env} {test : PySem.Expr} {body orelse : List Stmt} {Q : Flow → Shared → Prop} {g : Heap} {L l : Addr} {m : Str → Option Value} {led : List (Addr × Obj)} {x y b : Str} {R : List Int}
theorem whl_pl (F : Fr g L s.heap m) (N : News g L s.heap ((l, listOf #[] 0) :: led)) (t : Tok) (hm : m "pos" = some (.int 0 t)) (hR : placesFrom x y b 20 0 [] = R)
    (more : ∀ (n : Nat) (p : Int) (tp : Tok) (acc : List Int) (its : Array Value) (k : Nat) (h : Heap) (tk : Nat), acc.length + (n + 1) = 20 → IntsAre its.toList acc → 0 ≤ p → p ≤ x.length → placesFrom x y b (n + 1) p acc = R →
      Fr g L h (fun z => if z = "pos" then some (.int p tp) else m z) → News g L h ((l, listOf its k) :: led) →
      (∀ (p' : Int) (tp' : Tok) (acc' : List Int) (its' : Array Value) (k' : Nat) (h' : Heap) (tk' : Nat), acc'.length + n = 20 → IntsAre its'.toList acc' → 0 ≤ p' → p' ≤ x.length → placesFrom x y b n p' acc' = R →
        Fr g L h' (fun z => if z = "pos" then some (.int p' tp') else m z) → News g L h' ((l, listOf its' k') :: led) → WhlRest prog w A E env test body orelse Q 0 { s with heap := h', toks := tk' }) →
      WhlRest prog w A E env test body orelse Q 1 { s with heap := h, toks := tk })
    (last : ∀ (p : Int) (tp : Tok) (acc : List Int) (its : Array Value) (k : Nat) (h : Heap) (tk : Nat), acc.length = 20 → IntsAre its.toList acc → acc = R →
      Fr g L h (fun z => if z = "pos" then some (.int p tp) else m z) → News g L h ((l, listOf its k) :: led) → WhlRest prog w A E env test body orelse Q 1 { s with heap := h, toks := tk }) :
    WhlRest prog w A E env test body orelse Q 1 s := by
  have all : ∀ (n : Nat) (p : Int) (tp : Tok) (acc : List Int) (its : Array Value) (k : Nat) (h : Heap) (tk : Nat), acc.length + n = 20 → IntsAre its.toList acc → 0 ≤ p → p ≤ x.length → placesFrom x y b n p acc = R →
      Fr g L h (fun z => if z = "pos" then some (.int p tp) else m z) → News g L h ((l, listOf its k) :: led) → WhlRest prog w A E env test body orelse Q 1 { s with heap := h, toks := tk } := by
    intro n
    induction n with
    | zero => exact fun p tp acc its k h tk h1 h2 h3 h4 h5 h6 h7 => last p tp acc its k h tk h1 h2 h5 h6 h7
    | succ n ih => exact fun p tp acc its k h tk h1 h2 h3 h4 h5 h6 h7 => more n p tp acc its k h tk h1 h2 h3 h4 h5 h6 h7 fun p' tp' acc' its' k' h' tk' a1 a2 a3 a4 a5 a6 a7 => ih p' tp' acc' its' k' h' tk' a1 a2 a3 a4 a5 a6 a7
  have e : (fun z => if z = ("pos" : Str) then some (Value.int 0 t) else m z) = m := funext fun z => by
    by_cases hz : z = ("pos" : Str)
    · rw [if_pos hz, hz, hm]
    · rw [if_neg hz]
  exact all 20 0 t [] #[] 0 s.heap s.toks rfl .nil (by decide) (by omega) hR (by rw [e]; exact F) N
noncomputable def Hold (P : Prop) : Prop := P
theorem whl_hold {pos : Pos} {E : Value → Shared → Prop} (h : Hold (WhlRest prog w A E env test body orelse Q 1 s)) : wpAny (model prog w) A (exec (.While test body orelse pos) env) Q E s := whl_start 1 h
theorem holdPost {k : Nat} {E : Value → Shared → Prop} (h : Hold (WhlRest prog w A E env test body orelse Q k s)) : WhlPost prog w A E env test body orelse Q k .next s := h
end
end Mine
end
section
namespace Mine
theorem fresh_Ex6 : True := by
  w_top off
  trivial
end Mine
open PySem PySem.W PyProof.Rows PySem.Spec PySem.Calls
set_option Elab.async false
set_option maxRecDepth 100000
namespace Mine
theorem and_keep {P Q : Prop} (p : P) (k : P → Q) : P ∧ Q := ⟨p, k p⟩
theorem len_app {x y : Str} {a b : Nat} (h : x.length ≤ a) (k : y.length ≤ b) : (x ++ y).length ≤ a + b := by rw [PySem.Str.length_append]; omega
theorem len_lit {t : String} (h : (PySem.Str.ofString t).length ≤ 100) : (PySem.Str.ofString t).length ≤ 100 := h
theorem len_empty : Str.empty.length ≤ 0 := Nat.le_refl _
theorem lenI {a : Int} (h : 0 ≤ a) (k : a ≤ 1000) : (PySem.Str.ofString (toString a)).length ≤ 1002 := by
  have := len_str_of_int a
  omega
section
variable {prog : Program} {w : World} {A₀ A : Around} {s : Shared} {base h₀ : Heap} {outer : List Env} {L a : Addr} {m : Str → Option Value} {own : List (Addr × Obj)} {K : Frag} {p : Program} {loose : List Str} {mean : ExcName → Option Value} {mg mb : Str → Option Value}
    {R : Result → Shared → Prop} {name qual : Str} {params : Arguments} {body : List Stmt} {scope : Scope} {dV kV doc pm cdv ct oc : Value} {an od : Option Addr} {osl : Array (Option Value)} {f : Addr} {args : Args} {binds : List (Str × Value)}
/-- how a def that raises nothing is left; all of the ground stays -/
noncomputable def LeaveT (g : Heap) (R : Result → Shared → Prop) (v : Value) (s' : Shared) : Prop :=
  ∃ L' m' news', Fr g L' s'.heap m' ∧ News g L' s'.heap news' ∧
    ((∀ b o, g.get? b = some o → s'.heap.get? b = some o) → (∀ p ∈ news', g.get? p.1 = none ∧ s'.heap.get? p.1 = some p.2) → R (.ok (.ret v)) s')
theorem enterT {env : Env} (B : Below A₀ base outer h₀) (F : Fr h₀ L s.heap m) (X₀ : K.In h₀) (N : News h₀ L s.heap own) (T : Top p loose mean mg mb h₀) (hA : A.frames = some (env :: outer)) (hf : env.frame = some L) (hke : env.scope.kind = .function)
    (ho : K.lookup f = some ⟨oc, od, .func (fnOf name qual params body scope dV kV doc pm an cdv ct), osl⟩) (hcd : codeIn K cdv qual = true) (hroom : A.depth < recursionLimit)
    (hbind : BindsTo s (fnOf name qual params body scope dV kV doc pm an cdv ct) args binds) (hloc : ∀ y ∈ binds, scope.names.lookup y.1 = some .local)
    (h : ∀ g L' h₁, g = hideAll s.heap (own.map (·.1)) → Fr g L' h₁ (fun y => binds.reverse.lookup y) → News g L' h₁ own → Below A base (env :: outer) g → K.In g → Top p loose mean mg mb g → base.StaysIn g →
      wpAny (model prog w) (A.deeper (envOf qual scope L' f cdv)) (execs body (envOf qual scope L' f cdv))
        (fun fl s' => LeaveT g R (match fl with | .ret v => v | _ => .none) s')
        (fun e s' => wpAny (model prog w) (A.deeper (envOf qual scope L' f cdv)) (leaving (envOf qual scope L' f cdv) e) (fun _ s'' => R (.error e) s'') (fun e' s'' => R (.error e') s'') s')
        { s with heap := h₁, toks := s.toks + binds.length })
    (hco : scope.isCoroutine = false) (hgen : scope.isGenerator = false) (hk : scope.kind = .function)
    (hcell : ∀ x ∈ scope.names, x.2 ≠ .cell) : codeAny (model prog w) A (.call (.ref f) args) R s := by
  have X := X₀.keeps F.keep
  refine codeAny_call_def (fd := fnOf name qual params body scope dV kV doc pm an cdv ct) (body := body) (binds := binds) hroom (X _ _ ho) rfl (T.nolimit.keeps F.keep) (codeRec_of X hcd) rfl hbind hcell hloc (fun h₁ hns hk₁ => ?_) hco hgen hk
  obtain ⟨FG, B₂, st, _⟩ := groundX (R := R) B F N hA hf hke
  refine wpAny_mono (h _ s.heap.objs.size h₁ rfl ⟨hns, fun b o e => hk₁ b o (of_hideAll _ e), Nat.le_of_eq (hideAll_size _ _)⟩
    (fun p hp => ⟨hk₁ _ _ (N p hp).1, Nat.ne_of_lt (Heap.lt_size (N p hp).1), hideAll_none _ (List.mem_map_of_mem hp)⟩) B₂ (X₀.keeps st) (T.keeps st) B₂.stays) (fun fl s' hl => ?_) fun _ _ y => y
  obtain ⟨L', m', news', F', N', k⟩ := hl
  exact k F'.keep fun p hp => ⟨(N' p hp).2.2, (N' p hp).1⟩
noncomputable abbrev excOf (C t : Addr) : Obj := { cls := .ref C, data := .fields #[.ref t, .none, .none, .none, .bool false, .none] }
theorem call_own {E : Value → Shared → Prop} {Q : Value → Shared → Prop} {x : Str} {C : Addr} {B newId initId : String} {bm : List Value} {news : List (Addr × Obj)} {vs : List Value} (O : OwnCls x C bm newId mg h₀) (FB : ExcBaseFacts B newId initId bm) (F : Fr h₀ L s.heap m) (N : News h₀ L s.heap news) (hlen : vs.length ≤ sizeLine)
    (h : ∀ e t h', Fr h₀ L h' m → News h₀ L h' ((e, excOf C t) :: news) → (∀ p ∈ news, p.1 ≠ e) → Q (.ref e) { s with heap := h' }) :
    wpAny (model prog w) A (call (.ref C) vs) Q E s := by
  obtain ⟨tl, N0, nm, q, bs, hdct, sn, sub, ab, col, dd, k0, k1, k2, k3, k5, mN, hC, hN, hni, T⟩ := O.obj
  obtain ⟨hp, gs, dr, tk, os⟩ := s
  refine wpAny_call_exc_subT (C := C) (nm := nm) (q := q) (N := N0) (bs := bs) (bm := tl) (hdct := hdct) (sn := sn) (sub := sub) (ab := ab) (col := col) (dd := dd) (k0 := k0) (k1 := k1) (k2 := k2) (k3 := k3) (k5 := k5) (hrest := hlen) FB (T.keeps F.keep) (F.keep _ _ hC) (hN.keeps F.keep) hni fun h' e hm => ?_
  obtain ⟨t, ht, _, _⟩ := hm.there
  have hne : ∀ p ∈ news, p.1 ≠ e := fun p hp z => by have := (N p hp).1; rw [z] at this; rw [hm.new] at this; cases this
  refine h e t h' ⟨F.ns.keeps hm.keeps, fun b o z => hm.keeps _ _ (F.keep b o z), F.above⟩ (fun p hp => ?_) hne
  rcases List.mem_cons.mp hp with rfl | hp
  · refine ⟨ht, fun z => ?_, kts_none F.keep hm.new⟩
    obtain ⟨oL, es, ep, hL, _⟩ := F.ns
    have z' : e = L := z
    rw [← z', hm.new] at hL; cases hL
  · exact ⟨hm.keeps _ _ (N p hp).1, (N p hp).2⟩
theorem leaveT_ {g : Heap} {L' : Addr} {m' : Str → Option Value} {news' : List (Addr × Obj)} {v : Value} {s' : Shared} (F' : Fr g L' s'.heap m') (N' : News g L' s'.heap news')
    (k : (∀ b o, g.get? b = some o → s'.heap.get? b = some o) → (∀ p ∈ news', g.get? p.1 = none ∧ s'.heap.get? p.1 = some p.2) → R (.ok (.ret v)) s') : LeaveT g R v s' := ⟨L', m', news', F', N', k⟩
end
end Mine
end
section
namespace Mine
theorem fresh_Ex7 : True := by
  w_top off
  trivial
end Mine
open PySem PySem.W PyProof.Rows PySem.Spec PySem.Calls
set_option Elab.async false
set_option maxRecDepth 100000
namespace Mine
/-- the name of the nested def -/
noncomputable def QN : Str := Str.ofString "suffixed_err.<locals>.coord_repr"
/-- the states of suffixed_err's table -/
noncomputable def TabOk (ps : Array Value) (cx : Addr) (ox : Obj) : Prop :=
  (ps = #[] ∧ cx = 60 ∧ ox = tabObj #[]) ∨ (cx ≠ 60 ∧ ps = #[rawInt 22, rawInt 4, .ref cx] ∧ ∃ vs t, ox.data = .fields vs ∧ vs[1]? = some (.str QN t))
theorem codeRec_q {h₀ h : Heap} {L c : Addr} {oc : Obj} {vs : Array Value} {qual qn : Str} {t : Tok} {news : List (Addr × Obj)} (N : News h₀ L h news) (hm : (c, oc) ∈ news) (hd : oc.data = .fields vs) (hv : vs[1]? = some (.str qn t)) (e : qn = qual) : h.CodeRec (.ref c) qual :=
  ⟨c, oc, vs, t, rfl, (N _ hm).1, hd, by rw [← e]; exact hv⟩
section
variable {h₀ h h' g : Heap} {L : Addr} {m : Str → Option Value} {own news : List (Addr × Obj)}
theorem own_out (N : News h₀ L h own) {b : Addr} {o : Obj} (e : h₀.get? b = some o) : b ∉ own.map (·.1) := fun hm => by
  obtain ⟨p, hp, rfl⟩ := List.mem_map.mp hm
  rw [(N p hp).2.2] at e; cases e
theorem back_keep (F : Fr h₀ L h m) (N : News h₀ L h own) (eg : g = hideAll h (own.map (·.1))) {b : Addr} {o : Obj} (e : h₀.get? b = some o) : g.get? b = some o := by
  rw [eg]; exact hideAll_get _ (F.keep b o e) (own_out N e)
theorem back_self (N : News h₀ L h own) (eg : g = hideAll h (own.map (·.1))) {o : Obj} (e : h.get? L = some o) : g.get? L = some o := by
  rw [eg]
  refine hideAll_get _ e fun hm => ?_
  obtain ⟨p, hp, z⟩ := List.mem_map.mp hm
  exact (N p hp).2.1 z
theorem back_fr (F : Fr h₀ L h m) (N : News h₀ L h own) (eg : g = hideAll h (own.map (·.1))) (k : ∀ b o, g.get? b = some o → h'.get? b = some o) : Fr h₀ L h' m :=
  ⟨F.ns.at' fun o e => k L o (back_self N eg e), fun b o e => k b o (back_keep F N eg e), F.above⟩
theorem back_news (F : Fr h₀ L h m) (N : News h₀ L h own) (eg : g = hideAll h (own.map (·.1))) (k : ∀ p ∈ news, g.get? p.1 = none ∧ h'.get? p.1 = some p.2) : News h₀ L h' news := fun p hp => by
  obtain ⟨a, b⟩ := k p hp
  refine ⟨b, fun z => ?_, ?_⟩
  · obtain ⟨oL, es, ep, hL, _⟩ := F.ns
    rw [z, back_self N eg hL] at a; cases a
  · cases q : h₀.get? p.1 with
    | none => rfl
    | some o => rw [back_keep F N eg q] at a; cases a
theorem Ns_slots {a : Addr} (hn : h.Ns a m) (e : ∀ o, h.get? a = some o → ∃ sl, h'.get? a = some { o with slots := sl }) : h'.Ns a m :=
  let ⟨o, es, ep, x, d, r⟩ := hn
  let ⟨_, y⟩ := e o x
  ⟨_, es, ep, y, d, r⟩
theorem backP (F : Fr h₀ L h m) (N : News h₀ L h own) (eg : g = hideAll h (own.map (·.1))) (k1 : ∀ b o, g.get? b = some o → b ∉ [L] → h'.get? b = some o) (k2 : ∀ b o, g.get? b = some o → b ∈ [L] → ∃ sl, h'.get? b = some { o with slots := sl }) : Fr h₀ L h' m :=
  ⟨Ns_slots F.ns fun o e => k2 L o (back_self N eg e) (.head _), fun b o e => k1 b o (back_keep F N eg e) fun z => by
    rw [List.mem_singleton] at z
    have := Heap.lt_size e
    have := F.above
    rw [z] at *
    exact absurd (Nat.lt_of_lt_of_le ‹L < _› ‹_›) (Nat.lt_irrefl _), F.above⟩
theorem backP_news (F : Fr h₀ L h m) (N : News h₀ L h own) (eg : g = hideAll h (own.map (·.1))) (k3 : ∀ p ∈ news, g.get? p.1 = none) (k4 : ∀ p ∈ news, h'.get? p.1 = some p.2) : News h₀ L h' news := back_news F N eg fun p hp => ⟨k3 p hp, k4 p hp⟩
theorem news_sub {l l' : List (Addr × Obj)} (N : News h₀ L h l) (k : ∀ p ∈ l', p ∈ l) : News h₀ L h l' := fun p hp => N p (k p hp)
end
theorem holdW {M : Model} {A : Around} {α : Type} {t : Sem α} {Q : α → Shared → Prop} {E : Value → Shared → Prop} {s : Shared} (h : Hold (wpAny M A t Q E s)) : wpAny M A t Q E s := h
end Mine
end
section
namespace Mine
theorem fresh_Ex8 : True := by
  w_top off
  trivial
end Mine
open PySem PySem.W PyProof.Rows PySem.Spec PySem.Calls
open PySem.Builtin PySem.Builtin.Str PySem.StrLaws
set_option Elab.async false
set_option maxRecDepth 100000
namespace Mine
theorem range_split {lo n a : Nat} {pre post : List Nat} (e : List.range' lo n = pre ++ a :: post) : a = lo + pre.length ∧ ∀ k, lo ≤ k → k < a → k ∈ pre := by
  have g : ∀ j, j < n → (pre ++ a :: post)[j]? = some (lo + j) := fun j hj => by
    rw [← e, List.getElem?_range' hj, Nat.one_mul]
  have hn : n = pre.length + (post.length + 1) := by
    have := congrArg List.length e
    simpa using this
  have ha : a = lo + pre.length := by
    have := g pre.length (by omega)
    simpa using this
  refine ⟨ha, fun k h1 h2 => ?_⟩
  have := g (k - lo) (by omega)
  rw [List.getElem?_append_left (by omega), show lo + (k - lo) = k by omega] at this
  exact List.mem_of_getElem? this
theorem nxt_spec (x y : Str) (p : Int) (hp : 0 ≤ p) : (nxt x y p = none ∧ ∀ i, p.toNat ≤ i → ¬ At x y x.length i) ∨ ∃ i, nxt x y p = some i ∧ p.toNat ≤ i ∧ At x y x.length i ∧ ∀ k, p.toNat ≤ k → k < i → ¬ At x y x.length k := by
  have ep : fromIndex x.length p = p.toNat := by
    unfold fromIndex
    rw [if_neg (by omega)]
    omega
  unfold nxt
  rw [ep, occ_eq]
  rcases occ_first x y x.length 1 (Nat.le_refl _) (List.range' p.toNat (x.length + 1 - p.toNat)) p.toNat (fun i hi => by
    have := List.mem_range'_1.mp hi
    exact this.1) with ⟨h0, hn⟩ | ⟨pre, a, post, e, h0, ha, hn⟩
  · refine .inl ⟨by rw [h0]; rfl, fun i h1 hi => hn i (List.mem_range'_1.mpr ?_) hi⟩
    have := hi.1
    omega
  · obtain ⟨e1, e2⟩ := range_split e
    refine .inr ⟨a, ?_, by omega, ha, fun k h1 h2 => hn k (e2 k h1 h2)⟩
    rw [List.head?_eq_getElem?, Array.getElem?_toList]
    exact h0
theorem nxt_bound {x y : Str} {p : Int} {i : Nat} (hp : 0 ≤ p) (h : nxt x y p = some i) : p ≤ i ∧ i + y.length ≤ x.length := by
  rcases nxt_spec x y p hp with ⟨h0, _⟩ | ⟨j, h0, h1, h2, _⟩
  · rw [h0] at h; cases h
  · rw [h0] at h; cases h
    exact ⟨by omega, h2.1⟩
theorem placesFrom_hit {x y b : Str} {n : Nat} {p : Int} {acc : List Int} {i : Nat} (h : nxt x y p = some i) (hb : ∀ c ∈ b.cps.toList, c ∉ (cutS x p i).cps.toList) : placesFrom x y b (n + 1) p acc = placesFrom x y b n (i + 1) (acc ++ [(i : Int)]) := by
  conv => lhs; unfold placesFrom
  rw [h]
  exact if_pos hb
theorem placesFrom_bar {x y b : Str} {n : Nat} {p : Int} {acc : List Int} {i : Nat} (h : nxt x y p = some i) (hb : ¬ ∀ c ∈ b.cps.toList, c ∉ (cutS x p i).cps.toList) : placesFrom x y b (n + 1) p acc = acc := by
  conv => lhs; unfold placesFrom
  rw [h]
  exact if_neg hb
theorem placesFrom_none {x y b : Str} {n : Nat} {p : Int} {acc : List Int} (h : nxt x y p = none) : placesFrom x y b (n + 1) p acc = acc := by
  conv => lhs; unfold placesFrom
  rw [h]
theorem cut_list {x : Str} {p : Int} {i : Nat} (h0 : 0 ≤ p) (h1 : p ≤ i) (h2 : i ≤ x.length) : (cutS x p i).cps.toList = (x.cps.toList.drop p.toNat).take ((i : Int) - p).toNat := by
  show (Txt.slice x (some p) (some (i : Int))).cps.toList = _
  rw [eq_of_beq (slice_closesL (x := x) h0 h1 (by omega))]
theorem barred_at {x b : Str} {p : Int} {i : Nat} (h0 : 0 ≤ p) (h1 : p ≤ i) (h2 : i ≤ x.length) (hb : ¬ ∀ c ∈ b.cps.toList, c ∉ (cutS x p i).cps.toList) : ∃ j c, p.toNat ≤ j ∧ j < x.length ∧ x.cps.toList[j]? = some c ∧ c ∈ b.cps.toList := by
  have hb : ∃ c, c ∈ b.cps.toList ∧ c ∈ (cutS x p i).cps.toList := by
    refine Classical.byContradiction fun h => hb fun c hc hd => h ⟨c, hc, hd⟩
  obtain ⟨c, hc, hd⟩ := hb
  rw [cut_list h0 h1 h2] at hd
  obtain ⟨k, hk, e⟩ := List.mem_iff_getElem?.mp hd |>.imp fun k e => (show k < ((i : Int) - p).toNat ∧ _ from by
    have e' := e
    rw [List.getElem?_take] at e'
    split at e'
    · rename_i hlt; exact ⟨hlt, e'⟩
    · cases e')
  rw [List.getElem?_drop] at e
  refine ⟨p.toNat + k, c, by omega, ?_, e, hc⟩
  omega
section
variable {h₀ h h' g : Heap} {L : Addr} {m : Str → Option Value}
theorem fr_pos {v v2 : Value} (F : Fr g L h (fun y => if y = ("pos" : Str) then some v else if y = ("pos" : Str) then some v2 else m y)) : Fr g L h (fun y => if y = ("pos" : Str) then some v else m y) := by
  have e : (fun y => if y = ("pos" : Str) then some v else if y = ("pos" : Str) then some v2 else m y) = (fun y => if y = ("pos" : Str) then some v else m y) := funext fun y => by
    by_cases hy : y = ("pos" : Str)
    · rw [if_pos hy, if_pos hy]
    · rw [if_neg hy, if_neg hy, if_neg hy]
  rw [← e]; exact F
end
section
variable {prog : Program} {w : World} {A : Around} {E : Value → Shared → Prop} {s : Shared} {env : Env} {test : PySem.Expr} {body orelse : List Stmt} {Q : Flow → Shared → Prop} {g : Heap} {L : Addr} {m : Str → Option Value} {led : List (Addr × Obj)} {x b : Str}
theorem whl_bar (F : Fr g L s.heap m) (N : News g L s.heap led) {p : Int} {t : Tok} (hm : m "pos" = some (.int p t)) (h0 : 0 ≤ p) (hex : ∃ j c, p.toNat ≤ j ∧ j < x.length ∧ x.cps.toList[j]? = some c ∧ c ∈ b.cps.toList)
    (more : ∀ (q : Int) (tq : Tok) (h : Heap) (tk c : Nat), 0 ≤ q → q < x.length → x.cps.toList[q.toNat]? = some c → c ∉ b.cps.toList →
      Fr g L h (fun z => if z = "pos" then some (.int q tq) else m z) → News g L h led →
      (∀ (tq' : Tok) (h' : Heap) (tk' : Nat), Fr g L h' (fun z => if z = "pos" then some (.int (q + 1) tq') else m z) → News g L h' led → WhlRest prog w A E env test body orelse Q 0 { s with heap := h', toks := tk' }) →
      WhlRest prog w A E env test body orelse Q 1 { s with heap := h, toks := tk })
    (last : ∀ (q : Int) (tq : Tok) (h : Heap) (tk c : Nat), 0 ≤ q → q < x.length → x.cps.toList[q.toNat]? = some c → c ∈ b.cps.toList →
      Fr g L h (fun z => if z = "pos" then some (.int q tq) else m z) → News g L h led → WhlRest prog w A E env test body orelse Q 1 { s with heap := h, toks := tk }) :
    WhlRest prog w A E env test body orelse Q 1 s := by
  have all : ∀ (n : Nat) (q : Int) (tq : Tok) (h : Heap) (tk : Nat), x.length - q.toNat = n → 0 ≤ q → (∃ j c, q.toNat ≤ j ∧ j < x.length ∧ x.cps.toList[j]? = some c ∧ c ∈ b.cps.toList) →
      Fr g L h (fun z => if z = "pos" then some (.int q tq) else m z) → News g L h led → WhlRest prog w A E env test body orelse Q 1 { s with heap := h, toks := tk } := by
    intro n
    induction n with
    | zero =>
      intro q tq h tk hn _ ⟨j, _, h1, h2, _⟩
      omega
    | succ n ih =>
      intro q tq h tk hn h0 ⟨j, c, h1, h2, h3, h4⟩ F N
      have hlt : q.toNat < x.cps.toList.length := by
        rw [Array.length_toList]
        exact Nat.lt_of_le_of_lt h1 h2
      have hq : x.cps.toList[q.toNat]? = some (x.cps.toList[q.toNat]) := List.getElem?_eq_getElem hlt
      have hl : q < x.length := by omega
      by_cases hc : x.cps.toList[q.toNat] ∈ b.cps.toList
      · exact last q tq h tk _ h0 hl hq hc F N
      · refine more q tq h tk _ h0 hl hq hc F N fun tq' h' tk' F' N' => ?_
        refine ih (q + 1) tq' h' tk' (by omega) (by omega) ⟨j, c, ?_, h2, h3, h4⟩ F' N'
        rcases Nat.eq_or_lt_of_le h1 with z | z
        · rw [← z, hq] at h3
          injection h3 with h3
          exact absurd (h3 ▸ h4) hc
        · omega
  have e : (fun z => if z = ("pos" : Str) then some (Value.int p t) else m z) = m := funext fun z => by
    by_cases hz : z = ("pos" : Str)
    · rw [if_pos hz, hz, hm]
    · rw [if_neg hz]
  exact all _ p t s.heap s.toks rfl h0 hex (by rw [e]; exact F) N
end
section
variable {h₀ h : Heap} {L : Addr} {a b c x y : Addr × Obj} {rest : List (Addr × Obj)}
theorem news_pick2 (N : News h₀ L h (a :: b :: x :: y :: rest)) : News h₀ L h (x :: y :: a :: b :: rest) := news_sub N fun p hp => by
  simp only [List.mem_cons] at hp ⊢
  rcases hp with h | h | h | h | h <;> simp [h]
theorem news_pick3 (N : News h₀ L h (a :: b :: c :: x :: y :: rest)) : News h₀ L h (x :: y :: a :: b :: c :: rest) := news_sub N fun p hp => by
  simp only [List.mem_cons] at hp ⊢
  rcases hp with h | h | h | h | h | h <;> simp [h]
theorem news_back2 (N : News h₀ L h (x :: y :: b :: a :: rest)) : News h₀ L h (a :: x :: y :: rest) := news_sub N fun p hp => by
  simp only [List.mem_cons] at hp ⊢
  rcases hp with h | h | h | h <;> simp [h]
theorem news_back3 (N : News h₀ L h (x :: y :: c :: b :: a :: rest)) : News h₀ L h (a :: x :: y :: rest) := news_sub N fun p hp => by
  simp only [List.mem_cons] at hp ⊢
  rcases hp with h | h | h | h <;> simp [h]
theorem raised_fr {g h' : Heap} {m : Str → Option Value} {e : Addr} {ob : Obj} (F : Fr g L h m) (N : News g L h ((e, ob) :: rest)) (k : ∀ b, b ≠ e → h'.get? b = h.get? b) : Fr g L h' m :=
  ⟨F.ns.at' fun o q => (k L (fun z => (N _ (.head _)).2.1 z.symm)).trans q, fun b o q => (k b fun z => by
    have e9 := (N _ (.head _)).2.2
    dsimp only at e9
    rw [← z, q] at e9; cases e9).trans (F.keep b o q), F.above⟩
theorem raised_news {g h' : Heap} {e : Addr} {ob ob2 : Obj} (N : News g L h ((e, ob) :: rest)) (hn : ∀ p ∈ rest, p.1 ≠ e) (k : ∀ b, b ≠ e → h'.get? b = h.get? b) (he : h'.get? e = some ob2) : News g L h' ((e, ob2) :: rest) := fun p hp => by
  rcases List.mem_cons.mp hp with rfl | hp
  · exact ⟨he, (N _ (.head _)).2⟩
  · exact ⟨(k _ (hn p hp)).trans (N p (.tail _ hp)).1, (N p (.tail _ hp)).2⟩
theorem raised_turn {base g1 g2 : Heap} {outer : List Env} {e : Addr} {cls : Value} {news : List (Addr × Obj)} (R : RaisedSN base g2 outer e cls news h) (T : KtsTurn (outer.filterMap (·.frame)) g1 g2) : RaisedSN base g1 outer e cls news h := by
  obtain ⟨B, a0, st, sg, hl, r⟩ := R
  refine ⟨B, a0, st, fun b o q nm => sg b o (T.other b o q nm) nm, fun q hq => ⟨(hl q hq).1, ?_, (hl q hq).2.2⟩, r⟩
  cases z : g1.get? q.1 with
  | none => rfl
  | some o =>
    obtain ⟨sl, hs⟩ := T.up z
    rw [(hl q hq).2.1] at hs; cases hs
theorem allNe_mem {d : Addr} : ∀ {l : List (Addr × Obj)}, AllNe d l → ∀ p ∈ l, p.1 ≠ d
  | [], _, _, h => by cases h
  | _ :: _, h, p, hp => by
    rcases List.mem_cons.mp hp with rfl | hp
    · exact h.1
    · exact allNe_mem h.2 p hp
theorem allLt_mem {d : Addr} : ∀ {l : List (Addr × Obj)}, AllLt d l → ∀ p ∈ l, p.1 < d
  | [], _, _, h => by cases h
  | _ :: _, h, p, hp => by
    rcases List.mem_cons.mp hp with rfl | hp
    · exact h.1
    · exact allLt_mem h.2 p hp
end
section
variable {prog : Program} {w : World} {A : Around} {E : Value → Shared → Prop} {s : Shared} {x y : Str} {c : Nat} {t : Tok} {D : Addr} {o : Obj} {Q : Value → Shared → Prop}
theorem fz_out (e : y = ⟨#[c]⟩) (hc : c ∉ x.cps.toList) (hx : IsFz prog w x o) (hD : s.heap.get? D = some o) (h : ∀ tk', Q (.bool true) { s with toks := tk' }) : wpAny (model prog w) A (compareOp .NotIn (.str y t) (.ref D)) Q E s := by
  subst e
  refine fz_notin hD hx fun tk' => ?_
  rw [decide_eq_true hc]; exact h tk'
theorem fz_inn (e : y = ⟨#[c]⟩) (hc : c ∈ x.cps.toList) (hx : IsFz prog w x o) (hD : s.heap.get? D = some o) (h : ∀ tk', Q (.bool false) { s with toks := tk' }) : wpAny (model prog w) A (compareOp .NotIn (.str y t) (.ref D)) Q E s := by
  subst e
  refine fz_notin hD hx fun tk' => ?_
  rw [decide_eq_false (fun h => h hc)]; exact h tk'
end
end Mine
end
section
namespace Mine
theorem fresh_Law2 : True := by
  w_top off
  trivial
end Mine
set_option maxRecDepth 100000
namespace Mine
/-- a number of 48 binary figures, turned -/
noncomputable def turned (x k : Int) : Int := (x * 2 ^ k.toNat + x / 2 ^ (48 - k).toNat) % 281474976710656
theorem turned_eq {x k : Int} (_ : 0 ≤ x) (_ : 0 ≤ k) (_ : k ≤ 48) : (x * 2 ^ k.toNat + x.fdiv (2 ^ (48 - k).toNat)).fmod (2 ^ Int.toNat 48) = turned x k := by
  unfold turned
  rw [Int.fdiv_eq_ediv_of_nonneg _ (Int.le_of_lt (Int.pow_pos (by decide))), show (2 : Int) ^ Int.toNat 48 = 281474976710656 from rfl, Int.fmod_eq_emod_of_nonneg _ (by decide)]
theorem turned_lt (x k : Int) : 0 ≤ turned x k ∧ turned x k < 281474976710656 := by
  unfold turned
  exact ⟨Int.emod_nonneg _ (by decide), Int.emod_lt_of_pos _ (by decide)⟩
theorem turned_48 {x : Int} (h0 : 0 ≤ x) (h1 : x < 281474976710656) : turned x 48 = x := by
  unfold turned
  rw [show (2 : Int) ^ Int.toNat 48 = 281474976710656 from rfl, show (2 : Int) ^ (48 - 48 : Int).toNat = 1 from rfl]
  omega
end Mine
end
section
namespace Mine
theorem fresh_Nt : True := by
  w_top off
  trivial
end Mine
open PySem PySem.W PyProof.Rows PySem.Spec PySem.Calls
open PySem.Builtin PySem.Builtin.Str
set_option Elab.async false
set_option maxRecDepth 100000
namespace Mine
/-- one turn to the left -/
noncomputable def rot1 (x : Int) : Int := turned x 1
theorem turned_zero {x : Int} (h0 : 0 ≤ x) (h1 : x < 281474976710656) : turned x 0 = x := by
  unfold turned
  rw [show (2 : Int) ^ Int.toNat 0 = 1 from rfl, show (2 : Int) ^ (48 - 0 : Int).toNat = 281474976710656 from rfl]
  omega
theorem turned_one (x : Int) : turned x 1 = (x * 2 + x / 140737488355328) % 281474976710656 := rfl
theorem pow_split {k : Nat} (h : k < 48) : ∃ P C : Int, (2 : Int) ^ k = P ∧ (2 : Int) ^ (k + 1) = 2 * P ∧ (2 : Int) ^ (48 - k) = 2 * C ∧ (2 : Int) ^ (48 - (k + 1)) = C ∧ C * P = 140737488355328 ∧ 0 < P ∧ 0 < C := by
  refine ⟨2 ^ k, 2 ^ (47 - k), rfl, by rw [Int.pow_succ, Int.mul_comm], ?_, ?_, ?_, Int.pow_pos (by decide), Int.pow_pos (by decide)⟩
  · rw [show 48 - k = (47 - k) + 1 by omega, Int.pow_succ, Int.mul_comm]
  · rw [show 48 - (k + 1) = 47 - k by omega]
  · rw [← Int.pow_add, show 47 - k + k = 47 by omega]; rfl
theorem rot_low {z q P : Int} (h0 : 0 ≤ z) (h1 : 0 ≤ q) (h2 : q < P) (h3 : z + P ≤ 140737488355328) : (2 * (q * 281474976710656 + z) + 2 * q) % 281474976710656 = ((z + q) * 2 + (z + q) / 140737488355328) % 281474976710656 := by
  have e : (z + q) / 140737488355328 = 0 := by omega
  rw [e]
  omega
theorem rot_high {z q P : Int} (h0 : 140737488355328 ≤ z) (h1 : 0 ≤ q) (h2 : q < P) (h3 : z + P ≤ 281474976710656) : (2 * (q * 281474976710656 + z) + (2 * q + 1)) % 281474976710656 = ((z + q) * 2 + (z + q) / 140737488355328) % 281474976710656 := by
  have e : (z + q) / 140737488355328 = 1 := by omega
  rw [e]
  omega
theorem turned_succ {x : Int} (h0 : 0 ≤ x) (h1 : x < 281474976710656) {k : Nat} (hk : k < 48) : turned x ((k + 1 : Nat) : Int) = rot1 (turned x (k : Int)) := by
  obtain ⟨P, C, e1, e2, e3, e4, e5, p0, c0⟩ := pow_split hk
  have t1 : turned x (k : Int) = (x * P + x / (2 * C)) % 281474976710656 := by
    unfold turned
    rw [Int.toNat_natCast, show (48 - (k : Int)).toNat = 48 - k by omega, e1, e3]
  have t2 : turned x ((k + 1 : Nat) : Int) = (x * (2 * P) + x / C) % 281474976710656 := by
    unfold turned
    rw [Int.toNat_natCast, show (48 - ((k + 1 : Nat) : Int)).toNat = 48 - (k + 1) by omega, e2, e4]
  have hq0 : 0 ≤ x / (2 * C) := Int.ediv_nonneg h0 (by omega)
  have hr0 : 0 ≤ x % (2 * C) := Int.emod_nonneg _ (by omega)
  have hr1 : x % (2 * C) < 2 * C := Int.emod_lt_of_pos _ (by omega)
  have hx := Int.mul_ediv_add_emod x (2 * C)
  generalize x / (2 * C) = q at *
  generalize x % (2 * C) = r at *
  have hqP : q < P := by
    refine Int.lt_of_not_ge fun h => ?_
    have : 2 * C * P ≤ 2 * C * q := Int.mul_le_mul_of_nonneg_left h (by omega)
    rw [Int.mul_assoc, e5] at this
    omega
  have hxP : x * P = q * 281474976710656 + r * P := by
    rw [← hx, Int.add_mul, Int.mul_assoc 2 C q, Int.mul_assoc, Int.mul_assoc, Int.mul_comm q P, ← Int.mul_assoc C P q, e5]
    omega
  have hrP : r * P + P ≤ 281474976710656 := by
    have : (r + 1) * P ≤ 2 * C * P := Int.mul_le_mul_of_nonneg_right (by omega) (by omega)
    rw [Int.add_mul, Int.one_mul, Int.mul_assoc, e5] at this
    omega
  have hrP0 : 0 ≤ r * P := Int.mul_nonneg hr0 (by omega)
  have e6 : turned x (k : Int) = r * P + q := by
    rw [t1, hxP]
    omega
  unfold rot1
  rw [e6, turned_one, t2]
  by_cases hs : r < C
  · have hd : x / C = 2 * q := by
      rw [← hx, show 2 * C * q + r = r + 2 * q * C by rw [Int.mul_comm 2 C, Int.mul_assoc, Int.mul_comm C (2 * q), Int.add_comm], Int.add_mul_ediv_right _ _ (by omega), Int.ediv_eq_zero_of_lt hr0 hs, Int.zero_add]
    have hlt : r * P + P ≤ 140737488355328 := by
      have : (r + 1) * P ≤ C * P := Int.mul_le_mul_of_nonneg_right (by omega) (by omega)
      rw [Int.add_mul, Int.one_mul, e5] at this
      exact this
    rw [hd, show x * (2 * P) = 2 * (x * P) by rw [← Int.mul_assoc, Int.mul_comm x 2, Int.mul_assoc], hxP]
    exact rot_low hrP0 hq0 hqP hlt
  · have hd : x / C = 2 * q + 1 := by
      rw [← hx, show 2 * C * q + r = (r - C) + (2 * q + 1) * C by rw [Int.add_mul, Int.one_mul, Int.mul_comm 2 C, Int.mul_assoc, Int.mul_comm C (2 * q)]; omega, Int.add_mul_ediv_right _ _ (by omega), Int.ediv_eq_zero_of_lt (by omega) (by omega), Int.zero_add]
    have hge : 140737488355328 ≤ r * P := by
      have : C * P ≤ r * P := Int.mul_le_mul_of_nonneg_right (by omega) (by omega)
      rw [e5] at this
      exact this
    rw [hd, show x * (2 * P) = 2 * (x * P) by rw [← Int.mul_assoc, Int.mul_comm x 2, Int.mul_assoc], hxP]
    exact rot_high hge hq0 hqP hrP
/-- n turns -/
noncomputable def rots : Nat → Int → Int
  | 0, x => x
  | n + 1, x => rot1 (rots n x)
theorem rots_add (x : Int) (a : Nat) : ∀ b, rots (a + b) x = rots b (rots a x)
  | 0 => rfl
  | b + 1 => congrArg rot1 (rots_add x a b)
theorem turned_rots {x : Int} (h0 : 0 ≤ x) (h1 : x < 281474976710656) : ∀ k : Nat, k ≤ 48 → turned x (k : Int) = rots k x
  | 0, _ => turned_zero h0 h1
  | k + 1, h => by rw [turned_succ h0 h1 (Nat.lt_of_succ_le h), turned_rots h0 h1 k (Nat.le_of_succ_le h)]; rfl
theorem rots_lt {x : Int} (h0 : 0 ≤ x) (h1 : x < 281474976710656) : ∀ k : Nat, 0 ≤ rots k x ∧ rots k x < 281474976710656
  | 0 => ⟨h0, h1⟩
  | _ + 1 => turned_lt _ _
theorem rots_48 {x : Int} (h0 : 0 ≤ x) (h1 : x < 281474976710656) : rots 48 x = x := by
  rw [← turned_rots h0 h1 48 (Nat.le_refl _)]
  exact turned_48 h0 h1
theorem rots_period {x : Int} {n : Nat} (h : rots n x = x) : ∀ m j, rots (n * m + j) x = rots j x
  | 0, j => by rw [Nat.mul_zero, Nat.zero_add]
  | m + 1, j => by rw [Nat.mul_succ, Nat.add_comm (n * m) n, Nat.add_assoc, rots_add, h, rots_period h m j]
theorem rots_mod {x : Int} {n : Nat} (h : rots n x = x) (j : Nat) : rots j x = rots (j % n) x := by
  have := rots_period h (j / n) (j % n)
  rw [Nat.div_add_mod] at this
  exact this
/-- where two numbers of turns give the same -/
theorem rots_same {x : Int} {n : Nat} (h0 : 0 ≤ x) (h1 : x < 281474976710656) (n0 : 1 ≤ n) (hn : rots n x = x) (least : ∀ j, 1 ≤ j → j < n → rots j x ≠ x) (a b : Nat) : rots a x = rots b x ↔ a % n = b % n := by
  have key : ∀ a b, a % n ≤ b % n → rots a x = rots b x → a % n = b % n := fun a b hle he => by
    rw [rots_mod hn a, rots_mod hn b] at he
    have hb : b % n < n := Nat.mod_lt _ n0
    have e1 : rots (n - b % n) (rots (a % n) x) = rots (n - b % n) (rots (b % n) x) := by rw [he]
    rw [← rots_add, ← rots_add, show b % n + (n - b % n) = n by omega, hn] at e1
    rcases Nat.lt_or_ge (a % n + (n - b % n)) n with hl | hl
    · exact absurd e1 (least _ (by omega) hl)
    · omega
  constructor
  · intro he
    rcases Nat.le_total (a % n) (b % n) with h | h
    · exact key a b h he
    · exact (key b a h he.symm).symm
  · intro he
    rw [rots_mod hn a, rots_mod hn b, he]
theorem mod_same (a b n : Nat) : (((a : Int) - (b : Int)).fmod (n : Int) == 0) = decide (a % n = b % n) := by
  rw [Int.fmod_eq_emod_of_nonneg _ (by omega), Bool.eq_iff_iff, beq_iff_eq, decide_eq_true_eq]
  rw [← Int.emod_emod_of_dvd _ (Int.dvd_refl _)]
  constructor
  · intro h
    rw [Int.emod_emod_of_dvd _ (Int.dvd_refl _)] at h
    have := (Int.emod_eq_emod_iff_emod_sub_eq_zero).mpr h
    omega
  · intro h
    rw [Int.emod_emod_of_dvd _ (Int.dvd_refl _)]
    refine (Int.emod_eq_emod_iff_emod_sub_eq_zero).mp ?_
    omega
theorem turned_same {x least k : Int} (x0 : 0 ≤ x) (x1 : x < 281474976710656) (l0 : 1 ≤ least) (l1 : least ≤ 48) (l2 : turned x least = x) (l3 : ∀ j, 1 ≤ j → j < least → turned x j ≠ x) (k0 : 0 ≤ k) (k1 : k < 48) (m : Nat) :
    decide (rots m x = turned x k) = (((m : Int) - k).fmod least == 0) := by
  obtain ⟨n, rfl⟩ := Int.eq_ofNat_of_zero_le (a := least) (by omega)
  obtain ⟨b, rfl⟩ := Int.eq_ofNat_of_zero_le k0
  rw [mod_same, turned_rots x0 x1 b (by omega)]
  rw [turned_rots x0 x1 n (by omega)] at l2
  refine decide_eq_decide.mpr (rots_same x0 x1 (by omega) l2 (fun j a1 a2 => ?_) m b)
  have := l3 (j : Int) (by omega) (by omega)
  rwa [turned_rots x0 x1 j (by omega)] at this
theorem rots_turned {x : Int} (h0 : 0 ≤ x) (h1 : x < 281474976710656) {k : Nat} (hk : k ≤ 48) (j : Nat) : rots (j + k) x = turned (rots j x) (k : Int) := by
  rw [rots_add, turned_rots (rots_lt h0 h1 j).1 (rots_lt h0 h1 j).2 k hk]
end Mine
end
section
namespace Mine
theorem fresh_Oc : True := by
  w_top off
  trivial
end Mine
open PySem PySem.W PyProof.Rows PySem.Spec PySem.Calls
open PySem.Builtin PySem.Builtin.Str
set_option Elab.async false
set_option maxRecDepth 100000
namespace Mine
open PySem.StrLaws (At occ_first occ_eq)
theorem from_nat {len p : Nat} (h : p ≤ len) : fromIndex len (p : Int) = p := by
  unfold fromIndex
  rw [if_neg (by omega)]
  omega
/-- what nxt says -/
theorem nxt_none {x y : Str} {p : Nat} (hp : p ≤ x.length + 1) (h : nxt x y (p : Int) = none) : ∀ i, p ≤ i → ¬ At x y x.length i := by
  unfold nxt at h
  have e : fromIndex x.length (p : Int) = p := by unfold fromIndex; rw [if_neg (by omega)]; omega
  rw [e, List.head?_eq_none_iff, occ_eq] at h
  rcases occ_first x y x.length 1 (Nat.le_refl 1) (List.range' p (x.length + 1 - p)) p (fun i hi => (List.mem_range'_1.mp hi).1) with ⟨_, hn⟩ | ⟨pre, a, post, _, h0, _, _⟩
  · intro i hi hA
    exact hn i (List.mem_range'_1.mpr ⟨hi, by have := hA.1; omega⟩) hA
  · rw [← Array.getElem?_toList, h] at h0
    cases h0
theorem range'_mid {p n a : Nat} {pre post : List Nat} (h : List.range' p n = pre ++ a :: post) : ∀ k, p ≤ k → k < a → k ∈ pre := by
  intro k hk1 hk2
  have hL : n = pre.length + (post.length + 1) := by
    have := congrArg List.length h
    simpa using this
  have hlen : p + pre.length = a := by
    have h1 : (List.range' p n)[pre.length]? = some a := by rw [h]; simp
    rw [List.getElem?_range'] at h1
    · simpa using h1
    · omega
  have h2 : (List.range' p n)[k - p]? = pre[k - p]? := by rw [h, List.getElem?_append_left (by omega)]
  rw [List.getElem?_range'] at h2
  · have h3 : pre[k - p]? = some k := by
      rw [← h2, Nat.one_mul]
      congr 1
      omega
    exact List.mem_of_getElem? h3
  · omega
theorem nxt_some {x y : Str} {p i : Nat} (hp : p ≤ x.length + 1) (h : nxt x y (p : Int) = some i) : p ≤ i ∧ At x y x.length i ∧ ∀ k, p ≤ k → k < i → ¬ At x y x.length k := by
  unfold nxt at h
  have e : fromIndex x.length (p : Int) = p := by unfold fromIndex; rw [if_neg (by omega)]; omega
  rw [e, occ_eq] at h
  rcases occ_first x y x.length 1 (Nat.le_refl 1) (List.range' p (x.length + 1 - p)) p (fun i hi => (List.mem_range'_1.mp hi).1) with ⟨h0, _⟩ | ⟨pre, a, post, e2, h0, hA, hn⟩
  · rw [h0] at h
    cases h
  · rw [← Array.getElem?_toList, ← List.head?_eq_getElem?, h] at h0
    injection h0 with h0
    subst h0
    refine ⟨?_, hA, fun k hk1 hk2 => hn k (range'_mid e2 k hk1 hk2)⟩
    have : i ∈ List.range' p (x.length + 1 - p) := by rw [e2]; simp
    exact (List.mem_range'_1.mp this).1
theorem filter_off {M : Nat → Bool} {p n : Nat} (h : ∀ i, p ≤ i → i < p + n → M i = false) : (List.range' p n).filter M = [] := by
  refine List.filter_eq_nil_iff.mpr fun i hi => ?_
  have := List.mem_range'_1.mp hi
  rw [h i this.1 this.2]
  decide
theorem filter_first {M : Nat → Bool} {p i m : Nat} (h0 : p ≤ i) (h1 : i ≤ m) (hi : M i = true) (h : ∀ k, p ≤ k → k < i → M k = false) : (List.range' p (m + 1 - p)).filter M = i :: (List.range' (i + 1) (m + 1 - (i + 1))).filter M := by
  have e : List.range' p (m + 1 - p) = List.range' p (i - p) ++ (i :: List.range' (i + 1) (m - i)) := by
    rw [show m + 1 - p = (i - p) + (m - i + 1) by omega, ← List.range'_append_1, List.range'_succ, show p + (i - p) = i by omega]
  rw [e, List.filter_append, filter_off (fun k a b => h k a (by omega)), List.nil_append, List.filter_cons_of_pos hi, show m + 1 - (i + 1) = m - i by omega]
/-- all places, nothing barred -/
theorem places_all {x y b : Str} {m : Nat} {M : Nat → Bool} (hb : b.cps.toList = []) (hm : m ≤ x.length) (hM : ∀ i, At x y x.length i ↔ i ≤ m ∧ M i = true) : ∀ (n p : Nat) (acc : List Int), m + 1 ≤ n + p → p ≤ m + 1 →
    placesFrom x y b n (p : Int) acc = acc ++ ((List.range' p (m + 1 - p)).filter M).map fun (i : Nat) => (i : Int) := by
  intro n
  induction n with
  | zero =>
    intro p acc h1 h2
    rw [show m + 1 - p = 0 by omega]
    show acc = _
    simp
  | succ n ih =>
    intro p acc h1 h2
    show (match nxt x y (p : Int) with
      | none => acc
      | some i => if ∀ c ∈ b.cps.toList, c ∉ (cutS x (p : Int) i).cps.toList then placesFrom x y b n (i + 1) (acc ++ [(i : Int)]) else acc) = _
    cases hx : nxt x y (p : Int) with
    | none =>
      have := nxt_none (by omega) hx
      rw [filter_off fun i a c => ?_]
      · simp
      · refine Bool.eq_false_iff.mpr fun hi => this i a ((hM i).mpr ⟨by omega, hi⟩)
    | some i =>
      obtain ⟨a1, a2, a3⟩ := nxt_some (by omega) hx
      obtain ⟨b1, b2⟩ := (hM i).mp a2
      dsimp only
      rw [if_pos (by rw [hb]; exact fun c hc => by cases hc), show ((i : Int) + 1) = ((i + 1 : Nat) : Int) by omega, ih (i + 1) _ (by omega) (by omega)]
      rw [filter_first a1 b1 b2 fun k c1 c2 => Bool.eq_false_iff.mpr fun hk => a3 k c1 c2 ((hM k).mpr ⟨by omega, hk⟩)]
      simp
/-- of the places those ahead of which the sign c stands nowhere but at such places; cn n: how often c stands ahead of n -/
noncomputable def nearFrom (cn : Nat → Nat) : Nat → List Nat → List Nat
  | _, [] => []
  | j, r :: R => if cn r = j then r :: nearFrom cn (j + 1) R else nearFrom cn (j + 1) R
theorem nearFrom_idx (cn : Nat → Nat) : ∀ (R : List Nat) (j : Nat), nearFrom cn j R = ((List.range R.length).filter fun i => decide (cn (R.getD i 0) = j + i)).map fun i => R.getD i 0
  | [], _ => rfl
  | r :: R, j => by
    rw [List.length_cons, List.range_succ_eq_map]
    have e : ((List.map Nat.succ (List.range R.length)).filter fun i => decide (cn ((r :: R).getD i 0) = j + i)).map (fun i => (r :: R).getD i 0) = nearFrom cn (j + 1) R := by
      rw [List.filter_map, List.map_map, nearFrom_idx cn R (j + 1)]
      have f1 : ((fun i => decide (cn ((r :: R).getD i 0) = j + i)) ∘ Nat.succ) = fun i => decide (cn (R.getD i 0) = j + 1 + i) := funext fun i => by
        show decide (cn (R.getD i 0) = j + (i + 1)) = _
        rw [show j + (i + 1) = j + 1 + i by omega]
      have f2 : ((fun i => (r :: R).getD i 0) ∘ Nat.succ) = fun i => R.getD i 0 := rfl
      rw [f1, f2]
    show (if cn r = j then r :: nearFrom cn (j + 1) R else nearFrom cn (j + 1) R) = _
    by_cases h : cn r = j
    · rw [if_pos h, List.filter_cons_of_pos (by exact decide_eq_true h), List.map_cons, e]
      rfl
    · rw [if_neg h, List.filter_cons_of_neg (by simpa using h), e]
/-- how often c stands in the first n of l -/
noncomputable def cnT (c : Nat) (l : List Nat) (n : Nat) : Nat := (l.take n).count c
theorem cnT_split {c : Nat} {l : List Nat} {p i : Nat} (h : p ≤ i) : cnT c l i = cnT c l p + ((l.drop p).take (i - p)).count c := by
  unfold cnT
  rw [← List.count_append]
  congr 1
  rw [show i = p + (i - p) by omega, List.take_add, show p + (i - p) - p = i - p by omega]
theorem cnT_succ {c : Nat} {l : List Nat} {i : Nat} (h : l[i]? = some c) : cnT c l (i + 1) = cnT c l i + 1 := by
  rw [cnT_split (Nat.le_succ i)]
  have e : (l.drop i).take (i + 1 - i) = [c] := by
    rw [show i + 1 - i = 1 by omega]
    have hlt := (List.getElem?_eq_some_iff.mp h).1
    rw [List.drop_eq_getElem_cons hlt, (List.getElem?_eq_some_iff.mp h).2]
    rfl
  rw [e]
  simp
theorem near_stuck {c : Nat} {l : List Nat} : ∀ (R : List Nat) (j p : Nat), (∀ r ∈ R, p ≤ r ∧ l[r]? = some c) → R.Pairwise (· < ·) → j < cnT c l p → nearFrom (cnT c l) j R = []
  | [], _, _, _, _, _ => rfl
  | r :: R, j, p, h1, h2, h3 => by
    have hr := h1 r (.head _)
    have h4 : j < cnT c l r := by
      rw [cnT_split hr.1]
      omega
    show (if cnT c l r = j then _ else _) = _
    rw [if_neg (by omega)]
    have h5 := List.pairwise_cons.mp h2
    refine near_stuck R (j + 1) (r + 1) (fun q hq => ⟨h5.1 q hq, (h1 q (.tail _ hq)).2⟩) h5.2 ?_
    rw [cnT_succ hr.2]
    omega
theorem cutS_list {x : Str} {p i : Nat} (h0 : p ≤ i) (h1 : i ≤ x.length) : (cutS x (p : Int) (i : Int)).cps.toList = (x.cps.toList.drop p).take (i - p) := by
  have := eq_of_beq (slice_closesL (x := x) (i := (p : Int)) (j := (i : Int)) (by omega) (by omega) (by omega))
  show (Txt.slice x (some (p : Int)) (some (i : Int))).cps.toList = _
  rw [this]
  show (List.take ((i : Int) - (p : Int)).toNat (List.drop (Int.toNat (p : Int)) x.cps.toList)) = _
  rw [Int.toNat_natCast, show ((i : Int) - (p : Int)).toNat = i - p by omega]
theorem filter_sorted (M : Nat → Bool) (p n : Nat) : ((List.range' p n).filter M).Pairwise (· < ·) := List.Pairwise.filter _ (List.pairwise_lt_range' ..)
/-- with the sign c barred -/
theorem places_near {x y b : Str} {m c : Nat} {M : Nat → Bool} (hb : b.cps.toList = [c]) (hm : m ≤ x.length) (hM : ∀ i, At x y x.length i ↔ i ≤ m ∧ M i = true) (hc : ∀ i, M i = true → i ≤ m → x.cps.toList[i]? = some c) :
    ∀ (n p j : Nat) (acc : List Int), m + 1 ≤ n + p → p ≤ m + 1 → cnT c x.cps.toList p = j →
    placesFrom x y b n (p : Int) acc = acc ++ (nearFrom (cnT c x.cps.toList) j ((List.range' p (m + 1 - p)).filter M)).map fun (i : Nat) => (i : Int) := by
  intro n
  induction n with
  | zero =>
    intro p j acc h1 h2 h3
    rw [show m + 1 - p = 0 by omega]
    show acc = _
    simp [nearFrom]
  | succ n ih =>
    intro p j acc h1 h2 h3
    show (match nxt x y (p : Int) with
      | none => acc
      | some i => if ∀ c ∈ b.cps.toList, c ∉ (cutS x (p : Int) i).cps.toList then placesFrom x y b n (i + 1) (acc ++ [(i : Int)]) else acc) = _
    cases hx : nxt x y (p : Int) with
    | none =>
      have := nxt_none (by omega) hx
      rw [filter_off fun i a c => ?_]
      · simp [nearFrom]
      · refine Bool.eq_false_iff.mpr fun hi => this i a ((hM i).mpr ⟨by omega, hi⟩)
    | some i =>
      obtain ⟨a1, a2, a3⟩ := nxt_some (by omega) hx
      obtain ⟨b1, b2⟩ := (hM i).mp a2
      have hci := hc i b2 b1
      dsimp only
      rw [hb, cutS_list a1 (by omega)]
      rw [filter_first a1 b1 b2 fun k c1 c2 => Bool.eq_false_iff.mpr fun hk => a3 k c1 c2 ((hM k).mpr ⟨by omega, hk⟩)]
      have hs := cnT_split (c := c) (l := x.cps.toList) a1
      show _ = acc ++ List.map _ (if cnT c x.cps.toList i = j then i :: nearFrom (cnT c x.cps.toList) (j + 1) ((List.range' (i + 1) (m + 1 - (i + 1))).filter M) else nearFrom (cnT c x.cps.toList) (j + 1) ((List.range' (i + 1) (m + 1 - (i + 1))).filter M))
      by_cases hfree : c ∈ (x.cps.toList.drop p).take (i - p)
      · have hpos : 0 < ((x.cps.toList.drop p).take (i - p)).count c := List.count_pos_iff.mpr hfree
        rw [if_neg (fun h => h c (by simp) hfree), if_neg (by omega), near_stuck (c := c) _ (j + 1) (i + 1) ?_ (filter_sorted _ _ _) ?_]
        · simp
        · intro r hr
          obtain ⟨g1, g2⟩ := List.mem_filter.mp hr
          have g3 := List.mem_range'_1.mp g1
          exact ⟨g3.1, hc r g2 (by omega)⟩
        · rw [cnT_succ hci]
          omega
      · have hz : ((x.cps.toList.drop p).take (i - p)).count c = 0 := List.count_eq_zero.mpr hfree
        have hj : cnT c x.cps.toList i = j := by omega
        rw [if_pos (fun d hd => by rw [List.mem_singleton.mp hd]; exact hfree), if_pos hj, show ((i : Int) + 1) = ((i + 1 : Nat) : Int) by omega, ih (i + 1) (j + 1) _ (by omega) (by omega) (by rw [cnT_succ hci, hj])]
        simp
end Mine
end
section
namespace Mine
theorem fresh_Fo1 : True := by
  w_top off
  trivial
end Mine
open PySem PySem.W PyProof.Rows PySem.Spec PySem.Calls
set_option Elab.async false
set_option maxRecDepth 100000
namespace Mine
section
variable {prog : Program} {w : World} {A : Around} {E : Value → Shared → Prop} {s : Shared} {env : Env} {h₀ : Heap} {target : Expr} {body : List Stmt} {Q : Flow → Shared → Prop}
theorem letGo_range {I : Addr} {x y z : Int} {v : Value} {Q' : Unit → Shared → Prop} {s' : Shared} (hit : IsRangeIter s'.heap I x y z) (h : Q' () s') : wpAny (model prog w) A (letOwnedTupleGo target (.ref I) v) Q' E s' := by
  unfold letOwnedTupleGo
  cases target <;> first
    | exact wpAny_pure h
    | (cases v <;> first
        | exact wpAny_pure h
        | (refine wpAny_bind (wpAny_load hit ?_)
           exact wpAny_pure h))
theorem walks_lt {I : Addr} {fp wr : List Addr} {n : Nat} {P : Nat → Value → Prop} {St : Nat → Heap → Prop} (W : Walks prog w A I fp wr n P St) : Walks prog w A I fp wr n (fun i v => i < n ∧ P i v) St :=
  { sub := W.sub, frame := W.frame, done := W.done, self := W.self, item := fun i s Q E hi st hQ => W.item i s Q E hi st fun v h' tk hP => hQ v h' tk ⟨hi, hP⟩ }
noncomputable abbrev rangeItems (a : Int) (n : Nat) : List Itm := (List.range n).map fun (i : Nat) => Itm.tok fun t => .int (a + (i : Int) * 1) t
theorem iter_rangeTurns {r : Addr} {a b : Int} {n : Nat} {t u v : Tok} {m₀ : Str → Option Value} {news : List (Addr × Obj)}
    (hh : A.handled = none) (F : Fr h₀ env.locals s.heap m₀) (N : News h₀ env.locals s.heap news) (hr : IsRange s.heap r a b 1 t u v) (hn : Builtin.Range.rangeSize a b 1 = n) (hsmall : Builtin.Range.small a b 1 = true)
    (rest₀ : ∀ I : Addr, (∀ p ∈ news, p.1 < I) → ItemsRest prog w A E h₀ env target body Q s [(I, "range_iterator")] [] (rangeItems a n) m₀ news) :
    wpAny (model prog w) A (pyIter (.ref r)) (fun it s₂ => TurnsAt prog w A h₀ env target body Q E it s₂) E s := by
  refine wpAny_pyIter_range hr hsmall ?_
  rw [hn]
  refine ktu_core (tk0 := s.toks) (keep := []) (KTurns.ofWalks (walks_lt (Walks.range hh s.heap.objs.size a 1 n)) fun i v s Q E st q => letGo_range st q) (by simp) (fun i v h hp => ?_) (fun i h st => ?_) (fun b hb => ?_) (fun b hb => by simpa using hb) (fun b hb => ?_) ?_ (fun p hp hI => ?_) ?_ (F.push _) (fun p hp => ⟨Heap.get?_push_of_some _ (N p hp).1, (N p hp).2⟩) trivial (rest₀ _ fun p hp => Heap.lt_size (N p hp).1)
  · obtain ⟨hi, t, rfl⟩ := hp
    refine ⟨Itm.tok fun t => .int (a + (i : Int) * 1) t, ?_, t, rfl⟩
    rw [List.getElem?_map, List.getElem?_range hi]; rfl
  · exact ⟨[(s.heap.objs.size, _)], ⟨⟨rfl, rfl⟩, trivial⟩, fun p hp => by rw [List.mem_singleton.mp hp]; exact st⟩
  · have hb' : b = s.heap.objs.size := by simpa using hb
    rw [hb']
    exact ⟨List.mem_cons_self .., next_is_new F⟩
  · exact .inl (by simpa using hb)
  · intro hI
    exact absurd F.ns.lt ((List.mem_singleton.mp hI) ▸ Nat.lt_irrefl _)
  · exact absurd (Heap.lt_size (N p hp).1) ((List.mem_singleton.mp hI) ▸ Nat.lt_irrefl _)
  · show IsRangeIter _ _ _ _ _
    simpa using Heap.get?_push_size _ rfl
/-- how one turn of a loop ends -/
noncomputable def TurnEnd (h₀ : Heap) (L : Addr) (s : Shared) (I : Addr) (o : Obj) (J : (Str → Option Value) → List (Addr × Obj) → Prop) (f : Flow) (s₃ : Shared) : Prop :=
  f = .next ∧ ∃ h' tk' m' news', s₃ = { s with heap := h', toks := tk' } ∧ Fr h₀ L h' m' ∧ News h₀ L h' ((I, o) :: news') ∧ (∀ p ∈ news', p.1 ≠ I) ∧ J m' news'
theorem TurnEnd.intro {L I : Addr} {o : Obj} {J : (Str → Option Value) → List (Addr × Obj) → Prop} {h' : Heap} {tk' : Nat} {m' : Str → Option Value} {news' : List (Addr × Obj)} (F : Fr h₀ L h' m') (N : News h₀ L h' ((I, o) :: news')) (hn : ∀ p ∈ news', p.1 ≠ I) (j : J m' news') :
    TurnEnd h₀ L s I o J .next { s with heap := h', toks := tk' } := ⟨rfl, h', tk', m', news', rfl, F, N, hn, j⟩
theorem items_ind {I : Addr} {cls : String} {keep : List (Addr × Obj)} {α : Type} (it : α → Itm) (Inv : List α → (Str → Option Value) → List (Addr × Obj) → Prop) (hk : ∀ l m n, Inv l m n → SubL keep n)
    (step : ∀ (a : α) (r : List α) m news, Inv (a :: r) m news → ∀ v h tk, (it a).Is v h → Fr h₀ env.locals h m → ∀ o : Obj, o.cls = .type cls → News h₀ env.locals h ((I, o) :: news) →
      wpAny (model prog w) A (assign target env v) (fun _ s₂ => wpAny (model prog w) A (execs body env) (TurnEnd h₀ env.locals { s with heap := h, toks := tk } I o (Inv r)) E s₂) E { s with heap := h, toks := tk })
    (last : ∀ m news, Inv [] m news → ∀ h tk, Fr h₀ env.locals h m → News h₀ env.locals h news → Q .next { s with heap := h, toks := tk }) :
    ∀ (l : List α) (m : Str → Option Value) (news : List (Addr × Obj)), Inv l m news → ItemsRest prog w A E h₀ env target body Q s [(I, cls)] keep (l.map it) m news
  | [], m, news, hI => last m news hI
  | a :: r, m, news, hI => fun v h tk hv F => AllObj.cons fun o ho => AllObj.nil fun N =>
      wpAny_mono (step a r m news hI v h tk hv F o ho N) (fun _ s₂ h₂ => wpAny_mono h₂ (fun f s₃ h₃ => by
        obtain ⟨rfl, h', tk', m', news', rfl, F', N', hn, hJ⟩ := h₃
        exact ⟨h', tk', m', news', rfl, F', N', fun p hp q hq => by rw [List.mem_singleton.mp hq]; exact hn p hp, hk _ _ _ hJ, items_ind it Inv hk step last r m' news' hJ⟩) fun _ _ x => x) fun _ _ x => x
/-- a loop over range(n), by an invariant -/
theorem items_range {I : Addr} {a : Int} {n : Nat} {m : Str → Option Value} {news : List (Addr × Obj)} (Inv : Nat → (Str → Option Value) → List (Addr × Obj) → Prop) (h0 : Inv 0 m news)
    (step : ∀ (j : Nat) m news, j < n → Inv j m news → ∀ t h tk, Fr h₀ env.locals h m → ∀ o : Obj, o.cls = .type "range_iterator" → News h₀ env.locals h ((I, o) :: news) →
      wpAny (model prog w) A (assign target env (.int (a + (j : Int) * 1) t)) (fun _ s₂ => wpAny (model prog w) A (execs body env) (TurnEnd h₀ env.locals { s with heap := h, toks := tk } I o (Inv (j + 1))) E s₂) E { s with heap := h, toks := tk })
    (last : ∀ m news, Inv n m news → ∀ h tk, Fr h₀ env.locals h m → News h₀ env.locals h news → Q .next { s with heap := h, toks := tk }) :
    ItemsRest prog w A E h₀ env target body Q s [(I, "range_iterator")] [] (rangeItems a n) m news := by
  refine items_ind (α := Nat) (keep := []) (fun (i : Nat) => Itm.tok fun t => .int (a + (i : Int) * 1) t) (fun l m news => ∃ j, l = List.range' j (n - j) ∧ j ≤ n ∧ Inv j m news) (fun _ _ _ _ => trivial) ?_ ?_ (List.range n) m news ⟨0, by rw [List.range_eq_range']; rfl, Nat.zero_le _, h0⟩
  · rintro b r m news ⟨j, e, hj, hI⟩ v h tk ⟨t, rfl⟩ F o ho N
    have hlt : j < n := by
      refine Nat.lt_of_not_le fun z => ?_
      rw [show n - j = 0 by omega] at e
      cases e
    rw [show n - j = (n - (j + 1)) + 1 by omega, List.range'_succ] at e
    injection e with e1 e2
    subst e1
    refine wpAny_mono (step b m news hlt hI t h tk F o ho N) (fun _ s₂ h₂ => wpAny_mono h₂ (fun f s₃ h₃ => ?_) fun _ _ x => x) fun _ _ x => x
    obtain ⟨e, h', tk', m', news', e', F', N', hn, hJ⟩ := h₃
    exact ⟨e, h', tk', m', news', e', F', N', hn, b + 1, e2, hlt, hJ⟩
  · rintro m news ⟨j, e, hj, hI⟩
    have : j = n := by
      have := congrArg List.length e
      simp at this
      omega
    subst this
    exact last m news hI
theorem fdiv_of_mul {a b : Int} {n : Nat} (h : b * n = a) (hb : 0 < b) : a.fdiv b = n := by
  rw [Int.fdiv_eq_ediv_of_nonneg _ (Int.le_of_lt hb), ← h, Int.mul_ediv_cancel_left _ (by omega)]
theorem size_range (n : Nat) : Builtin.Range.rangeSize 0 (n : Int) 1 = n := by
  unfold Builtin.Range.rangeSize
  rw [if_pos (by decide)]
  split <;> omega
theorem fits_small {i : Int} (h : 0 ≤ i) (h2 : i ≤ 2000) : Builtin.Range.rangeFitsLong i = true := by
  unfold Builtin.Range.rangeFitsLong
  rw [show (2 : Int) ^ 63 = 9223372036854775808 from rfl]
  rw [Bool.and_eq_true, decide_eq_true_eq, decide_eq_true_eq]
  omega
theorem small_range {n : Nat} (h : n ≤ 1000) : Builtin.Range.small 0 (n : Int) 1 = true := by
  unfold Builtin.Range.small
  rw [size_range, fits_small (i := 0) (by decide) (by decide), fits_small (i := (n : Int)) (by omega) (by omega), fits_small (i := 1) (by decide) (by decide), if_pos (by decide), fits_small (i := (n : Int) + (1 - 1)) (by omega) (by omega)]
  simp
theorem whl_ind {test : PySem.Expr} {orelse : List Stmt} {g : Heap} {L : Addr} (Inv : Nat → (Str → Option Value) → List (Addr × Obj) → Prop)
    (step : ∀ n m news h tk, Inv n m news → Fr g L h m → News g L h news → (∀ n', n' < n → ∀ m' news' h' tk', Inv n' m' news' → Fr g L h' m' → News g L h' news' → WhlRest prog w A E env test body orelse Q 0 { s with heap := h', toks := tk' }) →
      WhlRest prog w A E env test body orelse Q 1 { s with heap := h, toks := tk }) :
    ∀ n m news h tk, Inv n m news → Fr g L h m → News g L h news → WhlRest prog w A E env test body orelse Q 1 { s with heap := h, toks := tk } := by
  intro n
  induction n using Nat.strongRecOn with
  | ind n ih => exact fun m news h tk hI F N => step n m news h tk hI F N fun n' hn m' news' h' tk' hI' F' N' => ih n' hn m' news' h' tk' hI' F' N'
end
end Mine
end
section
namespace Mine
theorem fresh_Fo2 : True := by
  w_top off
  trivial
end Mine
open PySem PySem.W PyProof.Rows PySem.Spec PySem.Calls
set_option Elab.async false
set_option maxRecDepth 100000
namespace Mine
theorem off_map {news news' : List (Addr × Obj)} {I : Addr} (hI : ∀ p ∈ news, p.1 < I) (e : news'.map (·.1) = news.map (·.1)) : ∀ p ∈ news', p.1 ≠ I := fun p hp => by
  have : p.1 ∈ news'.map (·.1) := List.mem_map_of_mem hp
  rw [e] at this
  obtain ⟨q, hq, z⟩ := List.mem_map.mp this
  rw [← z]
  exact Nat.ne_of_lt (hI q hq)
theorem news_drop2 {h₀ h : Heap} {L : Addr} {a b : Addr × Obj} {r : List (Addr × Obj)} (N : News h₀ L h (a :: b :: r)) : News h₀ L h r := fun p hp => N p (.tail _ (.tail _ hp))
section
variable {prog : Program} {w : World} {A : Around} {E : Value → Shared → Prop} {s : Shared} {env : Env} {h₀ : Heap} {target : Expr} {body : List Stmt} {Q : Flow → Shared → Prop}
  {a7 a6 a5 a4 a3 : Addr × Obj} {ka ra : Addr} {post : List (Addr × Obj)} {m : Str → Option Value}
noncomputable def RingEnd (h₀ : Heap) (L : Addr) (s : Shared) (m : Str → Option Value) (I : Addr) (o : Obj) (a7 a6 a5 a4 a3 : Addr × Obj) (ka ra : Addr) (post : List (Addr × Obj)) (B : Int) (f : Flow) (s₃ : Shared) : Prop :=
  f = .next ∧ ∃ h' tk' ok og vk x tx, s₃ = { s with heap := h', toks := tk' } ∧ Fr h₀ L h' m ∧ News h₀ L h' ((I, o) :: a7 :: a6 :: a5 :: a4 :: a3 :: (ka, ok) :: (ra, og) :: post) ∧ ok.data = Data.cell vk ∧ og.data = Data.cell (some (.int x tx)) ∧ 0 ≤ x ∧ x < B
theorem ring_loop {r : Addr} {b : Int} {n : Nat} {t u v : Tok} {ok og : Obj} {vk : Option Value} {t0 : Tok} {sz : Int} {L : Addr} (hL : env.locals = L)
    (hh : A.handled = none) (F : Fr h₀ L s.heap m) (N : News h₀ L s.heap (a7 :: a6 :: a5 :: a4 :: a3 :: (ka, ok) :: (ra, og) :: post)) (hr : IsRange s.heap r 0 b 1 t u v) (hb : b = n) (hn : n ≤ 1000)
    (hok : ok.data = Data.cell vk) (hog : og.data = Data.cell (some (.int 0 t0)))
    (step : ∀ (I : Addr) (j : Nat) (x : Int) (tx t : Tok) (h : Heap) (tk : Nat) (ok og : Obj) (vk : Option Value) (o : Obj), j < n → 0 ≤ x → x < 2 ^ (sz.toNat * j) → ok.data = Data.cell vk → og.data = Data.cell (some (.int x tx)) → o.cls = .type "range_iterator" → Fr h₀ L h m →
      News h₀ L h ((I, o) :: a7 :: a6 :: a5 :: a4 :: a3 :: (ka, ok) :: (ra, og) :: post) → (∀ p ∈ a7 :: a6 :: a5 :: a4 :: a3 :: (ka, ok) :: (ra, og) :: post, p.1 < I) →
      wpAny (model prog w) A (assign target env (.int (0 + (j : Int) * 1) t)) (fun _ s₂ => wpAny (model prog w) A (execs body env) (RingEnd h₀ L { s with heap := h, toks := tk } m I o a7 a6 a5 a4 a3 ka ra post (2 ^ (sz.toNat * (j + 1)))) E s₂) E { s with heap := h, toks := tk })
    (last : ∀ (x : Int) (tx : Tok) (ok og : Obj) (vk : Option Value), 0 ≤ x → x < 2 ^ (sz.toNat * n) → ok.data = Data.cell vk → og.data = Data.cell (some (.int x tx)) → ∀ h tk, Fr h₀ L h m → News h₀ L h (a7 :: a6 :: a5 :: a4 :: a3 :: (ka, ok) :: (ra, og) :: post) → Q .next { s with heap := h, toks := tk }) :
    wpAny (model prog w) A (pyIter (.ref r)) (fun it s₂ => TurnsAt prog w A h₀ env target body Q E it s₂) E s := by
  subst hL
  subst hb
  refine iter_rangeTurns hh F N hr (size_range n) (small_range hn) fun I hI => ?_
  refine items_range (fun j m' news' => m' = m ∧ ∃ ok og vk x tx, news' = a7 :: a6 :: a5 :: a4 :: a3 :: (ka, ok) :: (ra, og) :: post ∧ ok.data = Data.cell vk ∧ og.data = Data.cell (some (.int x tx)) ∧ 0 ≤ x ∧ x < 2 ^ (sz.toNat * j)) ⟨rfl, ok, og, vk, 0, t0, rfl, hok, hog, Int.le_refl _, by rw [Nat.mul_zero]; decide⟩ ?_ ?_
  · rintro j m' news' hj ⟨rfl, ok, og, vk, x, tx, rfl, d1, d2, x0, x1⟩ t h tk F o ho N
    refine wpAny_mono (step I j x tx t h tk ok og vk o hj x0 x1 d1 d2 ho F N (fun p hp => ?_)) (fun _ s₂ h₂ => wpAny_mono h₂ (fun f s₃ h₃ => ?_) fun _ _ x => x) fun _ _ x => x
    · have hm : p.1 ∈ (a7 :: a6 :: a5 :: a4 :: a3 :: (ka, ok) :: (ra, og) :: post).map (·.1) := List.mem_map_of_mem hp
      obtain ⟨q, hq, z⟩ := List.mem_map.mp hm
      rw [← z]
      simp only [List.mem_cons] at hq
      rcases hq with rfl | rfl | rfl | rfl | rfl | rfl | rfl | hq
      · exact hI _ (by simp)
      · exact hI _ (by simp)
      · exact hI _ (by simp)
      · exact hI _ (by simp)
      · exact hI _ (by simp)
      · have := hI _ (.tail _ (.tail _ (.tail _ (.tail _ (.tail _ (.head _))))))
        exact this
      · have := hI _ (.tail _ (.tail _ (.tail _ (.tail _ (.tail _ (.tail _ (.head _)))))))
        exact this
      · exact hI _ (.tail _ (.tail _ (.tail _ (.tail _ (.tail _ (.tail _ (.tail _ hq)))))))
    · obtain ⟨rfl, h', tk', ok', og', vk', x', tx', rfl, F', N', e1, e2, e3, e4⟩ := h₃
      exact TurnEnd.intro F' N' (off_map hI rfl) ⟨rfl, ok', og', vk', x', tx', rfl, e1, e2, e3, e4⟩
  · rintro m' news' ⟨rfl, ok, og, vk, x, tx, rfl, d1, d2, x0, x1⟩ h tk F N
    exact last x tx ok og vk x0 x1 d1 d2 h tk F N
theorem pow_le48 {e : Nat} (h : e ≤ 48) : (2 : Int) ^ e ≤ 281474976710656 := by
  have : (2 : Nat) ^ e ≤ 2 ^ 48 := Nat.pow_le_pow_right (by decide) h
  have e2 : (2 : Nat) ^ 48 = 281474976710656 := by decide
  have e3 : ((2 ^ e : Nat) : Int) = 2 ^ e := by simp
  omega
theorem nat48 {sz : Int} {n : Nat} (h : sz * n = 48) (h0 : 0 < sz) : sz.toNat * n = 48 := by
  have : ((sz.toNat * n : Nat) : Int) = 48 := by
    rw [Int.natCast_mul, Int.toNat_of_nonneg (Int.le_of_lt h0)]; exact h
  omega
theorem pow_step {x sz p : Int} {j : Nat} (h0 : 0 ≤ x) (h1 : x < 2 ^ (sz.toNat * j)) (hp : 0 ≤ p) (hp2 : p < 2 ^ sz.toNat) : 0 ≤ x * 2 ^ sz.toNat + p ∧ x * 2 ^ sz.toNat + p < 2 ^ (sz.toNat * (j + 1)) := by
  rw [Nat.mul_succ, Int.pow_add]
  generalize (2 : Int) ^ (sz.toNat * j) = a at h1 ⊢
  have hb : (0 : Int) < 2 ^ sz.toNat := Int.pow_pos (by decide)
  generalize (2 : Int) ^ sz.toNat = b at hb hp2 ⊢
  refine ⟨Int.add_nonneg (Int.mul_nonneg h0 (Int.le_of_lt hb)) hp, ?_⟩
  have : (x + 1) * b ≤ a * b := Int.mul_le_mul_of_nonneg_right (by omega) (Int.le_of_lt hb)
  rw [Int.add_mul, Int.one_mul] at this
  omega
end
end Mine
end
section
namespace Mine
theorem fresh_Fo3 : True := by
  w_top off
  trivial
end Mine
open PySem PySem.W PyProof.Rows PySem.Spec PySem.Calls
set_option Elab.async false
set_option maxRecDepth 100000
namespace Mine
section
variable {prog : Program} {w : World} {A : Around} {E : Value → Shared → Prop} {s : Shared} {env : Env} {g : Heap} {body orelse : List Stmt} {Q : Flow → Shared → Prop} {test : PySem.Expr}
  {a7 a6 a5 a4 : Addr × Obj} {la : Addr} {rest : List (Addr × Obj)} {m : Str → Option Value} {L : Addr}
theorem least_loop {x : Int} {ol : Obj} {t : Tok} (x0 : 0 ≤ x) (x1 : x < 281474976710656) (F : Fr g L s.heap m) (N : News g L s.heap (a7 :: a6 :: a5 :: a4 :: (la, ol) :: rest)) (hd : ol.data = Data.cell (some (.int 1 t)))
    (more : ∀ (l : Int) (t : Tok) (ol : Obj) (h : Heap) (tk : Nat), 1 ≤ l → l < 48 → turned x l ≠ x → ol.data = Data.cell (some (.int l t)) → Fr g L h m → News g L h (a7 :: a6 :: a5 :: a4 :: (la, ol) :: rest) →
      (∀ (h' : Heap) (tk' : Nat) (ol' : Obj) (t' : Tok), Fr g L h' m → News g L h' (a7 :: a6 :: a5 :: a4 :: (la, ol') :: rest) → ol'.data = Data.cell (some (.int (l + 1) t')) → WhlRest prog w A E env test body orelse Q 0 { s with heap := h', toks := tk' }) →
      WhlRest prog w A E env test body orelse Q 1 { s with heap := h, toks := tk })
    (last : ∀ (l : Int) (t : Tok) (ol : Obj) (h : Heap) (tk : Nat), 1 ≤ l → l ≤ 48 → turned x l = x → (∀ j, 1 ≤ j → j < l → turned x j ≠ x) → ol.data = Data.cell (some (.int l t)) → Fr g L h m → News g L h (a7 :: a6 :: a5 :: a4 :: (la, ol) :: rest) →
      WhlRest prog w A E env test body orelse Q 1 { s with heap := h, toks := tk }) : WhlRest prog w A E env test body orelse Q 1 s := by
  refine whl_ind (fun k m' news' => m' = m ∧ ∃ ol t l, news' = a7 :: a6 :: a5 :: a4 :: (la, ol) :: rest ∧ ol.data = Data.cell (some (.int l t)) ∧ 1 ≤ l ∧ l + (k : Int) = 48 ∧ ∀ j, 1 ≤ j → j < l → turned x j ≠ x) ?_ 47 m _ s.heap s.toks ⟨rfl, ol, t, 1, rfl, hd, Int.le_refl _, rfl, fun j h1 h2 => by omega⟩ F N
  rintro k m' news' h tk ⟨rfl, ol, t, l, rfl, hd, l1, l2, hj⟩ F N next
  by_cases hq : turned x l = x
  · exact last l t ol h tk l1 (by omega) hq hj hd F N
  · have l3 : l < 48 := by
      rcases (by omega : l < 48 ∨ l = 48) with z | z
      · exact z
      · exact absurd (z ▸ turned_48 x0 x1) hq
    refine more l t ol h tk l1 l3 hq hd F N fun h' tk' ol' t' F' N' hd' => next (k - 1) (by omega) _ _ h' tk' ⟨rfl, ol', t', l + 1, rfl, hd', by omega, by omega, fun j h1 h2 => ?_⟩ F' N'
    rcases (by omega : j < l ∨ j = l) with z | z
    · exact hj j h1 z
    · rw [z]; exact hq
end
end Mine
end
section
namespace Mine
theorem fresh_Fo4 : True := by
  w_top off
  trivial
end Mine
open PySem PySem.W PyProof.Rows PySem.Spec PySem.Calls PyProof.Rows.LCg
set_option Elab.async false
set_option maxRecDepth 100000
namespace Mine
section
variable {prog : Program} {w : World} {A : Around} {s : Shared} {h₀ : Heap} {L : Addr} {m : Str → Option Value} {env : Env} {ct elt : Expr} {x : Str} {scope : Scope} {cl : List (Str × Addr)}
  {S : List (Addr × Obj) → Prop} {P : Nat → Value → Prop} {Fin : List Value → List (Addr × Obj) → Prop} {news : List (Addr × Obj)}
theorem pow2_ne (e : Nat) : (2 : Int) ^ e ≠ 0 := Int.ne_of_gt (Int.pow_pos (by decide))
theorem noPylong_pow {a : Int} {e : Nat} (h : e ≤ 1000) : Builtin.divisionGoesByPylong a (2 ^ e) = false := PyProof.noPylong_of_log2 (by
  have e1 : ((2 : Int) ^ e).natAbs = 2 ^ e := by rw [Int.natAbs_pow]; rfl
  rw [e1, Nat.log2_two_pow]; omega)
theorem holdP {P : Prop} (h : Hold P) : P := h
/-- how one turn of a comprehension ends -/
noncomputable def CpEnd (h₀ : Heap) (L : Addr) (m : Str → Option Value) (s : Shared) (all : List (Addr × Obj)) (R : Value → Prop) (y : Value) (s₂ : Shared) : Prop :=
  R y ∧ ∃ h' tk', s₂ = { s with heap := h', toks := tk' } ∧ Fr h₀ L h' m ∧ News h₀ L h' all
theorem CpEnd.intro {all : List (Addr × Obj)} {R : Value → Prop} {y : Value} {h' : Heap} {tk' : Nat} (F : Fr h₀ L h' m) (N : News h₀ L h' all) (r : R y) : CpEnd h₀ L m s all R y { s with heap := h', toks := tk' } := ⟨r, h', tk', rfl, F, N⟩
theorem comp_ind (R : Nat → Value → Prop) (hS : S news) {n : Nat}
    (step : ∀ i v I oI C oC D ys m₂ h tk (E' : Value → Shared → Prop), i < n → P i v → NsObj oC m₂ → m₂ x = some v → Fr h₀ L h m → News h₀ L h ((I, oI) :: (C, oC) :: (D, LCg.lst ys) :: news) → LCg.Off3 I C D news →
      wpAny (model prog w) A (eval elt (compEnvC scope cl C env)) (CpEnd h₀ L m { s with heap := h, toks := tk } ((I, oI) :: (C, oC) :: (D, LCg.lst ys) :: news) (R i)) E' { s with heap := h, toks := tk })
    (last : ∀ ys : List Value, ys.length = n → (∀ i v, ys[i]? = some v → R i v) → Fin ys news) : LCg.CompRest prog w A h₀ L m env elt x scope cl s S P Fin n 0 [] news := by
  have all : ∀ k i ys, i + k = n → ys.length = i → (∀ i v, ys[i]? = some v → R i v) → LCg.CompRest prog w A h₀ L m env elt x scope cl s S P Fin k i ys news := by
    intro k
    induction k with
    | zero => exact fun i ys hi hl hR => last ys (by omega) hR
    | succ k ih =>
      intro i ys hi hl hR v I oI C oC D m₂ h tk E' hP hC hx F N off ne
      refine wpAny_mono (step i v I oI C oC D ys m₂ h tk E' (by omega) hP hC hx F N off) (fun y s₂ h₂ => ?_) fun _ _ x => x
      obtain ⟨r, h', tk', rfl, F', N'⟩ := h₂
      refine ⟨h', tk', news, rfl, F', N', off, hS, ih (i + 1) (ys ++ [y]) (by omega) (by simp [hl]) fun j u hj => ?_⟩
      rcases Nat.lt_or_ge j ys.length with z | z
      · exact hR j u (by rwa [List.getElem?_append_left z] at hj)
      · rw [List.getElem?_append_right z] at hj
        have : j - ys.length = 0 := by
          refine Nat.le_antisymm (Nat.le_of_lt_succ ?_) (Nat.zero_le _)
          have := (List.getElem?_eq_some_iff.mp hj).1
          simpa using this
        rw [this] at hj
        injection hj with hj
        rw [← hj, show j = i by omega]; exact r
  exact all n 0 [] (by omega) rfl fun i v h => by cases h
theorem range_keep (p : Nat → Bool) (i : Nat) : (List.range (i + 1)).filter p = (List.range i).filter p ++ (if p i = true then [i] else []) := by
  rw [List.range_succ, List.filter_append]
  congr 1
  simp only [List.filter_cons, List.filter_nil]
/-- how a comprehension's test ends -/
noncomputable def TEnd (b : Bool) (P1 P0 : Shared → Prop) (ok : Bool) (s' : Shared) : Prop := ok = b ∧ (b = true → P1 s') ∧ (b = false → P0 s')
/-- a comprehension with a test: what is kept -/
theorem comp_indT (p : Nat → Bool) (f : Nat → Int) (hS : S news) {n : Nat}
    (step : ∀ i v I oI C oC D ys m₂ h tk (E' : Value → Shared → Prop), i < n → P i v → NsObj oC m₂ → m₂ x = some v → Fr h₀ L h m → News h₀ L h ((I, oI) :: (C, oC) :: (D, LCg.lst ys) :: news) → LCg.Off3 I C D news →
      wpAny (model prog w) A (isTrue ct (compEnvC scope cl C env) (eval ct (compEnvC scope cl C env))) (TEnd (p i) (fun s' => 
        wpAny (model prog w) A (eval elt (compEnvC scope cl C env)) (CpEnd h₀ L m { s with heap := h, toks := tk } ((I, oI) :: (C, oC) :: (D, LCg.lst ys) :: news) (fun v => ∃ t, v = .int (f i) t)) E' s')
        (fun s' => CpEnd h₀ L m { s with heap := h, toks := tk } ((I, oI) :: (C, oC) :: (D, LCg.lst ys) :: news) (fun _ => True) Value.none s')) E' { s with heap := h, toks := tk })
    (last : ∀ ys : List Value, IntsAre ys (((List.range n).filter p).map f) → Fin ys news) : LCt.CompRestT prog w A h₀ L m env ct elt x scope cl s S P Fin n 0 [] news := by
  have all : ∀ k i ys, i + k = n → IntsAre ys (((List.range i).filter p).map f) → LCt.CompRestT prog w A h₀ L m env ct elt x scope cl s S P Fin k i ys news := by
    intro k
    induction k with
    | zero =>
      intro i ys hi hI
      have : i = n := by omega
      subst this
      exact last ys hI
    | succ k ih =>
      intro i ys hi hI v I oI C oC D m₂ h tk E' hP hC hx F N off ne
      refine wpAny_mono (step i v I oI C oC D ys m₂ h tk E' (by omega) hP hC hx F N off) (fun ok s₂ h₂ => ?_) fun _ _ x => x
      obtain ⟨rfl, h1, h0⟩ := h₂
      cases hp : p i with
      | true =>
        rw [if_pos rfl]
        refine wpAny_mono (h1 hp) (fun y s₃ h₃ => ?_) fun _ _ x => x
        obtain ⟨⟨t, rfl⟩, h', tk', rfl, F', N'⟩ := h₃
        refine ⟨h', tk', news, rfl, F', N', off, hS, ih (i + 1) _ (by omega) ?_⟩
        rw [range_keep, if_pos hp, List.map_append]
        exact hI.append (.cons _ _ .nil)
      | false =>
        rw [if_neg (by decide)]
        obtain ⟨_, h', tk', rfl, F', N'⟩ := h0 hp
        refine ⟨h', tk', news, rfl, F', N', off, hS, ih (i + 1) _ (by omega) ?_⟩
        rw [range_keep, if_neg (by simp [hp]), List.append_nil]
        exact hI
  exact all n 0 [] (by omega) .nil
theorem strs_of {f : Nat → Str} : ∀ {n : Nat} {ys : List Value}, ys.length = n → (∀ i v, ys[i]? = some v → ∃ t, v = Value.str (f i) t) → StrsAre ys ((List.range n).map f) := by
  intro n
  induction n generalizing f with
  | zero =>
    intro ys hl _
    rw [List.length_eq_zero_iff.mp hl]; exact .nil
  | succ n ih =>
    intro ys hl h
    cases ys with
    | nil => cases hl
    | cons v r =>
      obtain ⟨t, rfl⟩ := h 0 v (by simp)
      rw [List.range_succ_eq_map, List.map_cons, List.map_map]
      exact .cons _ _ (ih (f := fun i => f (i + 1)) (by simpa using hl) fun i v hv => h (i + 1) v (by simpa using hv))
end
end Mine
end
section
open PySem PySem.W PyProof.Rows Mine
set_option maxRecDepth 100000
set_option maxHeartbeats 2000000
set_option bootstrap.genMatcherCode true
example : (PySem.Challenge.rw_in0265_01, Mine.heap) = (PySem.Challenge.rw_in0265_01, Mine.heap) := by k_fill; rfl
local macro_rules | `(tactic| walk_at $s:str) => `(tactic| k_extra $s)
local macro_rules | `(tactic| k_steps) => `(tactic| repeat' (first | (k_unfold; (try dsimp only)) | ((first | walk1 | (dsimp only; walk1)) <;> (try dsimp only) <;> (try (with_reducible refine tok_execs fun _ => ?_)))))
local macro_rules | `(tactic| k_enter) => `(tactic| k_extra "k_enter")
local macro_rules | `(tactic| cell_enter) => `(tactic| k_extra "cell_enter")
local macro_rules | `(tactic| lge_steps) => `(tactic| repeat' (first | (k_unfold; (try dsimp only)) | walk1 | (dsimp only; walk1)))
section
namespace Mine
theorem fresh_P9 : True := by
  w_top off
  trivial
end Mine
open PySem PySem.W PyProof.Rows
set_option Elab.async false
set_option maxRecDepth 100000
set_option maxHeartbeats 2000000
namespace Mine
theorem said_P9_0 : True := by
  k_with_none
  k_with "k_enter" => (first | (refine' code_def (by k_asm) (by k_asm) (by k_asm) (by k_asm) (by k_asm) rfl rfl (by first | exact rfl | assumption) (by k_is) (by k_is) (by ktr_room) (by first | exact BindsTo.of_eq rfl | (refine' kp_binds (by k_in) (by exact fun _ => rfl))) (by exact locs rfl) ?_ (by exact rfl) (by exact rfl) (by exact rfl) (by decide); k_whole; intro _ _ _ _ _ _ _ _ _; (try dsimp only); (try k_fold)) | (refine' code_defC (by k_asm) (by k_asm) (by k_asm) (by k_asm) (by k_asm) rfl rfl (by first | exact rfl | assumption) (by k_is) (by k_is) (by ktr_room) (by first | exact BindsTo.of_eq rfl | (refine' kp_binds (by k_in) (by exact fun _ => rfl))) (by exact rfl) (by decide +kernel) ?_ (by exact rfl) (by exact rfl) (by exact rfl); k_whole; intro _ _ _ _ _ N' Y' _ _ _ l1; (try k_lt l1); k_cells Y'; (try simp only [List.cons_append, List.nil_append] at N'); (try dsimp only); (try k_fold)))
  k_with "cell_enter" => (first | (refine' enterS (by k_asm) (by k_asm) (by k_asm) (by k_asm) rfl rfl (by first | exact rfl | assumption) (by k_is) (by k_is) (by ktr_room) (by first | exact BindsTo.of_eq rfl | (refine' kp_binds (by k_in) (by exact fun _ => rfl))) (by exact locs rfl) ?_ (by exact rfl) (by exact rfl) (by exact rfl) (by decide); k_whole; intro _ _ _ _ _ _ _; (try dsimp only); (try k_fold)) | (refine' enterCS (by k_asm) (by k_asm) (by k_asm) (by k_asm) rfl rfl (by first | exact rfl | assumption) (by k_is) (by k_is) (by ktr_room) (by first | exact BindsTo.of_eq rfl | (refine' kp_binds (by k_in) (by exact fun _ => rfl))) (by exact rfl) (by decide +kernel) ?_ (by exact rfl) (by exact rfl) (by exact rfl); k_whole; intro _ _ _ _ _ N' Y' _ _ _; k_cells Y'; (try simp only [List.cons_append, List.nil_append] at N'); (try dsimp only); (try k_fold)))
  k_with "binaryOp Pow int int" => (((with_reducible refine pow_int_small (by first | assumption | omega) (by omega) (by decide) ?_)))
  k_with "call type:type" => (((with_reducible show wpAny _ _ (call _ [Value.bytes _ _]) _ _ _); refine call_type_of (Tx := "bytes") rfl (by decide +kernel) ?_))
  k_with "callWith ref" => ((k_dflt (first | (refine' callWith_K (by k_asm) (by k_is) ?_; k_whole) | (refine' callWith_K0 (by k_in) (by k_is) ?_; k_whole))))
  k_with "compareOp Is ref ref" => ((refine wpAny_is_ref_self ?_))
  k_with "compareOp IsNot ref ref" => ((refine wpAny_isNot_ref_self ?_))
  trivial
section
variable {w : World} {p : Program} {loose : List Str} {mean : ExcName → Option Value} {mg mb : Str → Option Value}
    {dp un : Nat} {gd : Option (List Code)} {cn : Str} {cs : Scope} {a : Addr} {ccd : Value} {cl : List (Str × Addr)} {outer : List Env} {A₀ : Around} {base h₀ : Heap} {L : Addr} {m : Str → Option Value} {s : Shared} {Q E : Value → Shared → Prop} {news : List (Addr × Obj)}
theorem said_P9_1 : True := by
  k_with "call builtin:str.count" => ((k_dflt (refine' count4_none (by assumption) ?_; k_whole)))
  k_with "LeaveT" => ((k_dflt (refine' leaveT_ (by k_asm) (by k_asm) ?_; k_whole)))
  k_with "And" => (((try dsimp only); (with_reducible refine and_keep (by ((with_reducible apply Nat.le_trans); (repeat (first | (with_reducible exact len_empty) | (with_reducible exact lenI (by omega) (by omega)) | (with_reducible exact len_lit (by decide +kernel)) | (with_reducible apply len_app) | (with_reducible assumption))); (exact Nat.le_of_ble_eq_true rfl))) ?_); intro _))
  k_with "joinParts" => (((try (with_reducible refine joinParts_nilE ?_)); (with_reducible refine joinParts_nil ?_ (by with_reducible assumption))))
  trivial
local macro_rules | `(tactic| k_room) => `(tactic| ((try simp only [depth_under_make, depth_under_kw, depth_in1, depth_deeper, depth_caller]); omega))
local macro_rules | `(tactic| k_updF) => `(tactic| exact UpdF.head (by assumption))
local macro_rules | `(tactic| k_lt $h) => `(tactic| skip)
theorem said_P9_2 : True := by
  k_with "call ref" => ((k_dflt (refine wpAny_call ?_; (refine' code_nest (by k_asm) (by k_asm) (by k_asm) (by k_asm) (by k_asm) (by exact Around.frames_deeper (by assumption)) rfl (by exact rfl) (by k_mem) (by first | exact codeRec_news (by k_asm) (by k_mem) (by assumption) (by assumption) | exact codeRec_q (by k_asm) (by k_mem) (by assumption) (by assumption) (by kernel_rfl)) (by k_room) (by exact BindsTo.of_eq rfl) (by exact locs rfl) ?_ (by exact rfl) (by exact rfl) (by exact rfl) (by decide); k_whole; intro _ _ _ _ _ _ B' _ _; (try dsimp only); (try k_lift B'); (try k_fold)))))
  k_with "call ref" => (((with_reducible show wpAny _ _ (call (Value.ref 48) _) _ _ _); k_dflt (refine' call_own (x := "TOMLDecodeError") (C := 48) (newId := "ValueError.__new__") (bm := [.type "ValueError", .type "Exception", .type "BaseException", .type "object"]) (by exact own_of_in (by k_asm) (by k_asm) (by k_is) (by k_exc)) PySem.F.excBase_ValueError (by k_asm) (by k_asm) (by exact Nat.le_of_ble_eq_true rfl) ?_; k_whole); intro _ _ _ _ _ _))
  trivial
theorem suffA_ctr {A : Around} {env : Env} (hA : A.frames = some (env :: outer)) (hf : env.frame = some L) (hke : env.scope.kind = .function) (B : Below A₀ base outer h₀) (F : Fr h₀ L s.heap m) (X : (heap w.params).In h₀) {rest : List (Addr × Obj)}  (N : News h₀ L s.heap ((60, tabObj #[]) :: rest)) (T : Top p loose mean mg mb h₀)
    (C : CodeHd base 64 60) (hdp : A.depth + 8 < recursionLimit) (hr : ∀ p ∈ rest, p.1 ≠ 60)
    {src msg : Str} {pos : Int} {t1 t2 t3 : Tok} (hm : msg.length ≤ 2000) (hs : src.length ≤ 100) (p0 : 0 ≤ pos) (p1 : pos ≤ src.length) (hnl : 10 ∉ src.cps.toList)
    (ret : ∀ e t h' tk' ps' cx' ox', Fr h₀ L h' m → News h₀ L h' ((e, excOf 48 t) :: (60, tabObj ps') :: (cx', ox') :: rest) → TabOk ps' cx' ox' → (∀ p ∈ (60, tabObj ps') :: (cx', ox') :: rest, p.1 ≠ e) → (∀ p ∈ rest, p.1 ≠ cx') → Q (.ref e) { s with heap := h', toks := tk' }) :
    wpAny (model PySem.Challenge.rw_in0265_01.row.prog w) A (call (.ref 65) [.str src t1, .int pos t2, .str msg t3]) Q E s := by
  obtain ⟨hp, gs, dr, tk₀, os⟩ := s
  dsimp only at *
  refine wpAny_call ?_
  k_dflt (refine' enterT (own := (60, tabObj #[]) :: rest) ?k1 ?k2 ?k3 ?kN ?k5 ?kA ?kF ?kK ?k6 ?k7 ?k8 ?k9 ?kB ?_ ?c2 ?c3 ?c4 ?c5; (case kA => exact hA); (case kF => exact hf); (case kK => exact hke); (case k1 => assumption); (case k2 => k_asm); (case k3 => k_asm); (case k5 => k_asm); (case kN => assumption); (case k6 => k_is); (case k7 => k_is); (case k8 => omega); (case k9 => exact BindsTo.of_eq rfl); (case c5 => decide); (case kB => exact locs rfl); (case c2 => exact rfl); (case c3 => exact rfl); (case c4 => exact rfl); k_whole; intro g' L' h' eg F' N' B' X' T' st'; (try dsimp only); (try k_fold))
  have C' := C.keeps st'
  k_steps
  all_goals
    try dsimp only
    rename_i e t H F9 N9 l9 kk kn
    rename ∀ q ∈ (60, tabObj #[]) :: rest, q.fst < _ => lc
    rename Array _ => vs9
    rename Obj.data _ = Data.fields vs9 => d1
    rename vs9[1]? = some (Value.str _ _) => d2
    have e9 : ∀ v : Value, (#[] ++ #[rawInt ((22:Nat):Int), rawInt ((4:Nat):Int), v] : Array Value) = #[rawInt 22, rawInt 4, v] := fun v => by simp
    rw [e9] at kn l9
    have sw : ∀ {x y p : Addr × Obj}, p ∈ x :: y :: rest → p ∈ y :: x :: rest := fun h => by
      rcases List.mem_cons.mp h with h | h
      · exact .tail _ (h ▸ .head _)
      · rcases List.mem_cons.mp h with h | h
        · exact h ▸ .head _
        · exact .tail _ (.tail _ h)
    have cv : ∀ {q : Str} {t : Tok}, vs9[1]? = some (.str q t) → q = QN → ∃ t, vs9[1]? = some (.str QN t) := fun a b => ⟨_, b ▸ a⟩
    obtain ⟨tq, d3⟩ := cv d2 (by kernel_rfl)
    refine ret e t H _ #[rawInt 22, rawInt 4, .ref _] _ _ (back_fr F N eg kk) (back_news F N eg fun p hp => kn p ?_) (.inr ⟨Nat.ne_of_gt (lc _ (.head _)), rfl, vs9, tq, d1, d3⟩) (fun p hp => l9 p (.tail _ (sw hp))) (fun p hp => Nat.ne_of_lt (lc p (.tail _ hp)))
    · rcases List.mem_cons.mp hp with rfl | hp
      · exact .head _
      · exact .tail _ (.tail _ (sw hp))


theorem suffB_ctr {A : Around} {env : Env} (hA : A.frames = some (env :: outer)) (hf : env.frame = some L) (hke : env.scope.kind = .function) (B : Below A₀ base outer h₀) (F : Fr h₀ L s.heap m) (X : (heap w.params).In h₀) {rest : List (Addr × Obj)} {cx : Addr} {ox : Obj} {vsx : Array Value} {tx : Tok} (N : News h₀ L s.heap ((60, tabObj #[rawInt 22, rawInt 4, .ref cx]) :: (cx, ox) :: rest)) (T : Top p loose mean mg mb h₀)
    (C : CodeHd base 64 60) (hdp : A.depth + 8 < recursionLimit) (hr : ∀ p ∈ rest, p.1 ≠ cx) (hx : cx ≠ 60) (hox : ox.data = .fields vsx) (hvx : vsx[1]? = some (.str QN tx))
    {src msg : Str} {pos : Int} {t1 t2 t3 : Tok} (hm : msg.length ≤ 2000) (hs : src.length ≤ 100) (p0 : 0 ≤ pos) (p1 : pos ≤ src.length) (hnl : 10 ∉ src.cps.toList)
    (ret : ∀ e t h' tk' ps' cx' ox', Fr h₀ L h' m → News h₀ L h' ((e, excOf 48 t) :: (60, tabObj ps') :: (cx', ox') :: rest) → TabOk ps' cx' ox' → (∀ p ∈ (60, tabObj ps') :: (cx', ox') :: rest, p.1 ≠ e) → (∀ p ∈ rest, p.1 ≠ cx') → Q (.ref e) { s with heap := h', toks := tk' }) :
    wpAny (model PySem.Challenge.rw_in0265_01.row.prog w) A (call (.ref 65) [.str src t1, .int pos t2, .str msg t3]) Q E s := by
  obtain ⟨hp, gs, dr, tk₀, os⟩ := s
  dsimp only at *
  refine wpAny_call ?_
  k_dflt (refine' enterT (own := (60, tabObj #[rawInt 22, rawInt 4, .ref cx]) :: (cx, ox) :: rest) ?k1 ?k2 ?k3 ?kN ?k5 ?kA ?kF ?kK ?k6 ?k7 ?k8 ?k9 ?kB ?_ ?c2 ?c3 ?c4 ?c5; (case kA => exact hA); (case kF => exact hf); (case kK => exact hke); (case k1 => assumption); (case k2 => k_asm); (case k3 => k_asm); (case k5 => k_asm); (case kN => assumption); (case k6 => k_is); (case k7 => k_is); (case k8 => omega); (case k9 => exact BindsTo.of_eq rfl); (case c5 => decide); (case kB => exact locs rfl); (case c2 => exact rfl); (case c3 => exact rfl); (case c4 => exact rfl); k_whole; intro g' L' h' eg F' N' B' X' T' st'; (try dsimp only); (try k_fold))
  have C' := C.keeps st'
  k_steps
  all_goals
    try dsimp only
    rename_i e t H F9 N9 l9 kk kn
    refine ret e t H _ #[rawInt 22, rawInt 4, .ref cx] cx ox (back_fr F N eg kk) (back_news F N eg fun p hp => kn p ?_) (.inr ⟨hx, rfl, _, _, hox, hvx⟩) (fun p hp => l9 p (List.mem_cons_of_mem _ hp)) hr
    rcases List.mem_cons.mp hp with rfl | hp
    · exact .head _
    · exact .tail _ (.tail _ hp)


theorem suff_ctr {A : Around} {env : Env} (hA : A.frames = some (env :: outer)) (hf : env.frame = some L) (hke : env.scope.kind = .function) (B : Below A₀ base outer h₀) (F : Fr h₀ L s.heap m) (X : (heap w.params).In h₀) {rest : List (Addr × Obj)} {ps : Array Value} {cx : Addr} {ox : Obj} (N : News h₀ L s.heap ((60, tabObj ps) :: (cx, ox) :: rest)) (T : Top p loose mean mg mb h₀)
    (C : CodeHd base 64 60) (hdp : A.depth + 8 < recursionLimit) (hT : TabOk ps cx ox) (hr0 : ∀ p ∈ rest, p.1 ≠ 60) (hr : ∀ p ∈ rest, p.1 ≠ cx)
    {src msg : Str} {pos : Int} {t1 t2 t3 : Tok} (hm : msg.length ≤ 2000) (hs : src.length ≤ 100) (p0 : 0 ≤ pos) (p1 : pos ≤ src.length) (hnl : 10 ∉ src.cps.toList)
    (ret : ∀ e t h' tk' ps' cx' ox', Fr h₀ L h' m → News h₀ L h' ((e, excOf 48 t) :: (60, tabObj ps') :: (cx', ox') :: rest) → TabOk ps' cx' ox' → (∀ p ∈ (60, tabObj ps') :: (cx', ox') :: rest, p.1 ≠ e) → (∀ p ∈ rest, p.1 ≠ cx') → Q (.ref e) { s with heap := h', toks := tk' }) :
    wpAny (model PySem.Challenge.rw_in0265_01.row.prog w) A (call (.ref 65) [.str src t1, .int pos t2, .str msg t3]) Q E s := by
  rcases hT with ⟨rfl, rfl, rfl⟩ | ⟨hx, rfl, vs, t, hox, hv⟩
  · exact suffA_ctr hA hf hke B F X (rest := rest) (fun p hp => N p (.tail _ hp)) T C hdp hr0 hm hs p0 p1 hnl ret
  · exact suffB_ctr hA hf hke B F X N T C hdp hr hx hox hv hm hs p0 p1 hnl ret

end
end Mine
end
section
namespace Mine
theorem fresh_P8 : True := by
  w_top off
  trivial
end Mine
open PySem PySem.W PyProof.Rows
set_option Elab.async false
set_option maxRecDepth 100000
set_option maxHeartbeats 2000000
namespace Mine
theorem said_P8_0 : True := by
  k_with_none
  k_with "k_enter" => (first | (refine' code_def (by k_asm) (by k_asm) (by k_asm) (by k_asm) (by k_asm) rfl rfl (by first | exact rfl | assumption) (by k_is) (by k_is) (by ktr_room) (by first | exact BindsTo.of_eq rfl | (refine' kp_binds (by k_in) (by exact fun _ => rfl))) (by exact locs rfl) ?_ (by exact rfl) (by exact rfl) (by exact rfl) (by decide); k_whole; intro _ _ _ _ _ _ _ _ _; (try dsimp only); (try k_fold)) | (refine' code_defC (by k_asm) (by k_asm) (by k_asm) (by k_asm) (by k_asm) rfl rfl (by first | exact rfl | assumption) (by k_is) (by k_is) (by ktr_room) (by first | exact BindsTo.of_eq rfl | (refine' kp_binds (by k_in) (by exact fun _ => rfl))) (by exact rfl) (by decide +kernel) ?_ (by exact rfl) (by exact rfl) (by exact rfl); k_whole; intro _ _ _ _ _ N' Y' _ _ _ l1; (try k_lt l1); k_cells Y'; (try simp only [List.cons_append, List.nil_append] at N'); (try dsimp only); (try k_fold)))
  k_with "cell_enter" => (first | (refine' enterS (by k_asm) (by k_asm) (by k_asm) (by k_asm) rfl rfl (by first | exact rfl | assumption) (by k_is) (by k_is) (by ktr_room) (by first | exact BindsTo.of_eq rfl | (refine' kp_binds (by k_in) (by exact fun _ => rfl))) (by exact locs rfl) ?_ (by exact rfl) (by exact rfl) (by exact rfl) (by decide); k_whole; intro _ _ _ _ _ _ _; (try dsimp only); (try k_fold)) | (refine' enterCS (by k_asm) (by k_asm) (by k_asm) (by k_asm) rfl rfl (by first | exact rfl | assumption) (by k_is) (by k_is) (by ktr_room) (by first | exact BindsTo.of_eq rfl | (refine' kp_binds (by k_in) (by exact fun _ => rfl))) (by exact rfl) (by decide +kernel) ?_ (by exact rfl) (by exact rfl) (by exact rfl); k_whole; intro _ _ _ _ _ N' Y' _ _ _; k_cells Y'; (try simp only [List.cons_append, List.nil_append] at N'); (try dsimp only); (try k_fold)))
  k_with "binaryOp Pow int int" => (((with_reducible refine pow_int_small (by first | assumption | omega) (by omega) (by decide) ?_)))
  k_with "call type:type" => (((with_reducible show wpAny _ _ (call _ [Value.bytes _ _]) _ _ _); refine call_type_of (Tx := "bytes") rfl (by decide +kernel) ?_))
  k_with "callWith ref" => ((k_dflt (first | (refine' callWith_K (by k_asm) (by k_is) ?_; k_whole) | (refine' callWith_K0 (by k_in) (by k_is) ?_; k_whole))))
  k_with "compareOp Is ref ref" => ((refine wpAny_is_ref_self ?_))
  k_with "compareOp IsNot ref ref" => ((refine wpAny_isNot_ref_self ?_))
  trivial
section
variable {w : World} {p : Program} {loose : List Str} {mean : ExcName → Option Value} {mg mb : Str → Option Value}
    {dp un : Nat} {gd : Option (List Code)} {cn : Str} {cs : Scope} {a : Addr} {ccd : Value} {cl : List (Str × Addr)} {outer : List Env} {A₀ : Around} {base h₀ : Heap} {L : Addr} {m : Str → Option Value} {s : Shared} {Q E : Value → Shared → Prop} {news : List (Addr × Obj)}
theorem said_P8_1 : True := by
  k_with "k_enter" => ((refine' code_defS (by k_asm) (by k_asm) (by k_asm) (by k_asm) (by k_asm) (by assumption) (by assumption) (by assumption) (by first | assumption | exact KtsTurn.refl) rfl (by k_is) (by k_is) (by ktr_room) (by first | exact BindsTo.of_eq rfl | (refine' kp_binds (by k_in) (by exact fun _ => rfl))) (by exact locs rfl) ?_ (by exact rfl) (by exact rfl) (by exact rfl) (by exact rfl) (by decide); k_whole; intro _ _ _ _ _ _ B' _ _ _; (try dsimp only); (try k_lift B'); (try k_fold)))
  k_with "call ref" => ((k_dflt (refine wpAny_call ?_; k_enter)))
  k_with "call type:frozenset" => ((k_dflt (refine' fz_new (by k_asm) (by k_asm) (by rfl) (by assumption) ?_; k_whole); intro _ _ _ _ _ _ _ l1; (replace l1 := allNe_of l1; simp only [AllNe, and_true] at l1)))
  k_with "call builtin:str.index" => ((k_dflt (refine' index3 (by rfl) ?_ ?_); all_goals intro _ _))
  k_with "call builtin:str.count" => ((k_dflt (refine' count4_none (by assumption) ?_; k_whole)))
  k_with "noteFrame ref" => ((k_dflt (refine' caught_here (by assumption) (by assumption) (by assumption) (by assumption) (by assumption) (by assumption) (by assumption) (by kts_test) ?_; k_whole); intro _ _ _ _ _ _ _ _ _ K' _ _ _ l1; (replace l1 := allNe_of l1; simp only [AllNe, and_true] at l1); (try k_lift K')))
  k_with "getMethod ref" => ((k_dflt (refine' getMethod_disjoint (by exact News.get (by k_asm) (by k_mem)) (by rename IsFz _ _ _ _ => fz'; exact ⟨fz'.1, fz'.2.1⟩) ?_; k_whole)))
  k_with "call builtin:frozenset.isdisjoint" => ((k_dflt (refine' fz_disjoint (by k_asm) (by k_asm) (by rfl) (by exact News.get (by k_asm) (by k_mem)) (by assumption) ?_; k_whole); intro _ _ _ _))
  k_with "exec Raise some some" => ((k_dflt (refine' Raise_objN (x := "TOMLDecodeError") (C := 48) (newId := "ValueError.__new__") (bm := [.type "ValueError", .type "Exception", .type "BaseException", .type "object"]) (by exact own_of_in (by k_asm) (by k_asm) (by k_is) (by k_exc)) (by decide +kernel) (by rfl) ?_; k_whole)))
  k_with "exec Raise some none" => ((k_dflt (refine' Raise_obj (x := "TOMLDecodeError") (C := 48) (newId := "ValueError.__new__") (bm := [.type "ValueError", .type "Exception", .type "BaseException", .type "object"]) (by exact own_of_in (by k_asm) (by k_asm) (by k_is) (by k_exc)) (by decide +kernel) (by rfl) ?_; k_whole)))
  k_with "exec While Compare" => ((k_dflt (refine whl_hold ?_)))
  k_with "WhlIf" => ((first | (refine WhlIf.yes (by simp only [decide_eq_true_eq, Array.length_toList, List.length_cons, List.length_nil]; omega) ?_) | (refine WhlIf.no (by simp only [decide_eq_false_iff_not]; omega) ?_)))
  k_with "WhlPost" => (first | (refine holdPost ?_) | (dsimp only [WhlPost]; k_unfold; (try dsimp only)))
  k_with "LeaveP" => ((k_dflt (refine' leaveP_ (by k_asm) (by k_asm) (by first | assumption | exact KtsTurn.refl) ?_; k_whole)))
  k_with "pyReprObj str" => (((refine pyReprObj_str (hx := (by exact Nat.le_trans (m := 1100) (by assumption) (Nat.le_of_ble_eq_true rfl))) ?_)))
  k_with "call ref" => (((with_reducible show wpAny _ _ (call (Value.ref 65) _) _ _ _); k_dflt (refine holdW ?_)))
  k_with "compareOp" => ((k_dflt (first | (refine' fz_out (by assumption) (by assumption) (by assumption) (by exact News.get (by k_asm) (by k_mem)) ?_; k_whole) | (refine' fz_inn (by assumption) (by assumption) (by assumption) (by exact News.get (by k_asm) (by k_mem)) ?_; k_whole)); intro _))
  trivial
theorem places_ctr (B : Below A₀ base [] h₀) (F : Fr h₀ L s.heap m) (X : (heap w.params).In h₀) {rest : List (Addr × Obj)} {ps : Array Value} {cx : Addr} {ox : Obj} (N : News h₀ L s.heap ((60, tabObj ps) :: (cx, ox) :: rest)) (T : Top p loose mean mg mb h₀)
    (XB : (heap w.params).In base) (TB : Top p loose mean mg mb base) (C : CodeHd base 64 60) (hk : cs.kind = .function) (hdp : dp + 16 < recursionLimit) (hun : un + 80 < cLine)
    (hT : TabOk ps cx ox) (hr0 : ∀ p ∈ rest, p.1 ≠ 60) (hr : ∀ p ∈ rest, p.1 ≠ cx)
    {text sought barred : Str} {t1 t2 t3 : Tok} (hl : text.length ≤ 100) (hl2 : sought.length ≤ 100) (hl3 : 1 ≤ sought.length) (hb : barred.length ≤ 1) (hnl : 10 ∉ text.cps.toList) (hq : (reprText sought).length ≤ 1100) (hq1 : ∀ c ∈ text.cps.toList, (reprText ⟨#[c]⟩).length ≤ 1100)
    (ret : ∀ l its k h' tk' ps' cx' ox', IntsAre its.toList (placesFrom text sought barred 20 0 []) → Fr h₀ L h' m → News h₀ L h' ((l, listOf its k) :: (60, tabObj ps') :: (cx', ox') :: rest) → TabOk ps' cx' ox' → (∀ p ∈ (60, tabObj ps') :: (cx', ox') :: rest, p.1 ≠ l) → (∀ p ∈ rest, p.1 ≠ cx') → Q (.ref l) { s with heap := h', toks := tk' }) :
    wpAny (model PySem.Challenge.rw_in0265_01.row.prog w) (ktrTop dp un gd cn cs L a ccd cl []) (call (.ref 168) [.str text t1, .str sought t2, .str barred t3]) Q E s := by
  obtain ⟨hp, gs, dr, tk₀, os⟩ := s
  dsimp only at *
  refine wpAny_call ?_
  k_dflt (refine' enterP (own := (60, tabObj ps) :: (cx, ox) :: rest) ?k1 ?k2 ?k3 ?kN ?k5 ?kA ?kF ?kK ?k6 ?k7 ?k8 ?k9 ?kB ?_ ?c2 ?c3 ?c4 ?c5; (case kA => exact rfl); (case kF => exact rfl); (case kK => assumption); (case k1 => assumption); (case k2 => k_asm); (case k3 => k_asm); (case k5 => k_asm); (case kN => assumption); (case k6 => k_is); (case k7 => k_is); (case k8 => ktr_room); (case k9 => exact BindsTo.of_eq rfl); (case c5 => decide); (case kB => exact locs rfl); (case c2 => exact rfl); (case c3 => exact rfl); (case c4 => exact rfl); k_whole; intro g' L' h' eg F' N' B' X' T' D'; (try dsimp only); (try k_fold))
  k_steps
  show WhlRest _ _ _ _ _ _ _ _ _ _ _
  rename Fr _ _ _ _ => F1
  rename News _ _ _ _ => N1
  refine whl_pl (x := text) (y := sought) (b := barred) F1 N1 _ rfl rfl ?_ ?_
  · intro n p tp acc its k h tk a1 a2 a3 a4 a5 F2 N2 ih
    clear F1 N1
    try dsimp only
    k_steps
    · show WhlRest _ _ _ _ _ _ _ _ _ _ _
      rename ∀ c, c ∈ barred.cps.toList → _ => hx
      rename nxt text sought p = some _ => ix
      rename Fr g' L' _ _ => F9
      rename News g' L' _ _ => N9
      have nb := nxt_bound a3 ix
      rw [Int.add_sub_cancel] at N9
      refine ih _ _ (acc ++ [_]) _ _ _ _ ?_ ?_ ?_ ?_ ((placesFrom_hit ix hx).symm.trans a5) (fr_pos F9) (news_sub N9 fun p hp => .tail _ hp)
      · rw [List.length_append, List.length_singleton]; omega
      · rw [Array.toList_push]; exact a2.append (.cons _ _ .nil)
      · omega
      · omega
    · show WhlRest _ _ _ _ _ _ _ _ _ _ _
      rename ¬ (∀ c, c ∈ barred.cps.toList → _) => hx
      rename nxt text sought p = some _ => ix
      have nb := nxt_bound a3 ix
      rename Fr _ _ _ _ => F9
      rename News _ _ _ _ => N9
      refine whl_bar (x := text) (b := barred) F9 N9 (p := p) rfl a3 (barred_at a3 nb.1 (by omega) hx) ?_ ?_
      · intro q tq h tk c q0 q1 qc qn F8 N8 next
        clear F9 N9
        have ei : Txt.item text q = ⟨#[c]⟩ := item_meets q0 (by rw [← Array.getElem?_toList]; exact qc)
        try dsimp only
        k_steps
        show WhlRest _ _ _ _ _ _ _ _ _ _ _
        rename Fr _ _ _ _ => F7
        rename News _ _ _ _ => N7
        exact next _ _ _ (fr_pos F7) N7
      · intro q tq h tk c q0 q1 qc qn F8 N8
        clear F9 N9
        have ei : Txt.item text q = ⟨#[c]⟩ := item_meets q0 (by rw [← Array.getElem?_toList]; exact qc)
        have hri : (reprText (Txt.item text q)).length ≤ 1100 := by rw [ei]; exact hq1 _ (List.mem_of_getElem? qc)
        try dsimp only
        k_steps
        show wpAny _ _ _ _ _ _
        rename Below _ base [_, _] _ => B2
        rename Fr _ _ _ _ => F6
        rename News _ _ _ _ => N6
        rename _ ∧ 60 ≠ _ ∧ cx ≠ _ ∧ AllNe _ rest => lD
        rename 60 < _ ∧ cx < _ ∧ AllLt _ rest => ll
        refine suff_ctr (Around.frames_deeper B2.stack) rfl rfl B2 F6 (by k_asm) (news_pick2 N6) (by k_asm) C ?room hT
          (List.forall_mem_cons.mpr ⟨lD.2.1.symm, List.forall_mem_cons.mpr ⟨Nat.ne_of_gt ll.1, hr0⟩⟩) (List.forall_mem_cons.mpr ⟨lD.2.2.1.symm, List.forall_mem_cons.mpr ⟨Nat.ne_of_gt ll.2.1, hr⟩⟩)
          (Nat.le_trans (len_app (len_app len_empty (len_lit (by decide +kernel))) hri) (Nat.le_of_ble_eq_true rfl)) hl q0 (Int.le_of_lt q1) hnl ?_
        · ktr_room
        intro e1 t1 h1 tk1 ps1 cx1 ox1 F5 N5 T5 n1 n2
        refine ⟨e1, t1, rfl, F5.keep, (N5 _ (.head _)).1, ?_⟩
        refine leave_obj B2 F5 N5 n1 rfl rfl rfl rfl fun h2 R1 R2 U => ?_
        k_steps
        try dsimp only
        rename_i k1 k2 k3 k4
        refine ret _ its k _ _ ps1 cx1 ox1 (by rw [← a5, placesFrom_bar ix hx]; exact a2) (backP F N eg k1 k2) (news_back2 (backP_news F N eg k3 k4)) T5
          (List.forall_mem_cons.mpr ⟨Nat.ne_of_lt ll.1, List.forall_mem_cons.mpr ⟨(n2 _ (.tail _ (.head _))).symm, fun p hp => Nat.ne_of_lt (allLt_mem ll.2.2 p hp)⟩⟩) (fun p hp => n2 p (.tail _ (.tail _ hp)))
    · show wpAny _ _ _ _ _ _
      rename Below _ base [_, _] _ => B2
      rename Fr _ _ _ _ => F6
      rename News _ _ _ _ => N6
      rename nxt text sought p = none => ix
      rename _ ≠ _ ∧ 60 ≠ _ ∧ cx ≠ _ ∧ AllNe _ rest => lD
      rename _ ≠ _ ∧ _ ≠ _ ∧ 60 ≠ _ ∧ cx ≠ _ ∧ AllNe _ rest => le
      rename 60 < _ ∧ cx < _ ∧ AllLt _ rest => ll
      rename Obj.data _ = Data.fields #[_, _, _, _, Value.bool false, _] => od
      refine' suff_ctr (hA := ?hA9) (hf := ?hf9) (hke := ?hk9) (B := B2) (F := ?F9) (X := by k_asm) (N := ?N9) (T := by k_asm) (C := C) (hdp := ?d9) (hT := hT) (hr0 := ?r9) (hr := ?r8) (hm := ?m9) (hs := hl) (p0 := ?p9) (p1 := ?p8) (hnl := hnl) ?_
      case hA9 => exact Around.frames_deeper B2.stack
      case hf9 => rfl
      case hk9 => rfl
      case F9 => exact F6
      case N9 => exact news_pick3 N6
      case d9 =>
        rw [show ∀ {A : Around} {x : Option Value}, (A.mark x).depth = A.depth from rfl]
        ktr_room
      case r9 => exact List.forall_mem_cons.mpr ⟨le.2.2.1.symm, List.forall_mem_cons.mpr ⟨lD.2.1.symm, List.forall_mem_cons.mpr ⟨Nat.ne_of_gt ll.1, hr0⟩⟩⟩
      case r8 => exact List.forall_mem_cons.mpr ⟨le.2.2.2.1.symm, List.forall_mem_cons.mpr ⟨lD.2.2.1.symm, List.forall_mem_cons.mpr ⟨Nat.ne_of_gt ll.2.1, hr⟩⟩⟩
      case m9 => exact Nat.le_trans (len_app (len_app len_empty (len_lit (t := "Expected ") (by decide +kernel))) hq) (Nat.le_of_ble_eq_true rfl)
      case p9 => exact Int.natCast_nonneg _
      case p8 => exact Int.le_refl _
      intro e1 t1 h1 tk1 ps1 cx1 ox1 F5 N5 T5 n1 n2
      refine ⟨e1, t1, _, _, rfl, (n1 _ (.tail _ (.tail _ (.head _)))).symm, F5.keep, (N5 _ (.head _)).2.2, (N5 _ (.head _)).1, (N5 _ (.tail _ (.tail _ (.tail _ (.head _))))).1, od, rfl, fun h3 s3 g3 => ?_⟩
      refine leave_obj B2 (raised_fr F5 N5 s3) (raised_news N5 n1 s3 g3) n1 rfl rfl rfl rfl fun h2 R1 R2 U => ?_
      rename Heap.NewExc _ _ _ _ => nx
      clear nx od
      rename KtsTurn (List.filterMap _ [_, _]) _ _ => TT
      have R9 : RaisedSN base _ _ e1 (.ref 48) _ h2 := raised_turn R1 TT
      have U9 : Heap.UpToSlots _ h2 := Heap.UpToSlots.trans (fun b o e _ => TT.up e) U
      clear R1 R2 U TT
      k_steps
      try dsimp only
      rename_i k1 k2 k3 k4
      refine ret _ its k _ _ ps1 cx1 ox1 (by rw [← a5, placesFrom_none ix]; exact a2) (backP F N eg k1 k2) (news_back3 (backP_news F N eg k3 k4)) T5
          (List.forall_mem_cons.mpr ⟨Nat.ne_of_lt ll.1, List.forall_mem_cons.mpr ⟨(n2 _ (.tail _ (.tail _ (.head _)))).symm, fun p hp => Nat.ne_of_lt (allLt_mem ll.2.2 p hp)⟩⟩) (fun p hp => n2 p (.tail _ (.tail _ (.tail _ hp))))
  · intro p tp acc its k h tk a1 a2 a3 F2 N2
    clear F1 N1
    try dsimp only
    k_steps
    try dsimp only
    rename_i k1 k2 k3 k4
    rename 60 < _ ∧ cx < _ ∧ AllLt _ rest => ll
    exact ret _ its k _ _ ps cx ox (a3 ▸ a2) (backP F N eg k1 k2) (backP_news F N eg k3 k4) hT
          (List.forall_mem_cons.mpr ⟨Nat.ne_of_lt ll.1, List.forall_mem_cons.mpr ⟨Nat.ne_of_lt ll.2.1, fun p hp => Nat.ne_of_lt (allLt_mem ll.2.2 p hp)⟩⟩) hr

end
end Mine
end
section
namespace Mine
theorem fresh_P10 : True := by
  w_top off
  trivial
end Mine
open PySem PySem.W PyProof.Rows
set_option Elab.async false
set_option maxRecDepth 100000
set_option maxHeartbeats 2000000
namespace Mine
theorem said_P10_0 : True := by
  k_with_none
  k_with "k_enter" => (first | (refine' code_def (by k_asm) (by k_asm) (by k_asm) (by k_asm) (by k_asm) rfl rfl (by first | exact rfl | assumption) (by k_is) (by k_is) (by ktr_room) (by first | exact BindsTo.of_eq rfl | (refine' kp_binds (by k_in) (by exact fun _ => rfl))) (by exact locs rfl) ?_ (by exact rfl) (by exact rfl) (by exact rfl) (by decide); k_whole; intro _ _ _ _ _ _ _ _ _; (try dsimp only); (try k_fold)) | (refine' code_defC (by k_asm) (by k_asm) (by k_asm) (by k_asm) (by k_asm) rfl rfl (by first | exact rfl | assumption) (by k_is) (by k_is) (by ktr_room) (by first | exact BindsTo.of_eq rfl | (refine' kp_binds (by k_in) (by exact fun _ => rfl))) (by exact rfl) (by decide +kernel) ?_ (by exact rfl) (by exact rfl) (by exact rfl); k_whole; intro _ _ _ _ _ N' Y' _ _ _ l1; (try k_lt l1); k_cells Y'; (try simp only [List.cons_append, List.nil_append] at N'); (try dsimp only); (try k_fold)))
  k_with "cell_enter" => (first | (refine' enterS (by k_asm) (by k_asm) (by k_asm) (by k_asm) rfl rfl (by first | exact rfl | assumption) (by k_is) (by k_is) (by ktr_room) (by first | exact BindsTo.of_eq rfl | (refine' kp_binds (by k_in) (by exact fun _ => rfl))) (by exact locs rfl) ?_ (by exact rfl) (by exact rfl) (by exact rfl) (by decide); k_whole; intro _ _ _ _ _ _ _; (try dsimp only); (try k_fold)) | (refine' enterCS (by k_asm) (by k_asm) (by k_asm) (by k_asm) rfl rfl (by first | exact rfl | assumption) (by k_is) (by k_is) (by ktr_room) (by first | exact BindsTo.of_eq rfl | (refine' kp_binds (by k_in) (by exact fun _ => rfl))) (by exact rfl) (by decide +kernel) ?_ (by exact rfl) (by exact rfl) (by exact rfl); k_whole; intro _ _ _ _ _ N' Y' _ _ _; k_cells Y'; (try simp only [List.cons_append, List.nil_append] at N'); (try dsimp only); (try k_fold)))
  k_with "binaryOp Pow int int" => (((with_reducible refine pow_int_small (by first | assumption | omega) (by omega) (by decide) ?_)))
  k_with "call type:type" => (((with_reducible show wpAny _ _ (call _ [Value.bytes _ _]) _ _ _); refine call_type_of (Tx := "bytes") rfl (by decide +kernel) ?_))
  k_with "callWith ref" => ((k_dflt (first | (refine' callWith_K (by k_asm) (by k_is) ?_; k_whole) | (refine' callWith_K0 (by k_in) (by k_is) ?_; k_whole))))
  k_with "compareOp Is ref ref" => ((refine wpAny_is_ref_self ?_))
  k_with "compareOp IsNot ref ref" => ((refine wpAny_isNot_ref_self ?_))
  trivial
section
variable {w : World} {p : Program} {loose : List Str} {mean : ExcName → Option Value} {mg mb : Str → Option Value}
    {dp un : Nat} {gd : Option (List Code)} {cn : Str} {cs : Scope} {a : Addr} {ccd : Value} {cl : List (Str × Addr)} {outer : List Env} {A₀ : Around} {base h₀ : Heap} {L : Addr} {m : Str → Option Value} {s : Shared} {Q E : Value → Shared → Prop} {news : List (Addr × Obj)}

theorem turned_ctr (B : Below A₀ base outer h₀) (F : Fr h₀ L s.heap m) (X : (heap w.params).In h₀) (N : News h₀ L s.heap news) (T : Top p loose mean mg mb h₀) (hk : cs.kind = .function) (hdp : dp + 8 < recursionLimit) (hun : un + 40 < cLine)
    {ring k : Int} {t1 t2 : Tok} (h0 : 0 ≤ ring) (h1 : ring < 281474976710656) (k0 : 0 ≤ k) (k1 : k ≤ 48)
    (ret : ∀ t h' tk', Fr h₀ L h' m → News h₀ L h' news → Q (.int (turned ring k) t) { s with heap := h', toks := tk' }) :
    wpAny (model PySem.Challenge.rw_in0265_01.row.prog w) (ktrTop dp un gd cn cs L a ccd cl outer) (call (.ref 156) [.int ring t1, .int k t2]) Q E s := by
  obtain ⟨hp, gs, dr, tk₀, os⟩ := s
  dsimp only at *
  refine wpAny_call ?_
  k_dflt cell_enter
  k_steps
  rename Fr h₀ L _ m => kF
  rename Fr hp _ _ _ => F3
  rw [turned_eq h0 k0 k1]
  exact ret _ _ _ kF (news_kept N F3.keep)


end
end Mine
end
section
namespace Mine
theorem fresh_P1 : True := by
  w_top off
  trivial
end Mine
open PySem PySem.W PyProof.Rows
set_option Elab.async false
set_option maxRecDepth 100000
set_option maxHeartbeats 2000000
namespace Mine
theorem said_P1_0 : True := by
  k_with_none
  k_with "k_enter" => (first | (refine' code_def (by k_asm) (by k_asm) (by k_asm) (by k_asm) (by k_asm) rfl rfl (by first | exact rfl | assumption) (by k_is) (by k_is) (by ktr_room) (by first | exact BindsTo.of_eq rfl | (refine' kp_binds (by k_in) (by exact fun _ => rfl))) (by exact locs rfl) ?_ (by exact rfl) (by exact rfl) (by exact rfl) (by decide); k_whole; intro _ _ _ _ _ _ _ _ _; (try dsimp only); (try k_fold)) | (refine' code_defC (by k_asm) (by k_asm) (by k_asm) (by k_asm) (by k_asm) rfl rfl (by first | exact rfl | assumption) (by k_is) (by k_is) (by ktr_room) (by first | exact BindsTo.of_eq rfl | (refine' kp_binds (by k_in) (by exact fun _ => rfl))) (by exact rfl) (by decide +kernel) ?_ (by exact rfl) (by exact rfl) (by exact rfl); k_whole; intro _ _ _ _ _ N' Y' _ _ _ l1; (try k_lt l1); k_cells Y'; (try simp only [List.cons_append, List.nil_append] at N'); (try dsimp only); (try k_fold)))
  k_with "cell_enter" => (first | (refine' enterS (by k_asm) (by k_asm) (by k_asm) (by k_asm) rfl rfl (by first | exact rfl | assumption) (by k_is) (by k_is) (by ktr_room) (by first | exact BindsTo.of_eq rfl | (refine' kp_binds (by k_in) (by exact fun _ => rfl))) (by exact locs rfl) ?_ (by exact rfl) (by exact rfl) (by exact rfl) (by decide); k_whole; intro _ _ _ _ _ _ _; (try dsimp only); (try k_fold)) | (refine' enterCS (by k_asm) (by k_asm) (by k_asm) (by k_asm) rfl rfl (by first | exact rfl | assumption) (by k_is) (by k_is) (by ktr_room) (by first | exact BindsTo.of_eq rfl | (refine' kp_binds (by k_in) (by exact fun _ => rfl))) (by exact rfl) (by decide +kernel) ?_ (by exact rfl) (by exact rfl) (by exact rfl); k_whole; intro _ _ _ _ _ N' Y' _ _ _; k_cells Y'; (try simp only [List.cons_append, List.nil_append] at N'); (try dsimp only); (try k_fold)))
  k_with "binaryOp Pow int int" => (((with_reducible refine pow_int_small (by first | assumption | omega) (by omega) (by decide) ?_)))
  k_with "call type:type" => (((with_reducible show wpAny _ _ (call _ [Value.bytes _ _]) _ _ _); refine call_type_of (Tx := "bytes") rfl (by decide +kernel) ?_))
  k_with "callWith ref" => ((k_dflt (first | (refine' callWith_K (by k_asm) (by k_is) ?_; k_whole) | (refine' callWith_K0 (by k_in) (by k_is) ?_; k_whole))))
  k_with "compareOp Is ref ref" => ((refine wpAny_is_ref_self ?_))
  k_with "compareOp IsNot ref ref" => ((refine wpAny_isNot_ref_self ?_))
  trivial
section
variable {w : World} {p : Program} {loose : List Str} {mean : ExcName → Option Value} {mg mb : Str → Option Value}
    {dp un : Nat} {gd : Option (List Code)} {cn : Str} {cs : Scope} {a : Addr} {ccd : Value} {cl : List (Str × Addr)} {outer : List Env} {A₀ : Around} {base h₀ : Heap} {L : Addr} {m : Str → Option Value} {s : Shared} {Q E : Value → Shared → Prop} {news : List (Addr × Obj)}
theorem said_P1_1 : True := by
  k_with "getMethod str" => ((with_reducible refine method_translate ?_))
  k_with "getMethod str" => ((with_reducible refine method_encode ?_))
  k_with "getMethod bytes" => ((with_reducible refine method_hex ?_))
  k_with "getMethod bytes" => ((with_reducible refine method_upper ?_))
  k_with "call builtin:bytes.hex" => ((with_reducible refine call_hex ?_))
  trivial
theorem escape_ctr (B : Below A₀ base outer h₀) (F : Fr h₀ L s.heap m) (X : (heap w.params).In h₀) (N : News h₀ L s.heap news) (T : Top p loose mean mg mb h₀) (hk : cs.kind = .function) (hdp : dp + 2 < recursionLimit) (hun : un + 20 < cLine)
    {c : Nat} (hc : c ∈ b64) {t₁ : Tok}
    (ret : ∀ t h' tk', Fr h₀ L h' m → News h₀ L h' news → Q (.str ⟨esc c⟩ t) { s with heap := h', toks := tk' }) :
    wpAny (model PySem.Challenge.rw_in0265_01.row.prog w) (ktrTop dp un gd cn cs L a ccd cl outer) (call (.ref 135) [.str ⟨#[c]⟩ t₁]) Q E s := by
  obtain ⟨hp, gs, dr, tk₀, os⟩ := s
  dsimp only at *

  refine wpAny_call ?_
  k_dflt cell_enter
  k_steps
  rename_i L1 h1 F1 N1 B1 X1 T1
  obtain ⟨f, hm, hf⟩ := map125 (prog := PySem.Challenge.rw_in0265_01.row.prog) (X1.keeps F1.keep)
  refine call_translate (b64_lt hc) (by decide) rfl hm ?_ fun h2 tk2 tk3 k => ?_
  · rcases hf c hc with h | ⟨_, tx, h⟩
    · exact .inl h.2
    · exact .inr ⟨_, tx, h, rfl⟩
  have e : trOf (f c) c = ⟨esc c⟩ := by
    rcases hf c hc with h | ⟨h0, tx, h⟩
    · rw [h.2]; unfold trOf esc; rw [if_neg h.1]
    · rw [h]; unfold trOf esc; rw [if_pos h0]
  rw [e]
  have F2 := fr_kept F1 k
  have N2 := news_kept N1 k
  k_steps
  exact ret _ _ _ (by assumption) (news_kept N F2.keep)

end
end Mine
end
section
namespace Mine
theorem fresh_P2 : True := by
  w_top off
  trivial
end Mine
open PySem PySem.W PyProof.Rows
set_option Elab.async false
set_option maxRecDepth 100000
set_option maxHeartbeats 2000000
namespace Mine
theorem said_P2_0 : True := by
  k_with_none
  k_with "k_enter" => (first | (refine' code_def (by k_asm) (by k_asm) (by k_asm) (by k_asm) (by k_asm) rfl rfl (by first | exact rfl | assumption) (by k_is) (by k_is) (by ktr_room) (by first | exact BindsTo.of_eq rfl | (refine' kp_binds (by k_in) (by exact fun _ => rfl))) (by exact locs rfl) ?_ (by exact rfl) (by exact rfl) (by exact rfl) (by decide); k_whole; intro _ _ _ _ _ _ _ _ _; (try dsimp only); (try k_fold)) | (refine' code_defC (by k_asm) (by k_asm) (by k_asm) (by k_asm) (by k_asm) rfl rfl (by first | exact rfl | assumption) (by k_is) (by k_is) (by ktr_room) (by first | exact BindsTo.of_eq rfl | (refine' kp_binds (by k_in) (by exact fun _ => rfl))) (by exact rfl) (by decide +kernel) ?_ (by exact rfl) (by exact rfl) (by exact rfl); k_whole; intro _ _ _ _ _ N' Y' _ _ _ l1; (try k_lt l1); k_cells Y'; (try simp only [List.cons_append, List.nil_append] at N'); (try dsimp only); (try k_fold)))
  k_with "cell_enter" => (first | (refine' enterS (by k_asm) (by k_asm) (by k_asm) (by k_asm) rfl rfl (by first | exact rfl | assumption) (by k_is) (by k_is) (by ktr_room) (by first | exact BindsTo.of_eq rfl | (refine' kp_binds (by k_in) (by exact fun _ => rfl))) (by exact locs rfl) ?_ (by exact rfl) (by exact rfl) (by exact rfl) (by decide); k_whole; intro _ _ _ _ _ _ _; (try dsimp only); (try k_fold)) | (refine' enterCS (by k_asm) (by k_asm) (by k_asm) (by k_asm) rfl rfl (by first | exact rfl | assumption) (by k_is) (by k_is) (by ktr_room) (by first | exact BindsTo.of_eq rfl | (refine' kp_binds (by k_in) (by exact fun _ => rfl))) (by exact rfl) (by decide +kernel) ?_ (by exact rfl) (by exact rfl) (by exact rfl); k_whole; intro _ _ _ _ _ N' Y' _ _ _; k_cells Y'; (try simp only [List.cons_append, List.nil_append] at N'); (try dsimp only); (try k_fold)))
  k_with "binaryOp Pow int int" => (((with_reducible refine pow_int_small (by first | assumption | omega) (by omega) (by decide) ?_)))
  k_with "call type:type" => (((with_reducible show wpAny _ _ (call _ [Value.bytes _ _]) _ _ _); refine call_type_of (Tx := "bytes") rfl (by decide +kernel) ?_))
  k_with "callWith ref" => ((k_dflt (first | (refine' callWith_K (by k_asm) (by k_is) ?_; k_whole) | (refine' callWith_K0 (by k_in) (by k_is) ?_; k_whole))))
  k_with "compareOp Is ref ref" => ((refine wpAny_is_ref_self ?_))
  k_with "compareOp IsNot ref ref" => ((refine wpAny_isNot_ref_self ?_))
  trivial
section
variable {w : World} {p : Program} {loose : List Str} {mean : ExcName → Option Value} {mg mb : Str → Option Value}
    {dp un : Nat} {gd : Option (List Code)} {cn : Str} {cs : Scope} {a : Addr} {ccd : Value} {cl : List (Str × Addr)} {outer : List Env} {A₀ : Around} {base h₀ : Heap} {L : Addr} {m : Str → Option Value} {s : Shared} {Q E : Value → Shared → Prop} {news : List (Addr × Obj)}
theorem said_P2_1 : True := by
  k_with "getMethod str" => ((with_reducible refine method_translate ?_))
  k_with "getMethod str" => ((with_reducible refine method_encode ?_))
  k_with "getMethod bytes" => ((with_reducible refine method_hex ?_))
  k_with "getMethod bytes" => ((with_reducible refine method_upper ?_))
  k_with "call builtin:bytes.hex" => ((with_reducible refine call_hex ?_))
  k_with "call type:object" => ((k_dflt (refine' call_objectK (by k_asm) (by k_asm) ?_; k_whole); intro _ _ _ _ l1; (try k_lt l1); (try k_sweep)))
  k_with "getAttr ref" => ((k_dflt (refine' getAttr_appendK (by k_asm) (by k_asm) (by k_mem) ?_; k_whole); intro _ _ _ _ _ l1; (try k_lt l1); (try k_sweep)))
  k_with "callWith ref" => ((k_dflt (refine' callWith_B (by k_asm) (by k_mem) ?_; k_whole)))
  k_with "And" => (((with_reducible show BoundP _ _ _ ∧ _); refine' And.intro (boundP (by k_asm) (by k_mem)) ?_; try dsimp only [List.nil_append, List.cons_append]))
  k_with "call ref" => ((k_dflt (refine' call_boundK (by k_asm) (by k_asm) (by k_mem) (by k_upd) ?_ (by size_fits); k_whole); intro _ _ _; (try k_sweep)))
  k_with "call builtin:len" => ((with_reducible refine len10 ?_; intro _ _))
  k_with "compareOp Eq str str" => (((with_reducible show wpAny _ _ (compareOp _ (Value.str (PySem.Str.mk _) _) _) _ _ _); first | refine eq_one_t (by with_unfolding_all rfl) ?_ | refine eq_one_f (by with_unfolding_all rfl) (ne_of_b64 (by assumption) (by decide)) ?_))
  k_with "subscriptTail Name Name str int" => ((first | refine item_at0 (by decide) ?_ | refine item_at1 (by decide) ?_ | refine item_at2 (by decide) ?_ | refine item_at3 (by decide) ?_ | refine item_at4 (by decide) ?_ | refine item_at5 (by decide) ?_ | refine item_at6 (by decide) ?_ | refine item_at7 (by decide) ?_ | refine item_at8 (by decide) ?_ | refine item_at9 (by decide) ?_))
  k_with "compareOp IsNot" => (((with_reducible show wpAny _ _ (compareOp CmpOp.IsNot (Value.str _ _) (Value.ref _)) _ _ _); refine wpAny_isNot_other (by rfl) (by intro x; cases x) ?_))
  k_with "BoundP" => ((refine' boundP (by k_asm) (by k_mem)))
  k_with "exec While BoolOp" => ((k_dflt (refine whl_start 100 ?_)))
  k_with "exec While Compare" => ((k_dflt (refine whl_start 100 ?_)))
  k_with "call ref" => ((k_dflt (refine' escape_ctr (by k_asm) (by k_asm) (by k_asm) (by k_asm) (by k_asm) (by first | exact rfl | assumption) (by ktr_room) (by ktr_units) (by assumption) ?_; k_whole); intro _ _ _ _ _; (try dsimp only); (try k_fold)))
  trivial
theorem utrans_ctr (B : Below A₀ base outer h₀) (F : Fr h₀ L s.heap m) (X : (heap w.params).In h₀) (N : News h₀ L s.heap news) (T : Top p loose mean mg mb h₀) (hk : cs.kind = .function) (hdp : dp + 4 < recursionLimit) (hun : un + 40 < cLine)
    {c0 c1 c2 c3 c4 c5 c6 c7 : Nat} (hc0 : c0 ∈ b64) (hc1 : c1 ∈ b64) (hc2 : c2 ∈ b64) (hc3 : c3 ∈ b64) (hc4 : c4 ∈ b64) (hc5 : c5 ∈ b64) (hc6 : c6 ∈ b64) (hc7 : c7 ∈ b64) {t₁ t₂ : Tok} {st : Addr}
    (ret : ∀ r u0 u1 u2 u3 u4 u5 u6 u7 n h' tk', Fr h₀ L h' m → News h₀ L h' ((r, listOf #[.ref st, .str ⟨esc c0⟩ u0, .str ⟨esc c1⟩ u1, .str ⟨esc c2⟩ u2, .str ⟨esc c3⟩ u3, .str ⟨esc c4⟩ u4, .str ⟨esc c5⟩ u5, .str ⟨esc c6⟩ u6, .str ⟨esc c7⟩ u7, .ref st] n) :: news) → (∀ p ∈ news, p.1 ≠ r) → Q (.ref r) { s with heap := h', toks := tk' }) :
    wpAny (model PySem.Challenge.rw_in0265_01.row.prog w) (ktrTop dp un gd cn cs L a ccd cl outer) (call (.ref 142) [.str ⟨#[42, c0, c1, c2, c3, c4, c5, c6, c7, 42]⟩ t₁, .ref st, .str (PySem.Str.ofString ".") t₂]) Q E s := by
  obtain ⟨hp, gs, dr, tk₀, os⟩ := s
  dsimp only at *

  refine wpAny_call ?_
  k_dflt cell_enter
  k_steps
  rename Fr h₀ L _ m => kF
  rename News h₀ L _ _ => kN
  rename Fr hp _ _ _ => F1
  rename News hp _ _ _ => N1
  exact ret _ _ _ _ _ _ _ _ _ _ _ _ kF (news_add kN (by k_mem) (news_kept N F1.keep)) (news_ne N N1 (by k_mem))

end
end Mine
end
section
namespace Mine
theorem fresh_P3 : True := by
  w_top off
  trivial
end Mine
open PySem PySem.W PyProof.Rows
set_option Elab.async false
set_option maxRecDepth 100000
set_option maxHeartbeats 2000000
namespace Mine
theorem said_P3_0 : True := by
  k_with_none
  k_with "k_enter" => (first | (refine' code_def (by k_asm) (by k_asm) (by k_asm) (by k_asm) (by k_asm) rfl rfl (by first | exact rfl | assumption) (by k_is) (by k_is) (by ktr_room) (by first | exact BindsTo.of_eq rfl | (refine' kp_binds (by k_in) (by exact fun _ => rfl))) (by exact locs rfl) ?_ (by exact rfl) (by exact rfl) (by exact rfl) (by decide); k_whole; intro _ _ _ _ _ _ _ _ _; (try dsimp only); (try k_fold)) | (refine' code_defC (by k_asm) (by k_asm) (by k_asm) (by k_asm) (by k_asm) rfl rfl (by first | exact rfl | assumption) (by k_is) (by k_is) (by ktr_room) (by first | exact BindsTo.of_eq rfl | (refine' kp_binds (by k_in) (by exact fun _ => rfl))) (by exact rfl) (by decide +kernel) ?_ (by exact rfl) (by exact rfl) (by exact rfl); k_whole; intro _ _ _ _ _ N' Y' _ _ _ l1; (try k_lt l1); k_cells Y'; (try simp only [List.cons_append, List.nil_append] at N'); (try dsimp only); (try k_fold)))
  k_with "cell_enter" => (first | (refine' enterS (by k_asm) (by k_asm) (by k_asm) (by k_asm) rfl rfl (by first | exact rfl | assumption) (by k_is) (by k_is) (by ktr_room) (by first | exact BindsTo.of_eq rfl | (refine' kp_binds (by k_in) (by exact fun _ => rfl))) (by exact locs rfl) ?_ (by exact rfl) (by exact rfl) (by exact rfl) (by decide); k_whole; intro _ _ _ _ _ _ _; (try dsimp only); (try k_fold)) | (refine' enterCS (by k_asm) (by k_asm) (by k_asm) (by k_asm) rfl rfl (by first | exact rfl | assumption) (by k_is) (by k_is) (by ktr_room) (by first | exact BindsTo.of_eq rfl | (refine' kp_binds (by k_in) (by exact fun _ => rfl))) (by exact rfl) (by decide +kernel) ?_ (by exact rfl) (by exact rfl) (by exact rfl); k_whole; intro _ _ _ _ _ N' Y' _ _ _; k_cells Y'; (try simp only [List.cons_append, List.nil_append] at N'); (try dsimp only); (try k_fold)))
  k_with "binaryOp Pow int int" => (((with_reducible refine pow_int_small (by first | assumption | omega) (by omega) (by decide) ?_)))
  k_with "call type:type" => (((with_reducible show wpAny _ _ (call _ [Value.bytes _ _]) _ _ _); refine call_type_of (Tx := "bytes") rfl (by decide +kernel) ?_))
  k_with "callWith ref" => ((k_dflt (first | (refine' callWith_K (by k_asm) (by k_is) ?_; k_whole) | (refine' callWith_K0 (by k_in) (by k_is) ?_; k_whole))))
  k_with "compareOp Is ref ref" => ((refine wpAny_is_ref_self ?_))
  k_with "compareOp IsNot ref ref" => ((refine wpAny_isNot_ref_self ?_))
  trivial
section
variable {w : World} {p : Program} {loose : List Str} {mean : ExcName → Option Value} {mg mb : Str → Option Value}
    {dp un : Nat} {gd : Option (List Code)} {cn : Str} {cs : Scope} {a : Addr} {ccd : Value} {cl : List (Str × Addr)} {outer : List Env} {A₀ : Around} {base h₀ : Heap} {L : Addr} {m : Str → Option Value} {s : Shared} {Q E : Value → Shared → Prop} {news : List (Addr × Obj)}
theorem said_P3_1 : True := by
  k_with "getMethod str" => ((with_reducible refine method_translate ?_))
  k_with "getMethod str" => ((with_reducible refine method_encode ?_))
  k_with "getMethod bytes" => ((with_reducible refine method_hex ?_))
  k_with "getMethod bytes" => ((with_reducible refine method_upper ?_))
  k_with "call builtin:bytes.hex" => ((with_reducible refine call_hex ?_))
  k_with "call type:object" => ((k_dflt (refine' call_objectK (by k_asm) (by k_asm) ?_; k_whole); intro _ _ _ _ l1; (try k_lt l1); (try k_sweep)))
  k_with "getAttr ref" => ((k_dflt (refine' getAttr_appendK (by k_asm) (by k_asm) (by k_mem) ?_; k_whole); intro _ _ _ _ _ l1; (try k_lt l1); (try k_sweep)))
  k_with "callWith ref" => ((k_dflt (refine' callWith_B (by k_asm) (by k_mem) ?_; k_whole)))
  k_with "And" => (((with_reducible show BoundP _ _ _ ∧ _); refine' And.intro (boundP (by k_asm) (by k_mem)) ?_; try dsimp only [List.nil_append, List.cons_append]))
  k_with "call ref" => ((k_dflt (refine' call_boundK (by k_asm) (by k_asm) (by k_mem) (by k_upd) ?_ (by size_fits); k_whole); intro _ _ _; (try k_sweep)))
  k_with "call builtin:len" => ((with_reducible refine len10 ?_; intro _ _))
  k_with "compareOp Eq str str" => (((with_reducible show wpAny _ _ (compareOp _ (Value.str (PySem.Str.mk _) _) _) _ _ _); first | refine eq_one_t (by with_unfolding_all rfl) ?_ | refine eq_one_f (by with_unfolding_all rfl) (ne_of_b64 (by assumption) (by decide)) ?_))
  k_with "subscriptTail Name Name str int" => ((first | refine item_at0 (by decide) ?_ | refine item_at1 (by decide) ?_ | refine item_at2 (by decide) ?_ | refine item_at3 (by decide) ?_ | refine item_at4 (by decide) ?_ | refine item_at5 (by decide) ?_ | refine item_at6 (by decide) ?_ | refine item_at7 (by decide) ?_ | refine item_at8 (by decide) ?_ | refine item_at9 (by decide) ?_))
  k_with "compareOp IsNot" => (((with_reducible show wpAny _ _ (compareOp CmpOp.IsNot (Value.str _ _) (Value.ref _)) _ _ _); refine wpAny_isNot_other (by rfl) (by intro x; cases x) ?_))
  k_with "BoundP" => ((refine' boundP (by k_asm) (by k_mem)))
  k_with "exec While BoolOp" => ((k_dflt (refine whl_start 100 ?_)))
  k_with "exec While Compare" => ((k_dflt (refine whl_start 100 ?_)))
  k_with "call ref" => ((k_dflt (refine' escape_ctr (by k_asm) (by k_asm) (by k_asm) (by k_asm) (by k_asm) (by first | exact rfl | assumption) (by ktr_room) (by ktr_units) (by assumption) ?_; k_whole); intro _ _ _ _ _; (try dsimp only); (try k_fold)))
  k_with "call builtin:len" => ((k_dflt (refine' len_base (k := 10) (by k_asm) (by assumption) (by rfl) (by decide) ?_; k_whole); intro _ _))
  k_with "subscriptTail Name Name ref int" => ((k_dflt (first | (refine' base_at0 (by k_asm) (by assumption) (by decide) ?_; k_whole) | (refine' base_at1 (by k_asm) (by assumption) (by decide) ?_; k_whole) | (refine' base_at2 (by k_asm) (by assumption) (by decide) ?_; k_whole) | (refine' base_at3 (by k_asm) (by assumption) (by decide) ?_; k_whole) | (refine' base_at4 (by k_asm) (by assumption) (by decide) ?_; k_whole) | (refine' base_at5 (by k_asm) (by assumption) (by decide) ?_; k_whole) | (refine' base_at6 (by k_asm) (by assumption) (by decide) ?_; k_whole) | (refine' base_at7 (by k_asm) (by assumption) (by decide) ?_; k_whole) | (refine' base_at8 (by k_asm) (by assumption) (by decide) ?_; k_whole) | (refine' base_at9 (by k_asm) (by assumption) (by decide) ?_; k_whole))))
  k_with "call builtin:list.append" => (((with_reducible show wpAny _ _ (call (Value.builtin _) [Value.ref _, _]) _ _ _); k_dflt (refine' append_K (by k_asm) (by k_asm) (by k_upd) ?_ (by exact Nat.le_of_ble_eq_true rfl); k_whole); intro _ _ _; (try k_sweep)))
  trivial
theorem join_ctr (B : Below A₀ base outer h₀) (F : Fr h₀ L s.heap m) (X : (heap w.params).In h₀) (N : News h₀ L s.heap news) (T : Top p loose mean mg mb h₀) (hk : cs.kind = .function) (hdp : dp + 4 < recursionLimit) (hun : un + 40 < cLine)
    {e0 e1 e2 e3 e4 e5 e6 e7 : Array Nat} {u0 u1 u2 u3 u4 u5 u6 u7 : Tok} {pl st : Addr} {n : Nat} (hpl : s.heap.get? pl = some (listOf #[.ref st, .str ⟨e0⟩ u0, .str ⟨e1⟩ u1, .str ⟨e2⟩ u2, .str ⟨e3⟩ u3, .str ⟨e4⟩ u4, .str ⟨e5⟩ u5, .str ⟨e6⟩ u6, .str ⟨e7⟩ u7, .ref st] n)) (hst : s.heap.get? st = some objectOf) (he : e0.size ≤ 2 ∧ e1.size ≤ 2 ∧ e2.size ≤ 2 ∧ e3.size ≤ 2 ∧ e4.size ≤ 2 ∧ e5.size ≤ 2 ∧ e6.size ≤ 2 ∧ e7.size ≤ 2)
    (ret : ∀ t h' tk', Fr h₀ L h' m → News h₀ L h' news → Q (.str (told (cat [⟨e0⟩, ⟨e1⟩, ⟨e2⟩, ⟨e3⟩, ⟨e4⟩, ⟨e5⟩, ⟨e6⟩, ⟨e7⟩])) t) { s with heap := h', toks := tk' }) :
    wpAny (model PySem.Challenge.rw_in0265_01.row.prog w) (ktrTop dp un gd cn cs L a ccd cl outer) (call (.ref 149) [.ref pl, .ref st]) Q E s := by
  obtain ⟨hp, gs, dr, tk₀, os⟩ := s
  dsimp only at *

  refine wpAny_call ?_
  k_dflt cell_enter
  k_steps
  rename Fr hp _ _ _ => F1
  rename News hp _ _ _ => N1
  refine join_K (ys := [⟨e0⟩, ⟨e1⟩, ⟨e2⟩, ⟨e3⟩, ⟨e4⟩, ⟨e5⟩, ⟨e6⟩, ⟨e7⟩]) N1 (by k_mem) ?_ ?_ ?_
  · (repeat (first | exact StrsAre.nil | refine StrsAre.cons _ _ ?_))
  · show e0.size + (e1.size + (e2.size + (e3.size + (e4.size + (e5.size + (e6.size + (e7.size + 0))))))) ≤ 1000000
    omega
  intro t2 k2
  have hl : (cat [⟨e0⟩, ⟨e1⟩, ⟨e2⟩, ⟨e3⟩, ⟨e4⟩, ⟨e5⟩, ⟨e6⟩, ⟨e7⟩]).length ≤ 16 := by
    show (List.toArray _).size ≤ 16
    simp only [List.map_cons, List.map_nil, List.flatten_cons, List.flatten_nil, List.size_toArray, List.length_append, List.length_nil, Array.length_toList]
    omega
  generalize hy : cat [⟨e0⟩, ⟨e1⟩, ⟨e2⟩, ⟨e3⟩, ⟨e4⟩, ⟨e5⟩, ⟨e6⟩, ⟨e7⟩] = y at *
  k_steps
  rename Fr hp _ _ _ => F2
  rename News hp _ _ _ => N2
  refine join_K (ys := [Str.empty ++ PySem.Str.ofString "(?>.*?" ++ y ++ PySem.Str.ofString ")", PySem.Str.ofString ".*"]) N2 (by k_mem) ?_ ?_ ?_
  · (repeat (first | exact StrsAre.nil | refine StrsAre.cons _ _ ?_))
  · have a1 : (PySem.Str.ofString "(?>.*?").length = 6 := by decide +kernel
    have a2 : (PySem.Str.ofString ")").length = 1 := by decide +kernel
    have a3 : (PySem.Str.ofString ".*").length = 2 := by decide +kernel
    simp only [List.map_cons, List.map_nil, List.sum_cons, List.sum_nil, PySem.Str.length_append, PySem.Str.empty_append, a1, a2, a3]
    omega
  intro t3 k3
  have hz := told_eq y
  have hzl := mid_len y
  generalize hzz : cat [Str.empty ++ PySem.Str.ofString "(?>.*?" ++ y ++ PySem.Str.ofString ")", PySem.Str.ofString ".*"] = z at *
  k_steps
  rename Fr h₀ L _ m => kF
  rename Fr hp _ _ _ => F3
  rw [hz]
  subst hy
  exact ret _ _ _ kF (news_kept N F3.keep)

end
end Mine
end
section
namespace Mine
theorem fresh_P4 : True := by
  w_top off
  trivial
end Mine
open PySem PySem.W PyProof.Rows
set_option Elab.async false
set_option maxRecDepth 100000
set_option maxHeartbeats 2000000
namespace Mine
theorem said_P4_0 : True := by
  k_with_none
  k_with "k_enter" => (first | (refine' code_def (by k_asm) (by k_asm) (by k_asm) (by k_asm) (by k_asm) rfl rfl (by first | exact rfl | assumption) (by k_is) (by k_is) (by ktr_room) (by first | exact BindsTo.of_eq rfl | (refine' kp_binds (by k_in) (by exact fun _ => rfl))) (by exact locs rfl) ?_ (by exact rfl) (by exact rfl) (by exact rfl) (by decide); k_whole; intro _ _ _ _ _ _ _ _ _; (try dsimp only); (try k_fold)) | (refine' code_defC (by k_asm) (by k_asm) (by k_asm) (by k_asm) (by k_asm) rfl rfl (by first | exact rfl | assumption) (by k_is) (by k_is) (by ktr_room) (by first | exact BindsTo.of_eq rfl | (refine' kp_binds (by k_in) (by exact fun _ => rfl))) (by exact rfl) (by decide +kernel) ?_ (by exact rfl) (by exact rfl) (by exact rfl); k_whole; intro _ _ _ _ _ N' Y' _ _ _ l1; (try k_lt l1); k_cells Y'; (try simp only [List.cons_append, List.nil_append] at N'); (try dsimp only); (try k_fold)))
  k_with "cell_enter" => (first | (refine' enterS (by k_asm) (by k_asm) (by k_asm) (by k_asm) rfl rfl (by first | exact rfl | assumption) (by k_is) (by k_is) (by ktr_room) (by first | exact BindsTo.of_eq rfl | (refine' kp_binds (by k_in) (by exact fun _ => rfl))) (by exact locs rfl) ?_ (by exact rfl) (by exact rfl) (by exact rfl) (by decide); k_whole; intro _ _ _ _ _ _ _; (try dsimp only); (try k_fold)) | (refine' enterCS (by k_asm) (by k_asm) (by k_asm) (by k_asm) rfl rfl (by first | exact rfl | assumption) (by k_is) (by k_is) (by ktr_room) (by first | exact BindsTo.of_eq rfl | (refine' kp_binds (by k_in) (by exact fun _ => rfl))) (by exact rfl) (by decide +kernel) ?_ (by exact rfl) (by exact rfl) (by exact rfl); k_whole; intro _ _ _ _ _ N' Y' _ _ _; k_cells Y'; (try simp only [List.cons_append, List.nil_append] at N'); (try dsimp only); (try k_fold)))
  k_with "binaryOp Pow int int" => (((with_reducible refine pow_int_small (by first | assumption | omega) (by omega) (by decide) ?_)))
  k_with "call type:type" => (((with_reducible show wpAny _ _ (call _ [Value.bytes _ _]) _ _ _); refine call_type_of (Tx := "bytes") rfl (by decide +kernel) ?_))
  k_with "callWith ref" => ((k_dflt (first | (refine' callWith_K (by k_asm) (by k_is) ?_; k_whole) | (refine' callWith_K0 (by k_in) (by k_is) ?_; k_whole))))
  k_with "compareOp Is ref ref" => ((refine wpAny_is_ref_self ?_))
  k_with "compareOp IsNot ref ref" => ((refine wpAny_isNot_ref_self ?_))
  trivial
section
variable {w : World} {p : Program} {loose : List Str} {mean : ExcName → Option Value} {mg mb : Str → Option Value}
    {dp un : Nat} {gd : Option (List Code)} {cn : Str} {cs : Scope} {a : Addr} {ccd : Value} {cl : List (Str × Addr)} {outer : List Env} {A₀ : Around} {base h₀ : Heap} {L : Addr} {m : Str → Option Value} {s : Shared} {Q E : Value → Shared → Prop} {news : List (Addr × Obj)}
theorem said_P4_1 : True := by
  k_with "getMethod str" => ((with_reducible refine method_translate ?_))
  k_with "getMethod str" => ((with_reducible refine method_encode ?_))
  k_with "getMethod bytes" => ((with_reducible refine method_hex ?_))
  k_with "getMethod bytes" => ((with_reducible refine method_upper ?_))
  k_with "call builtin:bytes.hex" => ((with_reducible refine call_hex ?_))
  k_with "call type:object" => ((k_dflt (refine' call_objectK (by k_asm) (by k_asm) ?_; k_whole); intro _ _ _ _ l1; (try k_lt l1); (try k_sweep)))
  k_with "getAttr ref" => ((k_dflt (refine' getAttr_appendK (by k_asm) (by k_asm) (by k_mem) ?_; k_whole); intro _ _ _ _ _ l1; (try k_lt l1); (try k_sweep)))
  k_with "callWith ref" => ((k_dflt (refine' callWith_B (by k_asm) (by k_mem) ?_; k_whole)))
  k_with "And" => (((with_reducible show BoundP _ _ _ ∧ _); refine' And.intro (boundP (by k_asm) (by k_mem)) ?_; try dsimp only [List.nil_append, List.cons_append]))
  k_with "call ref" => ((k_dflt (refine' call_boundK (by k_asm) (by k_asm) (by k_mem) (by k_upd) ?_ (by size_fits); k_whole); intro _ _ _; (try k_sweep)))
  k_with "call builtin:len" => ((with_reducible refine len10 ?_; intro _ _))
  k_with "compareOp Eq str str" => (((with_reducible show wpAny _ _ (compareOp _ (Value.str (PySem.Str.mk _) _) _) _ _ _); first | refine eq_one_t (by with_unfolding_all rfl) ?_ | refine eq_one_f (by with_unfolding_all rfl) (ne_of_b64 (by assumption) (by decide)) ?_))
  k_with "subscriptTail Name Name str int" => ((first | refine item_at0 (by decide) ?_ | refine item_at1 (by decide) ?_ | refine item_at2 (by decide) ?_ | refine item_at3 (by decide) ?_ | refine item_at4 (by decide) ?_ | refine item_at5 (by decide) ?_ | refine item_at6 (by decide) ?_ | refine item_at7 (by decide) ?_ | refine item_at8 (by decide) ?_ | refine item_at9 (by decide) ?_))
  k_with "compareOp IsNot" => (((with_reducible show wpAny _ _ (compareOp CmpOp.IsNot (Value.str _ _) (Value.ref _)) _ _ _); refine wpAny_isNot_other (by rfl) (by intro x; cases x) ?_))
  k_with "BoundP" => ((refine' boundP (by k_asm) (by k_mem)))
  k_with "exec While BoolOp" => ((k_dflt (refine whl_start 100 ?_)))
  k_with "exec While Compare" => ((k_dflt (refine whl_start 100 ?_)))
  k_with "call ref" => ((k_dflt (refine' escape_ctr (by k_asm) (by k_asm) (by k_asm) (by k_asm) (by k_asm) (by first | exact rfl | assumption) (by ktr_room) (by ktr_units) (by assumption) ?_; k_whole); intro _ _ _ _ _; (try dsimp only); (try k_fold)))
  trivial
theorem esc_size (c : Nat) : (esc c).size ≤ 2 := by unfold esc; split <;> simp
theorem said_P4_2 : True := by
  k_with "call ref" => ((k_dflt (refine' utrans_ctr (by k_asm) (by k_asm) (by k_asm) (by k_asm) (by k_asm) (by first | exact rfl | assumption) (by ktr_room) (by ktr_units) (by assumption) (by assumption) (by assumption) (by assumption) (by assumption) (by assumption) (by assumption) (by assumption) ?_; k_whole); intro _ _ _ _ _ _ _ _ _ _ _ _ _ _ l1; (replace l1 := allNe_of l1; simp only [AllNe, and_true] at l1); (try dsimp only); (try k_fold)))
  k_with "call ref" => ((k_dflt (refine' join_ctr (by k_asm) (by k_asm) (by k_asm) (by k_asm) (by k_asm) (by first | exact rfl | assumption) (by ktr_room) (by ktr_units) (by exact News.get (by k_asm) (by k_mem)) (by exact News.get (by k_asm) (by k_mem)) (by exact ⟨esc_size _, esc_size _, esc_size _, esc_size _, esc_size _, esc_size _, esc_size _, esc_size _⟩) ?_; k_whole); intro _ _ _ _ _; (try dsimp only); (try k_fold)))
  trivial
theorem translate_ctr (B : Below A₀ base outer h₀) (F : Fr h₀ L s.heap m) (X : (heap w.params).In h₀) (N : News h₀ L s.heap news) (T : Top p loose mean mg mb h₀) (hk : cs.kind = .function) (hdp : dp + 6 < recursionLimit) (hun : un + 60 < cLine)
    {c0 c1 c2 c3 c4 c5 c6 c7 : Nat} (hc0 : c0 ∈ b64) (hc1 : c1 ∈ b64) (hc2 : c2 ∈ b64) (hc3 : c3 ∈ b64) (hc4 : c4 ∈ b64) (hc5 : c5 ∈ b64) (hc6 : c6 ∈ b64) (hc7 : c7 ∈ b64) {t₁ : Tok}
    (ret : ∀ t h' tk', Fr h₀ L h' m → News h₀ L h' news → Q (.str (told (cat [⟨esc c0⟩, ⟨esc c1⟩, ⟨esc c2⟩, ⟨esc c3⟩, ⟨esc c4⟩, ⟨esc c5⟩, ⟨esc c6⟩, ⟨esc c7⟩])) t) { s with heap := h', toks := tk' }) :
    wpAny (model PySem.Challenge.rw_in0265_01.row.prog w) (ktrTop dp un gd cn cs L a ccd cl outer) (call (.ref 123) [.str ⟨#[42, c0, c1, c2, c3, c4, c5, c6, c7, 42]⟩ t₁]) Q E s := by
  obtain ⟨hp, gs, dr, tk₀, os⟩ := s
  dsimp only at *

  refine wpAny_call ?_
  k_dflt cell_enter
  k_steps
  rename Fr h₀ L _ m => kF
  rename Fr hp _ _ _ => F3
  exact ret _ _ _ kF (news_kept N F3.keep)

end
end Mine
end
section
namespace Mine
theorem fresh_P5 : True := by
  w_top off
  trivial
end Mine
open PySem PySem.W PyProof.Rows
set_option Elab.async false
set_option maxRecDepth 100000
set_option maxHeartbeats 2000000
namespace Mine
theorem said_P5_0 : True := by
  k_with_none
  k_with "k_enter" => (first | (refine' code_def (by k_asm) (by k_asm) (by k_asm) (by k_asm) (by k_asm) rfl rfl (by first | exact rfl | assumption) (by k_is) (by k_is) (by ktr_room) (by first | exact BindsTo.of_eq rfl | (refine' kp_binds (by k_in) (by exact fun _ => rfl))) (by exact locs rfl) ?_ (by exact rfl) (by exact rfl) (by exact rfl) (by decide); k_whole; intro _ _ _ _ _ _ _ _ _; (try dsimp only); (try k_fold)) | (refine' code_defC (by k_asm) (by k_asm) (by k_asm) (by k_asm) (by k_asm) rfl rfl (by first | exact rfl | assumption) (by k_is) (by k_is) (by ktr_room) (by first | exact BindsTo.of_eq rfl | (refine' kp_binds (by k_in) (by exact fun _ => rfl))) (by exact rfl) (by decide +kernel) ?_ (by exact rfl) (by exact rfl) (by exact rfl); k_whole; intro _ _ _ _ _ N' Y' _ _ _ l1; (try k_lt l1); k_cells Y'; (try simp only [List.cons_append, List.nil_append] at N'); (try dsimp only); (try k_fold)))
  k_with "cell_enter" => (first | (refine' enterS (by k_asm) (by k_asm) (by k_asm) (by k_asm) rfl rfl (by first | exact rfl | assumption) (by k_is) (by k_is) (by ktr_room) (by first | exact BindsTo.of_eq rfl | (refine' kp_binds (by k_in) (by exact fun _ => rfl))) (by exact locs rfl) ?_ (by exact rfl) (by exact rfl) (by exact rfl) (by decide); k_whole; intro _ _ _ _ _ _ _; (try dsimp only); (try k_fold)) | (refine' enterCS (by k_asm) (by k_asm) (by k_asm) (by k_asm) rfl rfl (by first | exact rfl | assumption) (by k_is) (by k_is) (by ktr_room) (by first | exact BindsTo.of_eq rfl | (refine' kp_binds (by k_in) (by exact fun _ => rfl))) (by exact rfl) (by decide +kernel) ?_ (by exact rfl) (by exact rfl) (by exact rfl); k_whole; intro _ _ _ _ _ N' Y' _ _ _; k_cells Y'; (try simp only [List.cons_append, List.nil_append] at N'); (try dsimp only); (try k_fold)))
  k_with "binaryOp Pow int int" => (((with_reducible refine pow_int_small (by first | assumption | omega) (by omega) (by decide) ?_)))
  k_with "call type:type" => (((with_reducible show wpAny _ _ (call _ [Value.bytes _ _]) _ _ _); refine call_type_of (Tx := "bytes") rfl (by decide +kernel) ?_))
  k_with "callWith ref" => ((k_dflt (first | (refine' callWith_K (by k_asm) (by k_is) ?_; k_whole) | (refine' callWith_K0 (by k_in) (by k_is) ?_; k_whole))))
  k_with "compareOp Is ref ref" => ((refine wpAny_is_ref_self ?_))
  k_with "compareOp IsNot ref ref" => ((refine wpAny_isNot_ref_self ?_))
  trivial
section
variable {w : World} {p : Program} {loose : List Str} {mean : ExcName → Option Value} {mg mb : Str → Option Value}
    {dp un : Nat} {gd : Option (List Code)} {cn : Str} {cs : Scope} {a : Addr} {ccd : Value} {cl : List (Str × Addr)} {outer : List Env} {A₀ : Around} {base h₀ : Heap} {L : Addr} {m : Str → Option Value} {s : Shared} {Q E : Value → Shared → Prop} {news : List (Addr × Obj)}
theorem said_P5_1 : True := by
  k_with "getMethod str" => ((with_reducible refine method_translate ?_))
  k_with "getMethod str" => ((with_reducible refine method_encode ?_))
  k_with "getMethod bytes" => ((with_reducible refine method_hex ?_))
  k_with "getMethod bytes" => ((with_reducible refine method_upper ?_))
  k_with "call builtin:bytes.hex" => ((with_reducible refine call_hex ?_))
  k_with "call type:object" => ((k_dflt (refine' call_objectK (by k_asm) (by k_asm) ?_; k_whole); intro _ _ _ _ l1; (try k_lt l1); (try k_sweep)))
  k_with "getAttr ref" => ((k_dflt (refine' getAttr_appendK (by k_asm) (by k_asm) (by k_mem) ?_; k_whole); intro _ _ _ _ _ l1; (try k_lt l1); (try k_sweep)))
  k_with "callWith ref" => ((k_dflt (refine' callWith_B (by k_asm) (by k_mem) ?_; k_whole)))
  k_with "And" => (((with_reducible show BoundP _ _ _ ∧ _); refine' And.intro (boundP (by k_asm) (by k_mem)) ?_; try dsimp only [List.nil_append, List.cons_append]))
  k_with "call ref" => ((k_dflt (refine' call_boundK (by k_asm) (by k_asm) (by k_mem) (by k_upd) ?_ (by size_fits); k_whole); intro _ _ _; (try k_sweep)))
  k_with "call builtin:len" => ((with_reducible refine len10 ?_; intro _ _))
  k_with "compareOp Eq str str" => (((with_reducible show wpAny _ _ (compareOp _ (Value.str (PySem.Str.mk _) _) _) _ _ _); first | refine eq_one_t (by with_unfolding_all rfl) ?_ | refine eq_one_f (by with_unfolding_all rfl) (ne_of_b64 (by assumption) (by decide)) ?_))
  k_with "subscriptTail Name Name str int" => ((first | refine item_at0 (by decide) ?_ | refine item_at1 (by decide) ?_ | refine item_at2 (by decide) ?_ | refine item_at3 (by decide) ?_ | refine item_at4 (by decide) ?_ | refine item_at5 (by decide) ?_ | refine item_at6 (by decide) ?_ | refine item_at7 (by decide) ?_ | refine item_at8 (by decide) ?_ | refine item_at9 (by decide) ?_))
  k_with "compareOp IsNot" => (((with_reducible show wpAny _ _ (compareOp CmpOp.IsNot (Value.str _ _) (Value.ref _)) _ _ _); refine wpAny_isNot_other (by rfl) (by intro x; cases x) ?_))
  k_with "BoundP" => ((refine' boundP (by k_asm) (by k_mem)))
  k_with "exec While BoolOp" => ((k_dflt (refine whl_start 100 ?_)))
  k_with "exec While Compare" => ((k_dflt (refine whl_start 100 ?_)))
  k_with "call builtin:list.append" => (((with_reducible show wpAny _ _ (call (Value.builtin _) [Value.ref _, _]) _ _ _); k_dflt (refine' append_K (by k_asm) (by k_asm) (by k_upd) ?_ (by exact Nat.le_of_ble_eq_true rfl); k_whole); intro _ _ _; (try k_sweep)))
  k_with "binaryOp LShift int int" => ((with_reducible refine shl8 ?_ (by omega)))
  k_with "binaryOp BitOr int int" => ((with_reducible refine or8 (by omega) (by omega) (by omega) ?_))
  k_with "binaryOp BitAnd int int" => (first | with_reducible refine and16 ?_ | with_reducible refine and6 ?_)
  k_with "binaryOp RShift int int" => (first | (with_reducible refine shr0 (by decide) ?_) | (with_reducible refine shr2 (by decide) ?_) | (with_reducible refine shr4 (by decide) ?_) | (with_reducible refine shr6 (by decide) ?_))
  k_with "subscriptTail Name BinOp bytes int" => ((refine item_b64 (by omega) (by omega) ?_))
  k_with "pyIter bytes" => (((rename Fr _ _ _ _ => lF'); (rename News _ _ _ _ => lN'); (with_unfolding_all refine iter_bytesUnr (l := [_, _, _, _, _, _]) (by rfl) lF' lN' (by rfl) ?_); clear lF' lN'; intro _ l1; (try k_lt l1)))
  k_with "call type:bytes" => ((k_dflt (refine' call_bytes8 (by k_asm) (by k_asm) (by k_mem) (by rfl) ?_; k_whole); intro _ _ _ _ _; (try k_sweep)))
  trivial
theorem b64_ctr (B : Below A₀ base outer h₀) (F : Fr h₀ L s.heap m) (X : (heap w.params).In h₀) (N : News h₀ L s.heap news) (T : Top p loose mean mg mb h₀) (hk : cs.kind = .function) (hdp : dp + 6 < recursionLimit) (hun : un + 60 < cLine)
    {v0 v1 v2 v3 v4 v5 : UInt8} {t₁ : Tok}
    (ret : ∀ t h' tk', Fr h₀ L h' m → News h₀ L h' news → Q (.bytes (byteArr ((sixes ((v0.toNat : Int) * 1099511627776 + (v1.toNat : Int) * 4294967296 + (v2.toNat : Int) * 16777216 + (v3.toNat : Int) * 65536 + (v4.toNat : Int) * 256 + (v5.toNat : Int))).map sign)) t) { s with heap := h', toks := tk' }) :
    wpAny (model PySem.Challenge.rw_in0265_01.row.prog w) (ktrTop dp un gd cn cs L a ccd cl outer) (call (.ref 104) [.bytes #[v0, v1, v2, v3, v4, v5] t₁]) Q E s := by
  obtain ⟨hp, gs, dr, tk₀, os⟩ := s
  dsimp only at *

  refine wpAny_call ?_
  k_dflt cell_enter
  k_steps
  rename Fr h₀ L _ m => kF
  rename Fr hp _ _ _ => F3
  rw [b64_sixes (u8_int v0) (u8_int v1) (u8_int v2) (u8_int v3) (u8_int v4) (u8_int v5)]
  exact ret _ _ _ kF (news_kept N F3.keep)

end
end Mine
end
section
namespace Mine
theorem fresh_P6 : True := by
  w_top off
  trivial
end Mine
open PySem PySem.W PyProof.Rows
set_option Elab.async false
set_option maxRecDepth 100000
set_option maxHeartbeats 2000000
namespace Mine
theorem said_P6_0 : True := by
  k_with_none
  k_with "k_enter" => (first | (refine' code_def (by k_asm) (by k_asm) (by k_asm) (by k_asm) (by k_asm) rfl rfl (by first | exact rfl | assumption) (by k_is) (by k_is) (by ktr_room) (by first | exact BindsTo.of_eq rfl | (refine' kp_binds (by k_in) (by exact fun _ => rfl))) (by exact locs rfl) ?_ (by exact rfl) (by exact rfl) (by exact rfl) (by decide); k_whole; intro _ _ _ _ _ _ _ _ _; (try dsimp only); (try k_fold)) | (refine' code_defC (by k_asm) (by k_asm) (by k_asm) (by k_asm) (by k_asm) rfl rfl (by first | exact rfl | assumption) (by k_is) (by k_is) (by ktr_room) (by first | exact BindsTo.of_eq rfl | (refine' kp_binds (by k_in) (by exact fun _ => rfl))) (by exact rfl) (by decide +kernel) ?_ (by exact rfl) (by exact rfl) (by exact rfl); k_whole; intro _ _ _ _ _ N' Y' _ _ _ l1; (try k_lt l1); k_cells Y'; (try simp only [List.cons_append, List.nil_append] at N'); (try dsimp only); (try k_fold)))
  k_with "cell_enter" => (first | (refine' enterS (by k_asm) (by k_asm) (by k_asm) (by k_asm) rfl rfl (by first | exact rfl | assumption) (by k_is) (by k_is) (by ktr_room) (by first | exact BindsTo.of_eq rfl | (refine' kp_binds (by k_in) (by exact fun _ => rfl))) (by exact locs rfl) ?_ (by exact rfl) (by exact rfl) (by exact rfl) (by decide); k_whole; intro _ _ _ _ _ _ _; (try dsimp only); (try k_fold)) | (refine' enterCS (by k_asm) (by k_asm) (by k_asm) (by k_asm) rfl rfl (by first | exact rfl | assumption) (by k_is) (by k_is) (by ktr_room) (by first | exact BindsTo.of_eq rfl | (refine' kp_binds (by k_in) (by exact fun _ => rfl))) (by exact rfl) (by decide +kernel) ?_ (by exact rfl) (by exact rfl) (by exact rfl); k_whole; intro _ _ _ _ _ N' Y' _ _ _; k_cells Y'; (try simp only [List.cons_append, List.nil_append] at N'); (try dsimp only); (try k_fold)))
  k_with "binaryOp Pow int int" => (((with_reducible refine pow_int_small (by first | assumption | omega) (by omega) (by decide) ?_)))
  k_with "call type:type" => (((with_reducible show wpAny _ _ (call _ [Value.bytes _ _]) _ _ _); refine call_type_of (Tx := "bytes") rfl (by decide +kernel) ?_))
  k_with "callWith ref" => ((k_dflt (first | (refine' callWith_K (by k_asm) (by k_is) ?_; k_whole) | (refine' callWith_K0 (by k_in) (by k_is) ?_; k_whole))))
  k_with "compareOp Is ref ref" => ((refine wpAny_is_ref_self ?_))
  k_with "compareOp IsNot ref ref" => ((refine wpAny_isNot_ref_self ?_))
  trivial
section
variable {w : World} {p : Program} {loose : List Str} {mean : ExcName → Option Value} {mg mb : Str → Option Value}
    {dp un : Nat} {gd : Option (List Code)} {cn : Str} {cs : Scope} {a : Addr} {ccd : Value} {cl : List (Str × Addr)} {outer : List Env} {A₀ : Around} {base h₀ : Heap} {L : Addr} {m : Str → Option Value} {s : Shared} {Q E : Value → Shared → Prop} {news : List (Addr × Obj)}
/-- the figure of a number below 16 -/
noncomputable def hexs : List Nat := [48, 49, 50, 51, 52, 53, 54, 55, 56, 57, 65, 66, 67, 68, 69, 70]
noncomputable def figure (k : Int) : Int := ((hexs.getD k.toNat 0 : Nat) : Int)
theorem hexDigit_lt {n : Nat} (h : n < 16) : Builtin.Bytes.hexDigit n < 128 := by unfold Builtin.Bytes.hexDigit; split <;> omega
theorem hex6_lt {a b c d e f : UInt8} : ∀ x ∈ (⟨hex6 a b c d e f⟩ : PySem.Str).cps, x < 128 := by
  have ha := a.toNat_lt; have hb := b.toNat_lt; have hc := c.toNat_lt; have hd := d.toNat_lt; have he := e.toNat_lt; have hf := f.toNat_lt
  intro x hx
  simp only [hex6, List.mem_toArray, List.mem_cons, List.not_mem_nil, or_false] at hx
  rcases hx with rfl | rfl | rfl | rfl | rfl | rfl | rfl | rfl | rfl | rfl | rfl | rfl <;> exact hexDigit_lt (by omega)
theorem consEq {a b : UInt8} {l r : List UInt8} (h : a = b) (h2 : l = r) : a :: l = b :: r := by rw [h, h2]
theorem up_fig : ∀ n < 16, Builtin.Bytes.toUpper (Builtin.Bytes.hexDigit n).toUInt8 = (hexs.getD n 0).toUInt8 := by decide
theorem dig {n : Nat} {k : Int} (h : n < 16) (hk : k = (n : Int)) : Builtin.Bytes.toUpper (Builtin.Bytes.hexDigit n).toUInt8 = (figure k).toNat.toUInt8 := by
  subst hk
  rw [up_fig n h]; rfl
theorem hi_dig (v : UInt8) : Builtin.Bytes.toUpper (Builtin.Bytes.hexDigit (v.toNat / 16)).toUInt8 = (figure ((v.toNat : Int) / 16)).toNat.toUInt8 := dig (by have := v.toNat_lt; omega) (by omega)
theorem lo_dig (v : UInt8) : Builtin.Bytes.toUpper (Builtin.Bytes.hexDigit (v.toNat % 16)).toUInt8 = (figure ((v.toNat : Int) % 16)).toNat.toUInt8 := dig (Nat.mod_lt _ (by decide)) (by omega)
theorem hex_fours {v0 v1 v2 v3 v4 v5 : UInt8} : (List.map Builtin.Bytes.toUpper (Array.map Nat.toUInt8 (hex6 v0 v1 v2 v3 v4 v5)).toList).toArray = byteArr ((fours ((v0.toNat : Int) * 1099511627776 + (v1.toNat : Int) * 4294967296 + (v2.toNat : Int) * 16777216 + (v3.toNat : Int) * 65536 + (v4.toNat : Int) * 256 + (v5.toNat : Int))).map figure) := by
  unfold byteArr
  rw [fours_octs (u8_int v0) (u8_int v1) (u8_int v2) (u8_int v3) (u8_int v4) (u8_int v5)]
  refine congrArg List.toArray ?_
  rw [Array.toList_map]
  show [Builtin.Bytes.toUpper (Builtin.Bytes.hexDigit (v0.toNat / 16)).toUInt8, Builtin.Bytes.toUpper (Builtin.Bytes.hexDigit (v0.toNat % 16)).toUInt8, Builtin.Bytes.toUpper (Builtin.Bytes.hexDigit (v1.toNat / 16)).toUInt8, Builtin.Bytes.toUpper (Builtin.Bytes.hexDigit (v1.toNat % 16)).toUInt8, Builtin.Bytes.toUpper (Builtin.Bytes.hexDigit (v2.toNat / 16)).toUInt8, Builtin.Bytes.toUpper (Builtin.Bytes.hexDigit (v2.toNat % 16)).toUInt8, Builtin.Bytes.toUpper (Builtin.Bytes.hexDigit (v3.toNat / 16)).toUInt8, Builtin.Bytes.toUpper (Builtin.Bytes.hexDigit (v3.toNat % 16)).toUInt8, Builtin.Bytes.toUpper (Builtin.Bytes.hexDigit (v4.toNat / 16)).toUInt8, Builtin.Bytes.toUpper (Builtin.Bytes.hexDigit (v4.toNat % 16)).toUInt8, Builtin.Bytes.toUpper (Builtin.Bytes.hexDigit (v5.toNat / 16)).toUInt8, Builtin.Bytes.toUpper (Builtin.Bytes.hexDigit (v5.toNat % 16)).toUInt8] = _
  refine consEq (hi_dig v0) ?_
  refine consEq (lo_dig v0) ?_
  refine consEq (hi_dig v1) ?_
  refine consEq (lo_dig v1) ?_
  refine consEq (hi_dig v2) ?_
  refine consEq (lo_dig v2) ?_
  refine consEq (hi_dig v3) ?_
  refine consEq (lo_dig v3) ?_
  refine consEq (hi_dig v4) ?_
  refine consEq (lo_dig v4) ?_
  refine consEq (hi_dig v5) ?_
  refine consEq (lo_dig v5) ?_
  rfl
theorem said_P6_1 : True := by
  k_with "getMethod str" => ((with_reducible refine method_translate ?_))
  k_with "getMethod str" => ((with_reducible refine method_encode ?_))
  k_with "getMethod bytes" => ((with_reducible refine method_hex ?_))
  k_with "getMethod bytes" => ((with_reducible refine method_upper ?_))
  k_with "call builtin:bytes.hex" => ((with_reducible refine call_hex ?_))
  k_with "call type:object" => ((k_dflt (refine' call_objectK (by k_asm) (by k_asm) ?_; k_whole); intro _ _ _ _ l1; (try k_lt l1); (try k_sweep)))
  k_with "getAttr ref" => ((k_dflt (refine' getAttr_appendK (by k_asm) (by k_asm) (by k_mem) ?_; k_whole); intro _ _ _ _ _ l1; (try k_lt l1); (try k_sweep)))
  k_with "callWith ref" => ((k_dflt (refine' callWith_B (by k_asm) (by k_mem) ?_; k_whole)))
  k_with "And" => (((with_reducible show BoundP _ _ _ ∧ _); refine' And.intro (boundP (by k_asm) (by k_mem)) ?_; try dsimp only [List.nil_append, List.cons_append]))
  k_with "call ref" => ((k_dflt (refine' call_boundK (by k_asm) (by k_asm) (by k_mem) (by k_upd) ?_ (by size_fits); k_whole); intro _ _ _; (try k_sweep)))
  k_with "call builtin:len" => ((with_reducible refine len10 ?_; intro _ _))
  k_with "compareOp Eq str str" => (((with_reducible show wpAny _ _ (compareOp _ (Value.str (PySem.Str.mk _) _) _) _ _ _); first | refine eq_one_t (by with_unfolding_all rfl) ?_ | refine eq_one_f (by with_unfolding_all rfl) (ne_of_b64 (by assumption) (by decide)) ?_))
  k_with "subscriptTail Name Name str int" => ((first | refine item_at0 (by decide) ?_ | refine item_at1 (by decide) ?_ | refine item_at2 (by decide) ?_ | refine item_at3 (by decide) ?_ | refine item_at4 (by decide) ?_ | refine item_at5 (by decide) ?_ | refine item_at6 (by decide) ?_ | refine item_at7 (by decide) ?_ | refine item_at8 (by decide) ?_ | refine item_at9 (by decide) ?_))
  k_with "compareOp IsNot" => (((with_reducible show wpAny _ _ (compareOp CmpOp.IsNot (Value.str _ _) (Value.ref _)) _ _ _); refine wpAny_isNot_other (by rfl) (by intro x; cases x) ?_))
  k_with "BoundP" => ((refine' boundP (by k_asm) (by k_mem)))
  k_with "exec While BoolOp" => ((k_dflt (refine whl_start 100 ?_)))
  k_with "exec While Compare" => ((k_dflt (refine whl_start 100 ?_)))
  k_with "call builtin:str.encode" => ((refine call_encode (n := 10) hex6_lt rfl (by decide) ?_))
  k_with "call builtin:bytes.upper" => ((refine call_upper (by with_unfolding_all exact Nat.le_of_ble_eq_true rfl) ?_))
  trivial
theorem b16_ctr (B : Below A₀ base outer h₀) (F : Fr h₀ L s.heap m) (X : (heap w.params).In h₀) (N : News h₀ L s.heap news) (T : Top p loose mean mg mb h₀) (hk : cs.kind = .function) (hdp : dp + 6 < recursionLimit) (hun : un + 60 < cLine)
    {v0 v1 v2 v3 v4 v5 : UInt8} {t₁ : Tok}
    (ret : ∀ t h' tk', Fr h₀ L h' m → News h₀ L h' news → Q (.bytes (byteArr ((fours ((v0.toNat : Int) * 1099511627776 + (v1.toNat : Int) * 4294967296 + (v2.toNat : Int) * 16777216 + (v3.toNat : Int) * 65536 + (v4.toNat : Int) * 256 + (v5.toNat : Int))).map figure)) t) { s with heap := h', toks := tk' }) :
    wpAny (model PySem.Challenge.rw_in0265_01.row.prog w) (ktrTop dp un gd cn cs L a ccd cl outer) (call (.ref 111) [.bytes #[v0, v1, v2, v3, v4, v5] t₁]) Q E s := by
  obtain ⟨hp, gs, dr, tk₀, os⟩ := s
  dsimp only at *

  refine wpAny_call ?_
  k_dflt cell_enter
  k_steps
  rename Fr h₀ L _ m => kF
  rename Fr hp _ _ _ => F3
  rw [hex_fours]
  exact ret _ _ _ kF (news_kept N F3.keep)

end
end Mine
end
section
namespace Mine
theorem fresh_P7 : True := by
  w_top off
  trivial
end Mine
open PySem PySem.W PyProof.Rows
set_option Elab.async false
set_option maxRecDepth 100000
set_option maxHeartbeats 2000000
namespace Mine
theorem said_P7_0 : True := by
  k_with_none
  k_with "k_enter" => (first | (refine' code_def (by k_asm) (by k_asm) (by k_asm) (by k_asm) (by k_asm) rfl rfl (by first | exact rfl | assumption) (by k_is) (by k_is) (by ktr_room) (by first | exact BindsTo.of_eq rfl | (refine' kp_binds (by k_in) (by exact fun _ => rfl))) (by exact locs rfl) ?_ (by exact rfl) (by exact rfl) (by exact rfl) (by decide); k_whole; intro _ _ _ _ _ _ _ _ _; (try dsimp only); (try k_fold)) | (refine' code_defC (by k_asm) (by k_asm) (by k_asm) (by k_asm) (by k_asm) rfl rfl (by first | exact rfl | assumption) (by k_is) (by k_is) (by ktr_room) (by first | exact BindsTo.of_eq rfl | (refine' kp_binds (by k_in) (by exact fun _ => rfl))) (by exact rfl) (by decide +kernel) ?_ (by exact rfl) (by exact rfl) (by exact rfl); k_whole; intro _ _ _ _ _ N' Y' _ _ _ l1; (try k_lt l1); k_cells Y'; (try simp only [List.cons_append, List.nil_append] at N'); (try dsimp only); (try k_fold)))
  k_with "cell_enter" => (first | (refine' enterS (by k_asm) (by k_asm) (by k_asm) (by k_asm) rfl rfl (by first | exact rfl | assumption) (by k_is) (by k_is) (by ktr_room) (by first | exact BindsTo.of_eq rfl | (refine' kp_binds (by k_in) (by exact fun _ => rfl))) (by exact locs rfl) ?_ (by exact rfl) (by exact rfl) (by exact rfl) (by decide); k_whole; intro _ _ _ _ _ _ _; (try dsimp only); (try k_fold)) | (refine' enterCS (by k_asm) (by k_asm) (by k_asm) (by k_asm) rfl rfl (by first | exact rfl | assumption) (by k_is) (by k_is) (by ktr_room) (by first | exact BindsTo.of_eq rfl | (refine' kp_binds (by k_in) (by exact fun _ => rfl))) (by exact rfl) (by decide +kernel) ?_ (by exact rfl) (by exact rfl) (by exact rfl); k_whole; intro _ _ _ _ _ N' Y' _ _ _; k_cells Y'; (try simp only [List.cons_append, List.nil_append] at N'); (try dsimp only); (try k_fold)))
  k_with "binaryOp Pow int int" => (((with_reducible refine pow_int_small (by first | assumption | omega) (by omega) (by decide) ?_)))
  k_with "call type:type" => (((with_reducible show wpAny _ _ (call _ [Value.bytes _ _]) _ _ _); refine call_type_of (Tx := "bytes") rfl (by decide +kernel) ?_))
  k_with "callWith ref" => ((k_dflt (first | (refine' callWith_K (by k_asm) (by k_is) ?_; k_whole) | (refine' callWith_K0 (by k_in) (by k_is) ?_; k_whole))))
  k_with "compareOp Is ref ref" => ((refine wpAny_is_ref_self ?_))
  k_with "compareOp IsNot ref ref" => ((refine wpAny_isNot_ref_self ?_))
  trivial
section
variable {w : World} {p : Program} {loose : List Str} {mean : ExcName → Option Value} {mg mb : Str → Option Value}
    {dp un : Nat} {gd : Option (List Code)} {cn : Str} {cs : Scope} {a : Addr} {ccd : Value} {cl : List (Str × Addr)} {outer : List Env} {A₀ : Around} {base h₀ : Heap} {L : Addr} {m : Str → Option Value} {s : Shared} {Q E : Value → Shared → Prop} {news : List (Addr × Obj)}
theorem bInts_byteArr {ns : List Int} (h : ∀ n ∈ ns, 0 ≤ n ∧ n < 256) : KBw.bInts (byteArr ns) = ns := by
  unfold KBw.bInts byteArr
  induction ns with
  | nil => rfl
  | cons n r ih =>
    have h1 := h n (.head _)
    have e : ((n.toNat.toUInt8.toNat : Nat) : Int) = n := by
      have : n.toNat.toUInt8.toNat = n.toNat % 256 := rfl
      omega
    have ih' := ih fun x hx => h x (.tail _ hx)
    simp only [List.map_cons] at ih' ⊢
    rw [e, ih']
theorem oct_u8 (x : Int) (p : Int) (hp : 0 < p) : (((x.fdiv p).fmod 256).toNat.toUInt8.toNat : Int) = x / p % 256 := by
  rw [Int.fdiv_eq_ediv_of_nonneg _ (Int.le_of_lt hp), Int.fmod_eq_emod_of_nonneg _ (by decide)]
  have : (x / p % 256).toNat.toUInt8.toNat = (x / p % 256).toNat % 256 := rfl
  omega
theorem val_ring {ring : Int} (r0 : 0 ≤ ring) (r1 : ring < 281474976710656) :
    ((((ring.fdiv (2 ^ (40 - 8 * (0 + ((0 : Nat) : Int))).toNat)).fmod 256).toNat.toUInt8.toNat : Int) * 1099511627776 + (((ring.fdiv (2 ^ (40 - 8 * (0 + ((1 : Nat) : Int))).toNat)).fmod 256).toNat.toUInt8.toNat : Int) * 4294967296 + (((ring.fdiv (2 ^ (40 - 8 * (0 + ((2 : Nat) : Int))).toNat)).fmod 256).toNat.toUInt8.toNat : Int) * 16777216 + (((ring.fdiv (2 ^ (40 - 8 * (0 + ((3 : Nat) : Int))).toNat)).fmod 256).toNat.toUInt8.toNat : Int) * 65536 + (((ring.fdiv (2 ^ (40 - 8 * (0 + ((4 : Nat) : Int))).toNat)).fmod 256).toNat.toUInt8.toNat : Int) * 256 + (((ring.fdiv (2 ^ (40 - 8 * (0 + ((5 : Nat) : Int))).toNat)).fmod 256).toNat.toUInt8.toNat : Int)) = ring := by
  rw [show (2 : Int) ^ (40 - 8 * (0 + ((0 : Nat) : Int))).toNat = 1099511627776 from rfl, show (2 : Int) ^ (40 - 8 * (0 + ((1 : Nat) : Int))).toNat = 4294967296 from rfl, show (2 : Int) ^ (40 - 8 * (0 + ((2 : Nat) : Int))).toNat = 16777216 from rfl,
    show (2 : Int) ^ (40 - 8 * (0 + ((3 : Nat) : Int))).toNat = 65536 from rfl, show (2 : Int) ^ (40 - 8 * (0 + ((4 : Nat) : Int))).toNat = 256 from rfl, show (2 : Int) ^ (40 - 8 * (0 + ((5 : Nat) : Int))).toNat = 1 from rfl]
  rw [oct_u8 _ _ (by decide), oct_u8 _ _ (by decide), oct_u8 _ _ (by decide), oct_u8 _ _ (by decide), oct_u8 _ _ (by decide), oct_u8 _ _ (by decide)]
  rw [Int.ediv_one]
  exact octs_back r0 r1
theorem figure_lt (k : Int) : 0 ≤ figure k ∧ figure k < 128 := by
  unfold figure
  rw [List.getD_eq_getElem?_getD]
  cases h : hexs[k.toNat]? with
  | none => exact ⟨by decide, by decide⟩
  | some c =>
    have h2 : hexs.all (fun c => decide (c < 128)) = true := by decide
    have := List.all_eq_true.mp h2 c (List.mem_of_getElem? h)
    simp only [decide_eq_true_eq] at this
    show 0 ≤ (c : Int) ∧ (c : Int) < 128
    omega
theorem figures_lt {ks : List Int} : ∀ n ∈ ks.map figure, 0 ≤ n ∧ n < 256 := fun n hn => by
  obtain ⟨k, _, rfl⟩ := List.mem_map.mp hn
  have := figure_lt k
  omega
/-- the eight signs, the twelve figures of a number -/
noncomputable def w8 (x : Int) : Str := ⟨((sixes x).map fun k => (sign k).toNat).toArray⟩
noncomputable def w12 (x : Int) : Str := ⟨((fours x).map fun k => (figure k).toNat).toArray⟩
theorem cat_w8 (x : Int) : cat ((sixes x).map fun k => (⟨#[(sign k).toNat]⟩ : Str)) = w8 x := rfl
theorem cat_w12 (x : Int) : cat ((fours x).map fun k => (⟨#[(figure k).toNat]⟩ : Str)) = w12 x := rfl
theorem map_at {f : Int → Int} {l : List Int} {i : Nat} {k : Int} (h : (l.map f)[i]? = some k) : k = f (l.getD i 0) := by
  rw [List.getElem?_map] at h
  rw [List.getD_eq_getElem?_getD]
  cases hl : l[i]? with
  | none => rw [hl] at h; cases h
  | some n => rw [hl] at h; exact (Option.some.inj h).symm
noncomputable abbrev tupOf (vs : Array Value) : Obj := { cls := .type "tuple", data := .seq vs }
theorem said_P7_1 : True := by
  k_with "exec While Compare" => ((k_dflt (refine whl_start 100 ?_)))
  k_with "eval ListComp" => (((with_reducible show wpAny _ _ (eval (Expr.ListComp (Expr.Call _ _ _ _) _ _ _) _) _ _ _); k_dflt (refine ListComp_B (F₀ := by k_asm) (by rfl) (by decide) (by rfl) (by decide) (by rfl) ?_)))
  k_with "SrcB" => ((refine holdP ?_))
  k_with "call builtin:chr" => (first | refine chr_of_range (sign_lt _).1 (Int.le_trans (Int.le_of_lt (sign_lt _).2) (by decide)) ?_ | refine chr_of_range (figure_lt _).1 (Int.le_trans (Int.le_of_lt (figure_lt _).2) (by decide)) ?_)
  k_with "call builtin:str.join" => ((refine holdW ?_))
  k_with "call ref" => ((k_dflt (refine' b64_ctr (by k_asm) (by k_asm) (by k_asm) (by k_asm) (by k_asm) (by first | exact rfl | assumption) (by ktr_room) (by ktr_units)  ?_; k_whole); intro _ _ _ _ _; (try dsimp only); (try k_fold)))
  k_with "call ref" => ((k_dflt (refine' b16_ctr (by k_asm) (by k_asm) (by k_asm) (by k_asm) (by k_asm) (by first | exact rfl | assumption) (by ktr_room) (by ktr_units)  ?_; k_whole); intro _ _ _ _ _; (try dsimp only); (try k_fold)))
  trivial
theorem written_ctr (B : Below A₀ base outer h₀) (F : Fr h₀ L s.heap m) (X : (heap w.params).In h₀) (N : News h₀ L s.heap news) (T : Top p loose mean mg mb h₀) (hk : cs.kind = .function) (hdp : dp + 8 < recursionLimit) (hun : un + 80 < cLine)
    {ring : Int} {t₁ : Tok} (r0 : 0 ≤ ring) (r1 : ring < 281474976710656)
    (ret : ∀ r u1 u2 h' tk', Fr h₀ L h' m → News h₀ L h' ((r, tupOf #[.str (w8 ring) u1, .str (w12 ring) u2]) :: news) → (∀ p ∈ news, p.1 ≠ r) → Q (.ref r) { s with heap := h', toks := tk' }) :
    wpAny (model PySem.Challenge.rw_in0265_01.row.prog w) (ktrTop dp un gd cn cs L a ccd cl outer) (call (.ref 161) [.int ring t₁]) Q E s := by
  obtain ⟨hp, gs, dr, tk₀, os⟩ := s
  dsimp only at *

  refine wpAny_call ?_
  k_dflt cell_enter
  k_steps
  show SrcB _ _ _ _ _ _ _ _ _ _ _ _ _ _
  rw [val_ring r0 r1]
  rename Fr hp _ _ _ => Fa1
  rename News hp _ _ _ => Na1
  refine SrcB.intro (by rfl) Fa1 Na1 (bInts_byteArr (signs_lt (ks := sixes _))) (by show (8 : Nat) ≤ 1000; decide) fun g1 => ?_
  refine comp_ind (n := 8) (fun i v => ∃ t, v = .str ⟨#[(sign ((sixes ring).getD i 0)).toNat]⟩ t) trivial ?_ ?_
  · intro i v I oI C oC D ys m₂ h tk E' hi hP hC hx F N off
    obtain ⟨k9, u9, hk9, rfl⟩ := hP
    clear Fa1 Na1
    have ek : k9 = sign ((sixes ring).getD i 0) := map_at hk9
    subst ek
    k_steps
    exact CpEnd.intro (by k_asm) (news_sub (by k_asm) fun p hp => hp) ⟨_, rfl⟩
  · intro ys hl hR
    clear Fa1 Na1
    k_steps
    rename News hp _ _ _ => Nb1
    refine join_K (its := ys.toArray) (ys := (List.range 8).map fun i => (⟨#[(sign ((sixes ring).getD i 0)).toNat]⟩ : PySem.Str)) Nb1 (.head _) (by exact strs_of hl hR) (Nat.le_of_ble_eq_true rfl) fun _ _ => ?_
    rw [show cat ((List.range 8).map fun i => (⟨#[(sign ((sixes ring).getD i 0)).toNat]⟩ : PySem.Str)) = w8 ring from rfl]
    clear hl hR
    k_steps
    show SrcB _ _ _ _ _ _ _ _ _ _ _ _ _ _
    rw [val_ring r0 r1]
    rename Fr hp _ _ _ => Fa2
    rename News hp _ _ _ => Na2
    refine SrcB.intro (by rfl) Fa2 Na2 (bInts_byteArr (figures_lt (ks := fours _))) (by show (12 : Nat) ≤ 1000; decide) fun g2 => ?_
    refine comp_ind (n := 12) (fun i v => ∃ t, v = .str ⟨#[(figure ((fours ring).getD i 0)).toNat]⟩ t) trivial ?_ ?_
    · intro i v I oI C oC D ys m₂ h tk E' hi hP hC hx F N off
      obtain ⟨k9, u9, hk9, rfl⟩ := hP
      clear Fa2 Na2
      have ek : k9 = figure ((fours ring).getD i 0) := map_at hk9
      subst ek
      k_steps
      exact CpEnd.intro (by k_asm) (news_sub (by k_asm) fun p hp => hp) ⟨_, rfl⟩
    · intro ys hl hR
      clear Fa2 Na2
      k_steps
      rename News hp _ _ _ => Nb2
      refine join_K (its := ys.toArray) (ys := (List.range 12).map fun i => (⟨#[(figure ((fours ring).getD i 0)).toNat]⟩ : PySem.Str)) Nb2 (.head _) (by exact strs_of hl hR) (Nat.le_of_ble_eq_true rfl) fun _ _ => ?_
      rw [show cat ((List.range 12).map fun i => (⟨#[(figure ((fours ring).getD i 0)).toNat]⟩ : PySem.Str)) = w12 ring from rfl]
      clear hl hR
      k_steps
      rename Fr h₀ L _ m => kF
      rename News h₀ L _ _ => kN
      rename Fr hp _ _ _ => F3
      rename News hp _ _ _ => N3
      exact ret _ _ _ _ _ kF (news_add kN (by k_mem) (news_kept N F3.keep)) (news_ne N N3 (by k_mem))

end
end Mine
end
section
namespace Mine
theorem fresh_Law3 : True := by
  w_top off
  trivial
end Mine
open PySem PySem.W PyProof.Rows
set_option maxRecDepth 100000
namespace Mine
noncomputable abbrev letters : Str := Str.ofString "ABCDEFGHIJKLMNOPQRSTUVWXYZabcdefghijklmnopqrstuvwxyz0123456789+/"
noncomputable abbrev digits : Str := Str.ofString "0123456789ABCDEF"
theorem letters_at : ∀ n < 64, letters.cps[n]? = some (b64.getD n 0) := by decide +kernel
theorem digits_at : ∀ n < 16, digits.cps[n]? = some (hexs.getD n 0) := by decide +kernel
theorem item_sign {k : Int} (h0 : 0 ≤ k) (h1 : k < 64) : Txt.item letters k = ⟨#[(sign k).toNat]⟩ := by
  refine item_meets h0 ?_
  rw [letters_at k.toNat (by omega)]
  rfl
theorem item_figure {k : Int} (h0 : 0 ≤ k) (h1 : k < 16) : Txt.item digits k = ⟨#[(figure k).toNat]⟩ := by
  refine item_meets h0 ?_
  rw [digits_at k.toNat (by omega)]
  rfl
theorem six_at {x : Int} (_ : 0 ≤ x) {i : Nat} (hi : i < 8) : (x.fdiv (2 ^ (42 - 6 * (0 + (i : Int))).toNat)).fmod 64 = (sixes x).getD i 0 := by
  rw [Int.fdiv_eq_ediv_of_nonneg _ (Int.le_of_lt (Int.pow_pos (by decide))), Int.fmod_eq_emod_of_nonneg _ (by decide)]
  rcases (by omega : i = 0 ∨ i = 1 ∨ i = 2 ∨ i = 3 ∨ i = 4 ∨ i = 5 ∨ i = 6 ∨ i = 7) with rfl | rfl | rfl | rfl | rfl | rfl | rfl | rfl
  · rfl
  · rfl
  · rfl
  · rfl
  · rfl
  · rfl
  · rfl
  · show x / 2 ^ (0 : Nat) % 64 = x % 64
    rw [Int.pow_zero, Int.ediv_one]
theorem four_at {x : Int} (_ : 0 ≤ x) {i : Nat} (hi : i < 12) : (x.fdiv (2 ^ (44 - 4 * (0 + (i : Int))).toNat)).fmod 16 = (fours x).getD i 0 := by
  rw [Int.fdiv_eq_ediv_of_nonneg _ (Int.le_of_lt (Int.pow_pos (by decide))), Int.fmod_eq_emod_of_nonneg _ (by decide)]
  rcases (by omega : i = 0 ∨ i = 1 ∨ i = 2 ∨ i = 3 ∨ i = 4 ∨ i = 5 ∨ i = 6 ∨ i = 7 ∨ i = 8 ∨ i = 9 ∨ i = 10 ∨ i = 11) with rfl | rfl | rfl | rfl | rfl | rfl | rfl | rfl | rfl | rfl | rfl | rfl
  · rfl
  · rfl
  · rfl
  · rfl
  · rfl
  · rfl
  · rfl
  · rfl
  · rfl
  · rfl
  · rfl
  · show x / 2 ^ (0 : Nat) % 16 = x % 16
    rw [Int.pow_zero, Int.ediv_one]
theorem six_lt (x : Int) (i : Nat) : 0 ≤ (sixes x).getD i 0 ∧ (sixes x).getD i 0 < 64 := by
  by_cases h : i < 8
  · rcases (by omega : i = 0 ∨ i = 1 ∨ i = 2 ∨ i = 3 ∨ i = 4 ∨ i = 5 ∨ i = 6 ∨ i = 7) with rfl | rfl | rfl | rfl | rfl | rfl | rfl | rfl <;> exact ⟨Int.emod_nonneg _ (by decide), Int.emod_lt_of_pos _ (by decide)⟩
  · rw [List.getD_eq_getElem?_getD, List.getElem?_eq_none (by simp [sixes]; omega)]
    exact ⟨by decide, by decide⟩
theorem four_lt (x : Int) (i : Nat) : 0 ≤ (fours x).getD i 0 ∧ (fours x).getD i 0 < 16 := by
  by_cases h : i < 12
  · rcases (by omega : i = 0 ∨ i = 1 ∨ i = 2 ∨ i = 3 ∨ i = 4 ∨ i = 5 ∨ i = 6 ∨ i = 7 ∨ i = 8 ∨ i = 9 ∨ i = 10 ∨ i = 11) with rfl | rfl | rfl | rfl | rfl | rfl | rfl | rfl | rfl | rfl | rfl | rfl <;> exact ⟨Int.emod_nonneg _ (by decide), Int.emod_lt_of_pos _ (by decide)⟩
  · rw [List.getD_eq_getElem?_getD, List.getElem?_eq_none (by simp [fours]; omega)]
    exact ⟨by decide, by decide⟩
noncomputable abbrev eightS (x : Int) (i : Nat) : Str := Txt.item letters ((x.fdiv (2 ^ (42 - 6 * (0 + (i : Int))).toNat)).fmod 64)
noncomputable abbrev twelveS (x : Int) (i : Nat) : Str := Txt.item digits ((x.fdiv (2 ^ (44 - 4 * (0 + (i : Int))).toNat)).fmod 16)
theorem cat_eight {x : Int} (h : 0 ≤ x) : cat ((List.range 8).map (eightS x)) = w8 x := by
  have e : (List.range 8).map (eightS x) = (sixes x).map fun k => (⟨#[(sign k).toNat]⟩ : Str) := by
    have f : ∀ i < 8, eightS x i = ⟨#[(sign ((sixes x).getD i 0)).toNat]⟩ := fun i hi => by
      show Txt.item letters _ = _
      rw [six_at h hi, item_sign (six_lt x i).1 (six_lt x i).2]
    have e1 : (List.range 8).map (eightS x) = (List.range 8).map fun i => (⟨#[(sign ((sixes x).getD i 0)).toNat]⟩ : Str) := List.map_congr_left fun i hi => f i (List.mem_range.mp hi)
    rw [e1]; rfl
  rw [e, cat_w8]
theorem cat_twelve {x : Int} (h : 0 ≤ x) : cat ((List.range 12).map (twelveS x)) = w12 x := by
  have e : (List.range 12).map (twelveS x) = (fours x).map fun k => (⟨#[(figure k).toNat]⟩ : Str) := by
    have f : ∀ i < 12, twelveS x i = ⟨#[(figure ((fours x).getD i 0)).toNat]⟩ := fun i hi => by
      show Txt.item digits _ = _
      rw [four_at h hi, item_figure (four_lt x i).1 (four_lt x i).2]
    have e1 : (List.range 12).map (twelveS x) = (List.range 12).map fun i => (⟨#[(figure ((fours x).getD i 0)).toNat]⟩ : Str) := List.map_congr_left fun i hi => f i (List.mem_range.mp hi)
    rw [e1]; rfl
  rw [e, cat_w12]
end Mine
end
section
namespace Mine
theorem fresh_P4b : True := by
  w_top off
  trivial
end Mine
open PySem PySem.W PyProof.Rows
set_option Elab.async false
set_option maxRecDepth 100000
set_option maxHeartbeats 2000000
namespace Mine
theorem said_P4b_0 : True := by
  k_with_none
  k_with "k_enter" => (first | (refine' code_def (by k_asm) (by k_asm) (by k_asm) (by k_asm) (by k_asm) rfl rfl (by first | exact rfl | assumption) (by k_is) (by k_is) (by ktr_room) (by first | exact BindsTo.of_eq rfl | (refine' kp_binds (by k_in) (by exact fun _ => rfl))) (by exact locs rfl) ?_ (by exact rfl) (by exact rfl) (by exact rfl) (by decide); k_whole; intro _ _ _ _ _ _ _ _ _; (try dsimp only); (try k_fold)) | (refine' code_defC (by k_asm) (by k_asm) (by k_asm) (by k_asm) (by k_asm) rfl rfl (by first | exact rfl | assumption) (by k_is) (by k_is) (by ktr_room) (by first | exact BindsTo.of_eq rfl | (refine' kp_binds (by k_in) (by exact fun _ => rfl))) (by exact rfl) (by decide +kernel) ?_ (by exact rfl) (by exact rfl) (by exact rfl); k_whole; intro _ _ _ _ _ N' Y' _ _ _ l1; (try k_lt l1); k_cells Y'; (try simp only [List.cons_append, List.nil_append] at N'); (try dsimp only); (try k_fold)))
  k_with "cell_enter" => (first | (refine' enterS (by k_asm) (by k_asm) (by k_asm) (by k_asm) rfl rfl (by first | exact rfl | assumption) (by k_is) (by k_is) (by ktr_room) (by first | exact BindsTo.of_eq rfl | (refine' kp_binds (by k_in) (by exact fun _ => rfl))) (by exact locs rfl) ?_ (by exact rfl) (by exact rfl) (by exact rfl) (by decide); k_whole; intro _ _ _ _ _ _ _; (try dsimp only); (try k_fold)) | (refine' enterCS (by k_asm) (by k_asm) (by k_asm) (by k_asm) rfl rfl (by first | exact rfl | assumption) (by k_is) (by k_is) (by ktr_room) (by first | exact BindsTo.of_eq rfl | (refine' kp_binds (by k_in) (by exact fun _ => rfl))) (by exact rfl) (by decide +kernel) ?_ (by exact rfl) (by exact rfl) (by exact rfl); k_whole; intro _ _ _ _ _ N' Y' _ _ _; k_cells Y'; (try simp only [List.cons_append, List.nil_append] at N'); (try dsimp only); (try k_fold)))
  k_with "binaryOp Pow int int" => (((with_reducible refine pow_int_small (by first | assumption | omega) (by omega) (by decide) ?_)))
  k_with "call type:type" => (((with_reducible show wpAny _ _ (call _ [Value.bytes _ _]) _ _ _); refine call_type_of (Tx := "bytes") rfl (by decide +kernel) ?_))
  k_with "callWith ref" => ((k_dflt (first | (refine' callWith_K (by k_asm) (by k_is) ?_; k_whole) | (refine' callWith_K0 (by k_in) (by k_is) ?_; k_whole))))
  k_with "compareOp Is ref ref" => ((refine wpAny_is_ref_self ?_))
  k_with "compareOp IsNot ref ref" => ((refine wpAny_isNot_ref_self ?_))
  trivial
section
variable {w : World} {p : Program} {loose : List Str} {mean : ExcName → Option Value} {mg mb : Str → Option Value}
    {dp un : Nat} {gd : Option (List Code)} {cn : Str} {cs : Scope} {a : Addr} {ccd : Value} {cl : List (Str × Addr)} {outer : List Env} {A₀ : Around} {base h₀ : Heap} {L : Addr} {m : Str → Option Value} {s : Shared} {Q E : Value → Shared → Prop} {news : List (Addr × Obj)}
theorem sign_in {k : Int} (h0 : 0 ≤ k) (h1 : k < 64) : (sign k).toNat ∈ b64 := by
  have all : ∀ n < 64, b64.getD n 0 ∈ b64 := by decide +kernel
  exact all k.toNat (by omega)
theorem six_mem (z : Int) : (sign (z % 64)).toNat ∈ b64 := sign_in (Int.emod_nonneg _ (by decide)) (Int.emod_lt_of_pos _ (by decide))
/-- what fnmatch makes of the eight signs -/
noncomputable def escW (y : Int) : Str := cat ((sixes y).map fun k => (⟨esc (sign k).toNat⟩ : Str))
theorem starred (y : Int) : PySem.Str.ofString "*" ++ w8 y ++ PySem.Str.ofString "*" = ⟨#[42, (sign (y / 4398046511104 % 64)).toNat, (sign (y / 68719476736 % 64)).toNat, (sign (y / 1073741824 % 64)).toNat, (sign (y / 16777216 % 64)).toNat, (sign (y / 262144 % 64)).toNat, (sign (y / 4096 % 64)).toNat, (sign (y / 64 % 64)).toNat, (sign (y % 64)).toNat, 42]⟩ := by
  have a1 : (PySem.Str.ofString "*").cps = #[42] := by decide +kernel
  show (⟨((PySem.Str.ofString "*").cps ++ (w8 y).cps) ++ (PySem.Str.ofString "*").cps⟩ : Str) = _
  rw [a1]
  congr 1

theorem trans_ctr (B : Below A₀ base outer h₀) (F : Fr h₀ L s.heap m) (X : (heap w.params).In h₀) (N : News h₀ L s.heap news) (T : Top p loose mean mg mb h₀) (hk : cs.kind = .function) (hdp : dp + 6 < recursionLimit) (hun : un + 60 < cLine)
    {y : Int} {t₁ : Tok}
    (ret : ∀ t h' tk', Fr h₀ L h' m → News h₀ L h' news → Q (.str (told (escW y)) t) { s with heap := h', toks := tk' }) :
    wpAny (model PySem.Challenge.rw_in0265_01.row.prog w) (ktrTop dp un gd cn cs L a ccd cl outer) (call (.ref 123) [.str (PySem.Str.ofString "*" ++ w8 y ++ PySem.Str.ofString "*") t₁]) Q E s := by
  obtain ⟨hp, gs, dr, tk₀, os⟩ := s
  dsimp only at *

  rw [starred]
  exact translate_ctr B F X N T hk hdp hun (six_mem _) (six_mem _) (six_mem _) (six_mem _) (six_mem _) (six_mem _) (six_mem _) (six_mem _) fun t h' tk' F' N' => ret t h' tk' F' N' 

end
end Mine
end
section
namespace Mine
theorem fresh_Ld : True := by
  w_top off
  trivial
end Mine
open PySem PySem.W PyProof.Rows PySem.Spec PySem.Calls
open PySem.Builtin PySem.Builtin.Str
set_option Elab.async false
set_option maxRecDepth 100000
namespace Mine
open PySem.StrLaws (At subAt_eq)
noncomputable def rotls {α : Type} : Nat → List α → List α
  | 0, l => l
  | n + 1, l => rotl (rotls n l)
theorem turn_form {x c d m : Int} (h : c * d = m) (c0 : 0 < c) (d0 : 0 < d) (h0 : 0 ≤ x) (h1 : x < m) : (x * c + x / d) % m = (x % d) * c + x / d := by
  have q0 : 0 ≤ x / d := Int.ediv_nonneg h0 (Int.le_of_lt d0)
  have q1 : x / d < c := Int.ediv_lt_of_lt_mul d0 (by rw [h]; exact h1)
  have r0 := Int.emod_nonneg x (Int.ne_of_gt d0)
  have r1 := Int.emod_lt_of_pos x d0
  have e : x * c = x % d * c + x / d * m := by
    have := Int.mul_ediv_add_emod x d
    rw [← h, ← Int.mul_assoc, Int.mul_comm (x / d) c, Int.mul_assoc, Int.mul_comm (x / d) d, Int.mul_comm (x % d) c, ← Int.mul_add, Int.add_comm (x % d), this, Int.mul_comm]
  have l1 : x % d * c + c ≤ m := by
    have : (x % d + 1) * c ≤ d * c := Int.mul_le_mul_of_nonneg_right (by omega) (Int.le_of_lt c0)
    rw [Int.add_mul, Int.one_mul, Int.mul_comm d c, h] at this
    exact this
  have l0 : 0 ≤ x % d * c := Int.mul_nonneg r0 (Int.le_of_lt c0)
  rw [e, show x % d * c + x / d * m + x / d = (x % d * c + x / d) + x / d * m by omega, Int.add_mul_emod_self_right, Int.emod_eq_of_lt (by omega) (by omega)]
theorem sixes_turn {x : Int} (h0 : 0 ≤ x) (h1 : x < 281474976710656) : sixes (turned x ((6 : Nat) : Int)) = rotl (sixes x) := by
  rw [sixes_digs, sixes_digs, ← digs_turn (by decide) 7 h0 h1]
  exact congrArg _ (turn_form (c := 64) (d := 4398046511104) (by decide) (by decide) (by decide) h0 h1)
theorem fours_turn {x : Int} (h0 : 0 ≤ x) (h1 : x < 281474976710656) : fours (turned x ((4 : Nat) : Int)) = rotl (fours x) := by
  rw [fours_digs, fours_digs, ← digs_turn (by decide) 11 h0 h1]
  exact congrArg _ (turn_form (c := 16) (d := 17592186044416) (by decide) (by decide) (by decide) h0 h1)
theorem sixes_inj {a b : Int} (a0 : 0 ≤ a) (a1 : a < 281474976710656) (b0 : 0 ≤ b) (b1 : b < 281474976710656) (h : sixes a = sixes b) : a = b :=
  digs_inj (b := 64) (by decide) 8 a0 a1 b0 b1 (by rw [← sixes_digs, ← sixes_digs, h])
theorem fours_inj {a b : Int} (a0 : 0 ≤ a) (a1 : a < 281474976710656) (b0 : 0 ≤ b) (b1 : b < 281474976710656) (h : fours a = fours b) : a = b :=
  digs_inj (b := 16) (by decide) 12 a0 a1 b0 b1 (by rw [← fours_digs, ← fours_digs, h])
theorem rotls_cut {α : Type} (l : List α) : ∀ r, r ≤ l.length → rotls r l = l.drop r ++ l.take r
  | 0, _ => by simp [rotls]
  | r + 1, h => by
    show rotl (rotls r l) = _
    rw [rotls_cut l r (Nat.le_of_succ_le h), List.drop_eq_getElem_cons h]
    show (l.drop (r + 1) ++ l.take r) ++ [l[r]] = _
    rw [List.append_assoc, List.take_append_getElem h]
theorem twice_cut {α β : Type} (f : α → β) (l : List α) {r n : Nat} (hn : l.length = n) (hr : r ≤ n) : ((l.map f ++ l.map f).drop r).take n = (rotls r l).map f := by
  subst hn
  rw [rotls_cut l r hr, List.map_append, List.map_drop, List.map_take, List.drop_append_of_le_length (by simpa using hr), List.take_append]
  congr 1
  · exact List.take_of_length_le (by simp)
  · simp only [List.length_drop, List.length_map]
    congr 1
    omega
theorem sixes_rots {x : Int} (h0 : 0 ≤ x) (h1 : x < 281474976710656) : ∀ r : Nat, sixes (rots (6 * r) x) = rotls r (sixes x)
  | 0 => rfl
  | r + 1 => by
    rw [show 6 * (r + 1) = 6 * r + 6 by omega, rots_turned h0 h1 (by decide), sixes_turn (rots_lt h0 h1 _).1 (rots_lt h0 h1 _).2, sixes_rots h0 h1 r]
    rfl
theorem fours_rots {x : Int} (h0 : 0 ≤ x) (h1 : x < 281474976710656) : ∀ r : Nat, fours (rots (4 * r) x) = rotls r (fours x)
  | 0 => rfl
  | r + 1 => by
    rw [show 4 * (r + 1) = 4 * r + 4 by omega, rots_turned h0 h1 (by decide), fours_turn (rots_lt h0 h1 _).1 (rots_lt h0 h1 _).2, fours_rots h0 h1 r]
    rfl
theorem map_inj {f : Int → Nat} {N : Int} (hf : ∀ i j, 0 ≤ i → i < N → 0 ≤ j → j < N → f i = f j → i = j) : ∀ (l r : List Int), (∀ i ∈ l, 0 ≤ i ∧ i < N) → (∀ i ∈ r, 0 ≤ i ∧ i < N) → l.map f = r.map f → l = r
  | [], [], _, _, _ => rfl
  | [], _ :: _, _, _, h => by cases h
  | _ :: _, [], _, _, h => by cases h
  | a :: l, b :: r, h1, h2, h => by
    rw [List.map_cons, List.map_cons] at h
    injection h with e1 e2
    rw [hf a b (h1 a (.head _)).1 (h1 a (.head _)).2 (h2 b (.head _)).1 (h2 b (.head _)).2 e1, map_inj hf l r (fun i hi => h1 i (.tail _ hi)) (fun i hi => h2 i (.tail _ hi)) e2]
theorem b64_inj : ∀ i < 64, ∀ j < 64, b64.getD i 0 = b64.getD j 0 → i = j := by decide +kernel
theorem hexs_inj : ∀ i < 16, ∀ j < 16, hexs.getD i 0 = hexs.getD j 0 → i = j := by decide +kernel
theorem sign_inj (i j : Int) (i0 : 0 ≤ i) (i1 : i < 64) (j0 : 0 ≤ j) (j1 : j < 64) (h : (sign i).toNat = (sign j).toNat) : i = j := by
  have := b64_inj i.toNat (by omega) j.toNat (by omega) h
  omega
theorem figure_inj (i j : Int) (i0 : 0 ≤ i) (i1 : i < 16) (j0 : 0 ≤ j) (j1 : j < 16) (h : (figure i).toNat = (figure j).toNat) : i = j := by
  have := hexs_inj i.toNat (by omega) j.toNat (by omega) h
  omega
theorem sixes_lt (x : Int) : ∀ i ∈ sixes x, 0 ≤ i ∧ i < 64 := by
  intro i hi
  simp only [sixes, List.mem_cons, List.not_mem_nil, or_false] at hi
  rcases hi with rfl | rfl | rfl | rfl | rfl | rfl | rfl | rfl <;> exact ⟨Int.emod_nonneg _ (by decide), Int.emod_lt_of_pos _ (by decide)⟩
theorem fours_lt (x : Int) : ∀ i ∈ fours x, 0 ≤ i ∧ i < 16 := by
  intro i hi
  simp only [fours, List.mem_cons, List.not_mem_nil, or_false] at hi
  rcases hi with rfl | rfl | rfl | rfl | rfl | rfl | rfl | rfl | rfl | rfl | rfl | rfl <;> exact ⟨Int.emod_nonneg _ (by decide), Int.emod_lt_of_pos _ (by decide)⟩
theorem twice_list (a b : Str) : (a ++ b).cps.toList = a.cps.toList ++ b.cps.toList := by
  have e : (a ++ b).cps = a.cps ++ b.cps := rfl
  rw [e, Array.toList_append]
theorem w8_len (x : Int) : (w8 x).length = 8 := by
  show (List.toArray _).size = 8
  rw [List.size_toArray, List.length_map]
  rfl
theorem w12_len (x : Int) : (w12 x).length = 12 := by
  show (List.toArray _).size = 12
  rw [List.size_toArray, List.length_map]
  rfl
theorem twice_len (a b : Str) : (a ++ b).length = a.length + b.length := by
  show (a.cps ++ b.cps).size = _
  rw [Array.size_append]
  rfl
theorem at_eight {x y : Int} (x0 : 0 ≤ x) (x1 : x < 281474976710656) (y0 : 0 ≤ y) (y1 : y < 281474976710656) (i : Nat) : At (w8 x ++ w8 x) (w8 y) (w8 x ++ w8 x).length i ↔ i ≤ 8 ∧ decide (rots (6 * i) x = y) = true := by
  have hl : (w8 x ++ w8 x).length = 16 := by rw [twice_len, w8_len]
  have hy : (w8 y).length = 8 := w8_len y
  unfold At
  rw [hl, hy, subAt_eq, hy, twice_list, beq_iff_eq, decide_eq_true_eq]
  show i + 8 ≤ 16 ∧ List.take 8 (List.drop i ((sixes x).map (fun k => (sign k).toNat) ++ (sixes x).map (fun k => (sign k).toNat))) = (sixes y).map (fun k => (sign k).toNat) ↔ _
  have hc : ∀ hi : i ≤ 8, List.take 8 (List.drop i ((sixes x).map (fun k => (sign k).toNat) ++ (sixes x).map (fun k => (sign k).toNat))) = (sixes (rots (6 * i) x)).map fun k => (sign k).toNat := fun hi => by
    rw [sixes_rots x0 x1]
    exact twice_cut _ _ rfl hi
  constructor
  · rintro ⟨h1, h2⟩
    have hi : i ≤ 8 := by omega
    refine ⟨hi, ?_⟩
    rw [hc hi] at h2
    exact sixes_inj (rots_lt x0 x1 _).1 (rots_lt x0 x1 _).2 y0 y1 (map_inj sign_inj _ _ (sixes_lt _) (sixes_lt _) h2)
  · rintro ⟨hi, h2⟩
    refine ⟨by omega, ?_⟩
    rw [hc hi, h2]
theorem at_twelve {x y : Int} (x0 : 0 ≤ x) (x1 : x < 281474976710656) (y0 : 0 ≤ y) (y1 : y < 281474976710656) (i : Nat) : At (w12 x ++ w12 x) (w12 y) (w12 x ++ w12 x).length i ↔ i ≤ 12 ∧ decide (rots (4 * i) x = y) = true := by
  have hl : (w12 x ++ w12 x).length = 24 := by rw [twice_len, w12_len]
  have hy : (w12 y).length = 12 := w12_len y
  unfold At
  rw [hl, hy, subAt_eq, hy, twice_list, beq_iff_eq, decide_eq_true_eq]
  show i + 12 ≤ 24 ∧ List.take 12 (List.drop i ((fours x).map (fun k => (figure k).toNat) ++ (fours x).map (fun k => (figure k).toNat))) = (fours y).map (fun k => (figure k).toNat) ↔ _
  have hc : ∀ hi : i ≤ 12, List.take 12 (List.drop i ((fours x).map (fun k => (figure k).toNat) ++ (fours x).map (fun k => (figure k).toNat))) = (fours (rots (4 * i) x)).map fun k => (figure k).toNat := fun hi => by
    rw [fours_rots x0 x1]
    exact twice_cut _ _ rfl hi
  constructor
  · rintro ⟨h1, h2⟩
    have hi : i ≤ 12 := by omega
    refine ⟨hi, ?_⟩
    rw [hc hi] at h2
    exact fours_inj (rots_lt x0 x1 _).1 (rots_lt x0 x1 _).2 y0 y1 (map_inj figure_inj _ _ (fours_lt _) (fours_lt _) h2)
  · rintro ⟨hi, h2⟩
    refine ⟨by omega, ?_⟩
    rw [hc hi, h2]
theorem empty_list : (PySem.Str.ofString "").cps.toList = [] := by decide +kernel
section
variable {x least k : Int} (x0 : 0 ≤ x) (x1 : x < 281474976710656) (l0 : 1 ≤ least) (l1 : least ≤ 48) (l2 : turned x least = x) (l3 : ∀ j, 1 ≤ j → j < least → turned x j ≠ x) (k0 : 0 ≤ k) (k1 : k < 48)
include x0 x1 l0 l1 l2 l3 k0 k1
theorem places8 (i : Nat) : At (w8 x ++ w8 x) (w8 (turned x k)) (w8 x ++ w8 x).length i ↔ i ≤ 8 ∧ ((6 * (0 + (i : Int)) - k).fmod least == 0) = true := by
  rw [at_eight x0 x1 (turned_lt x k).1 (turned_lt x k).2, turned_same x0 x1 l0 l1 l2 l3 k0 k1, show ((6 * i : Nat) : Int) = 6 * (0 + (i : Int)) by omega]
theorem places12 (i : Nat) : At (w12 x ++ w12 x) (w12 (turned x k)) (w12 x ++ w12 x).length i ↔ i ≤ 12 ∧ ((4 * (0 + (i : Int)) - k).fmod least == 0) = true := by
  rw [at_twelve x0 x1 (turned_lt x k).1 (turned_lt x k).2, turned_same x0 x1 l0 l1 l2 l3 k0 k1, show ((4 * i : Nat) : Int) = 4 * (0 + (i : Int)) by omega]
theorem law_due : placesFrom (w8 x ++ w8 x) (w8 (turned x k)) (PySem.Str.ofString "") 20 0 [] = ((List.range 9).filter fun (i : Nat) => ((6 * (0 + (i : Int)) - k).fmod least == 0)).map fun (i : Nat) => 0 + (i : Int) := by
  have := places_all (x := w8 x ++ w8 x) (y := w8 (turned x k)) empty_list (m := 8) (by rw [twice_len, w8_len]; decide) (places8 x0 x1 l0 l1 l2 l3 k0 k1) 20 0 [] (by decide) (by decide)
  rw [show ((0 : Nat) : Int) = 0 from rfl] at this
  rw [this, List.nil_append, List.range_eq_range']
  exact List.map_congr_left fun i _ => (Int.zero_add _).symm
theorem law_fig : placesFrom (w12 x ++ w12 x) (w12 (turned x k)) (PySem.Str.ofString "") 20 0 [] = ((List.range 13).filter fun (i : Nat) => ((4 * (0 + (i : Int)) - k).fmod least == 0)).map fun (i : Nat) => 0 + (i : Int) := by
  have := places_all (x := w12 x ++ w12 x) (y := w12 (turned x k)) empty_list (m := 12) (by rw [twice_len, w12_len]; decide) (places12 x0 x1 l0 l1 l2 l3 k0 k1) 20 0 [] (by decide) (by decide)
  rw [show ((0 : Nat) : Int) = 0 from rfl] at this
  rw [this, List.nil_append, List.range_eq_range']
  exact List.map_congr_left fun i _ => (Int.zero_add _).symm
end
end Mine
end
section
namespace Mine
theorem fresh_Tl : True := by
  w_top off
  trivial
end Mine
open PySem PySem.W PyProof.Rows PySem.Spec PySem.Calls
open PySem.Builtin PySem.Builtin.Str
set_option Elab.async false
set_option maxRecDepth 100000
namespace Mine
open PySem.StrLaws (At subAt_eq ChainG partsFrom occ_tight partsBetween_eq)
theorem cnt_nat (c : Nat) : ∀ l : List Nat, cnt c l = ((l.count c : Nat) : Int)
  | [] => rfl
  | n :: r => by
    rw [cnt_cons, cnt_nat c r, List.count_cons]
    by_cases h : n = c
    · rw [if_pos h, if_pos (by rw [h]; exact beq_self_eq_true c)]
      omega
    · rw [if_neg h, if_neg (by simpa using h)]
      omega
/-- how often one sign is found -/
theorem occ_count (x : Str) (c : Nat) : (occurrences x ⟨#[c]⟩ 0 x.length (x.length + 1)).length = x.cps.toList.count c := by
  have h : Txt.count x ⟨#[c]⟩ = cnt c x.cps.toList := count_cnt x c
  rw [cnt_nat] at h
  have h2 : ((occurrences x ⟨#[c]⟩ 0 x.length (x.length + 1)).length : Int) = Txt.count x ⟨#[c]⟩ := rfl
  rw [h] at h2
  omega
theorem esc_list (c : Nat) : (esc c).toList = if c = 43 then [92, 43] else [c] := by
  unfold esc
  split <;> rfl
theorem esc_count {c : Nat} (h : c ≠ 92) : ((esc c).toList).count 92 = [c].count 43 := by
  rw [esc_list]
  by_cases hc : c = 43
  · rw [if_pos hc, hc]; rfl
  · rw [if_neg hc, List.count_cons, List.count_cons, if_neg (by simpa using h), if_neg (by simpa using hc)]
    rfl
/-- the escaped signs -/
noncomputable def escL (l : List Nat) : List Nat := (l.map fun c => (esc c).toList).flatten
theorem escL_cons (c : Nat) (l : List Nat) : escL (c :: l) = (esc c).toList ++ escL l := rfl
theorem escL_count : ∀ l : List Nat, (∀ c ∈ l, c ≠ 92) → (escL l).count 92 = l.count 43
  | [], _ => rfl
  | c :: l, h => by
    rw [escL_cons, List.count_append, esc_count (h c (.head _)), escL_count l fun d hd => h d (.tail _ hd), ← List.count_append]
    rfl
theorem escL_strip : ∀ l : List Nat, (∀ c ∈ l, c ≠ 92) → (escL l).filter (· != 92) = l
  | [], _ => rfl
  | c :: l, h => by
    rw [escL_cons, List.filter_append, escL_strip l fun d hd => h d (.tail _ hd), esc_list]
    by_cases hc : c = 43
    · rw [if_pos hc, hc]; rfl
    · rw [if_neg hc, List.filter_cons_of_pos (by simpa using h c (.head _))]; rfl
/-- behind each backslash stands a plus -/
noncomputable def Follows (l : List Nat) : Prop := ∀ i, l[i]? = some 92 → l[i + 1]? = some 43
theorem escL_follows : ∀ l : List Nat, (∀ c ∈ l, c ≠ 92) → Follows (escL l)
  | [], _ => fun i h => by simp [escL] at h
  | c :: l, h => fun i hi => by
    have ih := escL_follows l fun d hd => h d (.tail _ hd)
    rw [escL_cons, esc_list] at hi ⊢
    by_cases hc : c = 43
    · rw [if_pos hc] at hi ⊢
      match i with
      | 0 => rfl
      | 1 => cases hi
      | i + 2 => exact ih i hi
    · rw [if_neg hc] at hi ⊢
      match i with
      | 0 => exact absurd (Option.some.inj hi) (h c (.head _))
      | i + 1 => exact ih i hi
theorem escW_list (y : Int) : (escW y).cps.toList = escL (w8 y).cps.toList := by
  show (((sixes y).map fun k => (⟨esc (sign k).toNat⟩ : Str)).map fun y => y.cps.toList).flatten = (((sixes y).map fun k => (sign k).toNat).map fun c => (esc c).toList).flatten
  rw [List.map_map, List.map_map]
  rfl
theorem plus_cps : (PySem.Str.ofString "+").cps = #[43] := by decide +kernel
theorem bplus_cps : (PySem.Str.ofString "\\+").cps = #[92, 43] := by decide +kernel
theorem back_cps : (PySem.Str.ofString "\\").cps = #[92] := by decide +kernel
theorem b64_ne {c : Nat} (h : c ∈ b64) : c ≠ 92 := by
  have all : ∀ c ∈ b64, c ≠ 92 := by decide +kernel
  exact all c h
theorem w8_mem {x : Int} {c : Nat} (h : c ∈ (w8 x).cps.toList) : c ∈ b64 := by
  obtain ⟨k, hk, rfl⟩ := List.mem_map.mp h
  simp only [sixes, List.mem_cons, List.not_mem_nil, or_false] at hk
  rcases hk with rfl | rfl | rfl | rfl | rfl | rfl | rfl | rfl <;> exact six_mem _
theorem told_list (y : Str) : (told y).cps.toList = [40, 63, 115, 58, 40, 63, 62, 46, 42, 63] ++ y.cps.toList ++ [41, 46, 42, 41, 92, 90] := by
  show (#[40, 63, 115, 58, 40, 63, 62, 46, 42, 63] ++ y.cps ++ #[41, 46, 42, 41, 92, 90]).toList = _
  rw [Array.toList_append, Array.toList_append]
theorem told_count (y : Int) : (occurrences (told (escW y)) (PySem.Str.ofString "\\") 0 (told (escW y)).length ((told (escW y)).length + 1)).length = 1 + (occurrences (w8 y) (PySem.Str.ofString "+") 0 (w8 y).length ((w8 y).length + 1)).length := by
  have e1 : PySem.Str.ofString "\\" = ⟨#[92]⟩ := by rw [← back_cps]
  have e2 : PySem.Str.ofString "+" = ⟨#[43]⟩ := by rw [← plus_cps]
  rw [e1, e2, occ_count, occ_count, told_list, List.count_append, List.count_append, escW_list, escL_count _ fun c hc => b64_ne (w8_mem hc)]
  show 0 + _ + 1 = _
  omega
theorem told_size (y : Str) : (told y).length = y.length + 16 := by
  show (#[40, 63, 115, 58, 40, 63, 62, 46, 42, 63] ++ y.cps ++ #[41, 46, 42, 41, 92, 90]).size = y.cps.size + 16
  rw [Array.size_append, Array.size_append]
  show 10 + y.cps.size + 6 = _
  omega
theorem told_slice (y : Str) : Txt.slice (told y) (some 10) (some (-6)) = y := by
  have e : strSliceIndices (some 10) (some (-6)) 1 (told y).length = strSliceIndices (some 10) (some ((y.length : Int) + 10)) 1 (told y).length := by
    have a3 : ¬ ((y.length : Int) + 10 < 0) := by omega
    have e : max (0 : Int) (min (-6 + ((y.length + 16 : Nat) : Int)) ((y.length + 16 : Nat) : Int)) = max 0 (min ((y.length : Int) + 10) ((y.length + 16 : Nat) : Int)) := by omega
    rw [told_size]
    simp only [strSliceIndices, a3, if_false, e, show ((-6 : Int) < 0) from by decide, if_true, show ((1 : Int) > 0) from by decide]
  have h : Txt.slice (told y) (some 10) (some (-6)) = Txt.slice (told y) (some 10) (some ((y.length : Int) + 10)) := by
    unfold Txt.slice
    rw [e]
  rw [h, eq_of_beq (slice_closesL (x := told y) (i := 10) (j := (y.length : Int) + 10) (by decide) (by omega) (by rw [told_size]; omega))]
  have e4 : List.take ((y.length : Int) + 10 - 10).toNat (List.drop (Int.toNat 10) (told y).cps.toList) = y.cps.toList := by
    rw [told_list, List.append_assoc, show ((y.length : Int) + 10 - 10).toNat = y.length by omega]
    have : List.drop (Int.toNat 10) ([40, 63, 115, 58, 40, 63, 62, 46, 42, 63] ++ (y.cps.toList ++ [41, 46, 42, 41, 92, 90])) = y.cps.toList ++ [41, 46, 42, 41, 92, 90] := rfl
    rw [this, List.take_append_of_le_length (by show y.cps.size ≤ _; simp), List.take_of_length_le (by show _ ≤ y.cps.size; simp)]
  rw [e4]
theorem at_two {x : Str} (h : Follows x.cps.toList) {i : Nat} (hi : x.cps.toList[i]? = some 92) : At x ⟨#[92, 43]⟩ x.length i := by
  have h2 := h i hi
  have l2 := (List.getElem?_eq_some_iff.mp h2).1
  refine ⟨by show i + 2 ≤ x.cps.size; have : i + 1 < x.cps.size := by simpa using l2
             omega, ?_⟩
  rw [subAt_eq, beq_iff_eq]
  show (x.cps.toList.drop i).take 2 = [92, 43]
  have l1 := (List.getElem?_eq_some_iff.mp hi).1
  rw [List.drop_eq_getElem_cons l1, (List.getElem?_eq_some_iff.mp hi).2, List.drop_eq_getElem_cons l2, (List.getElem?_eq_some_iff.mp h2).2]
  rfl
theorem part_no {x : Str} (h : Follows x.cps.toList) {a b : Nat} (hn : ∀ k, a ≤ k → k < b → ¬ At x ⟨#[92, 43]⟩ x.length k) : 92 ∉ (strSub x a b).cps.toList := by
  intro hm
  rw [PySem.StrLaws.strSub_toList] at hm
  obtain ⟨j, hj⟩ := List.getElem?_of_mem hm
  have hlt : j < b - a := by
    have h1 : j < ((x.cps.toList.drop a).take (b - a)).length := (List.getElem?_eq_some_iff.mp hj).1
    simp at h1
    omega
  rw [List.getElem?_take_of_lt hlt, List.getElem?_drop] at hj
  exact hn (a + j) (by omega) (by omega) (at_two h hj)
theorem parts_no {x : Str} (h : Follows x.cps.toList) : ∀ (cuts : List Nat) (a f : Nat), ChainG x ⟨#[92, 43]⟩ x.length a cuts f → (∀ k, f ≤ k → ¬ At x ⟨#[92, 43]⟩ x.length k) → ∀ p ∈ partsFrom x (⟨#[92, 43]⟩ : Str).length a cuts, 92 ∉ p.cps.toList
  | [], a, f, hG, hn, p, hp => by
    have e : f = a := hG
    subst e
    rw [List.mem_singleton.mp hp]
    exact part_no h fun k h1 _ => hn k h1
  | d :: r, a, f, hG, hn, p, hp => by
    rcases List.mem_cons.mp hp with rfl | hp'
    · exact part_no h hG.2.2.1
    · exact parts_no h r _ f hG.2.2.2 hn p hp'
theorem filter_no (c : Nat) (l : List Nat) (h : c ∉ l) : l.filter (· != c) = l := filter_free c l h
theorem strip_join : ∀ parts : List Str, (∀ p ∈ parts, 92 ∉ p.cps.toList) → (Str.join ⟨#[92, 43]⟩ parts).cps.toList.filter (· != 92) = (Str.join ⟨#[43]⟩ parts).cps.toList
  | [], _ => rfl
  | [p], h => filter_no 92 _ (h p (List.mem_singleton.mpr rfl))
  | p :: q :: r, h => by
    have ih := strip_join (q :: r) fun a ha => h a (List.mem_cons_of_mem _ ha)
    show (p ++ ⟨#[92, 43]⟩ ++ Str.join ⟨#[92, 43]⟩ (q :: r)).cps.toList.filter (· != 92) = (p ++ ⟨#[43]⟩ ++ Str.join ⟨#[43]⟩ (q :: r)).cps.toList
    rw [twice_list, twice_list, twice_list, twice_list, List.filter_append, List.filter_append, ih, filter_no 92 _ (h p (List.mem_cons_self ..))]
    rfl
theorem told_back (y : Int) : Txt.replace (escW y) (PySem.Str.ofString "\\+") (PySem.Str.ofString "+") = w8 y := by
  have e1 : PySem.Str.ofString "\\+" = ⟨#[92, 43]⟩ := by rw [← bplus_cps]
  have e2 : PySem.Str.ofString "+" = ⟨#[43]⟩ := by rw [← plus_cps]
  rw [e1, e2]
  have hl := escW_list y
  have hne : ∀ c ∈ (w8 y).cps.toList, c ≠ 92 := fun c hc => b64_ne (w8_mem hc)
  have hf : Follows (escW y).cps.toList := by rw [hl]; exact escL_follows _ hne
  have hs : (escW y).cps.toList.filter (· != 92) = (w8 y).cps.toList := by rw [hl]; exact escL_strip _ hne
  obtain ⟨f, hG, hn⟩ := occ_tight (escW y) ⟨#[92, 43]⟩ (by decide)
  have hp := parts_no hf _ 0 f hG hn
  have hj := strip_join _ hp
  have hg := PySem.StrLaws.glued_between_self (escW y) ⟨#[92, 43]⟩ ((escW y).length + 1)
  rw [PySem.StrLaws.glued_eq_join, partsBetween_eq] at hg
  rw [hg, hs] at hj
  apply ext_toList
  unfold Txt.replace
  split
  · rename_i hc
    rw [hj]
    have hc' : (occurrences (escW y) ⟨#[92, 43]⟩ 0 (escW y).length ((escW y).length + 1)) = [] := by
      rw [Bool.or_eq_true] at hc
      rcases hc with hc | hc
      · exact List.isEmpty_iff.mp hc
      · exact absurd hc (by decide)
    rw [hc'] at hj hp ⊢
    rw [← hj, ← hs]
    refine (filter_no 92 _ ?_).symm.trans (by rw [hs])
    have := hp (strSub (escW y) 0 (escW y).length) (by exact .head _)
    rwa [PySem.StrLaws.sub_whole] at this
  · rw [PySem.StrLaws.glued_eq_join, partsBetween_eq]
    exact hj.symm
end Mine
end
section
namespace Mine
theorem fresh_Fo5 : True := by
  w_top off
  trivial
end Mine
open PySem PySem.W PyProof.Rows PySem.Spec PySem.Calls
set_option Elab.async false
set_option maxRecDepth 100000
namespace Mine
theorem shaped_pair {a b : Str} (ha : PyData.strOk a = true) (hb : PyData.strOk b = true) : SeqAt.shaped (.tuple [.str a, .str b]) = true := by first | rfl | decide | simp [SeqAt.shaped, PyData.canLay0, PyData.canLayAll0, PyData.depth, PyData.depthAll, ha, hb]
theorem strOk_w8 (x : Int) : PyData.strOk (w8 x) = true := by
  unfold PyData.strOk w8
  rw [← Array.all_toList, List.all_eq_true]
  intro c hc
  obtain ⟨k, _, rfl⟩ := List.mem_map.mp hc
  have := sign_lt k
  exact decide_eq_true (by omega)
theorem strOk_w12 (x : Int) : PyData.strOk (w12 x) = true := by
  unfold PyData.strOk w12
  rw [← Array.all_toList, List.all_eq_true]
  intro c hc
  obtain ⟨k, _, rfl⟩ := List.mem_map.mp hc
  have := figure_lt k
  exact decide_eq_true (by omega)
section
variable {prog : Program} {w : World} {A : Around} {E : Value → Shared → Prop} {s : Shared} {a b : Addr} {h₀ : Heap} {L : Addr} {news : List (Addr × Obj)} {oa ob : Obj} {Q : Value → Shared → Prop}
theorem ne_pair {x y : Str} {t1 t2 u1 u2 : Tok} {n k : Nat} (N : News h₀ L s.heap news) (ha : (a, oa) ∈ news) (hb : (b, ob) ∈ news) (ca : oa.cls = .type "tuple") (cb : ob.cls = .type "tuple") (da : oa.data = .seq #[.str x t1, .str y t2] n) (db : ob.data = .seq #[.str x u1, .str y u2] k)
    (hx : PyData.strOk x = true) (hy : PyData.strOk y = true) (hu : A.units + 64 < cLine) (h : Q (.bool false) s) : wpAny (model prog w) A (compareOp .NotEq (.ref a) (.ref b)) Q E s := by
  refine ne_dataH (reads_tuple_at (N _ ha).1 ca da (.cons (Reads.str _ _) (.cons (Reads.str _ _) .nil))) (reads_tuple_at (N _ hb).1 cb db (.cons (Reads.str _ _) (.cons (Reads.str _ _) .nil))) (shaped_pair hx hy) (shaped_pair hx hy) hu ?_
  ke_norm
  exact h
end
end Mine
end
section
namespace Mine
theorem fresh_Fo6 : True := by
  w_top off
  trivial
end Mine
open PySem PySem.W PyProof.Rows PySem.Spec PySem.Calls
set_option Elab.async false
set_option maxRecDepth 100000
namespace Mine
theorem news_drop7 {h₀ h : Heap} {L : Addr} {a b c d e f g i : Addr × Obj} {r : List (Addr × Obj)} (N : News h₀ L h (a :: b :: c :: d :: e :: f :: g :: i :: r)) : News h₀ L h (a :: r) := fun p hp => by
  rcases List.mem_cons.mp hp with rfl | hp
  · exact N _ (.head _)
  · exact N p (.tail _ (.tail _ (.tail _ (.tail _ (.tail _ (.tail _ (.tail _ (.tail _ hp))))))))
theorem lt_of_led {h₀ h : Heap} {L : Addr} {l : List (Addr × Obj)} (N : News h₀ L h l) : ∀ a ∈ l.map (·.1), a < h.objs.size := fun a ha => by
  obtain ⟨p, hp, rfl⟩ := List.mem_map.mp ha
  exact Heap.lt_size (N p hp).1
theorem ints_of {f : Nat → Int} : ∀ {n : Nat} {ys : List Value}, ys.length = n → (∀ i v, ys[i]? = some v → ∃ t, v = Value.int (f i) t) → IntsAre ys ((List.range n).map f) := by
  intro n
  induction n generalizing f with
  | zero =>
    intro ys hl _
    rw [List.length_eq_zero_iff.mp hl]; exact .nil
  | succ n ih =>
    intro ys hl h
    cases ys with
    | nil => cases hl
    | cons v r =>
      obtain ⟨t, rfl⟩ := h 0 v (by simp)
      rw [List.range_succ_eq_map, List.map_cons, List.map_map]
      exact .cons _ _ (ih (f := fun i => f (i + 1)) (by simpa using hl) fun i v hv => h (i + 1) v (by simpa using hv))
/-- the law's ledger in its last loop -/
noncomputable def LawLed (x least : Int) (I ax : Addr) (lo : Obj) (a7 a6 a5 a4 a3 a2 a1 : Addr) (news : List (Addr × Obj)) : Prop :=
  ∃ o7 o6 o5 o4 o3 o2 o1 ps cx ox v7 v6 t5 t3 v2 t1, news = [(ax, lo), (a7, o7), (a6, o6), (a5, o5), (a4, o4), (a3, o3), (a2, o2), (a1, o1), (60, tabObj ps), (cx, ox), (137, tabObj #[])] ∧
    o7.data = Data.cell v7 ∧ o6.data = Data.cell v6 ∧ o5.data = Data.cell (some (.str (w8 x) t5)) ∧ o3.data = Data.cell (some (.int least t3)) ∧ o2.data = Data.cell v2 ∧ o1.data = Data.cell (some (.int x t1)) ∧
    TabOk ps cx ox ∧ ∀ a ∈ [I, ax, a7, a6, a5, a4, a3, a2, a1, 137], a ≠ cx
noncomputable def BodyEnd (h₀ : Heap) (L : Addr) (s : Shared) (x least : Int) (I : Addr) (o : Obj) (ax : Addr) (lo : Obj) (a7 a6 a5 a4 a3 a2 a1 : Addr) (f : Flow) (s₃ : Shared) : Prop :=
  f = .next ∧ ∃ h' tk' m' news', s₃ = { s with heap := h', toks := tk' } ∧ Fr h₀ L h' m' ∧ News h₀ L h' ((I, o) :: news') ∧ (∃ t, m' "twelve" = some (.str (w12 x) t)) ∧ LawLed x least I ax lo a7 a6 a5 a4 a3 a2 a1 news'
section
variable {prog : Program} {w : World} {A : Around} {E : Value → Shared → Prop} {s : Shared} {env : Env} {h₀ : Heap} {target : Expr} {body : List Stmt} {Q : Flow → Shared → Prop}
  {ax a7 a6 a5 a4 a3 a2 a1 L : Addr} {lo o7 o6 o5 o4 o3 o2 o1 : Obj} {m : Str → Option Value} {x least : Int}
theorem keys_loop {vs : List Value} {ns : List Int} {n : Nat} {v7 v6 v2 : Option Value} {t5 t3 t1 t12 : Tok} (hL : env.locals = L) (hh : A.handled = none) (F : Fr h₀ L s.heap m)
    (N : News h₀ L s.heap [(ax, lo), (a7, o7), (a6, o6), (a5, o5), (a4, o4), (a3, o3), (a2, o2), (a1, o1), (60, tabObj #[]), (137, tabObj #[])]) (hc : lo.cls = .type "list") (hd : lo.data = .seq vs.toArray n) (hI : IntsAre vs ns) (hns : ∀ k ∈ ns, 0 ≤ k ∧ k < 48)
    (d7 : o7.data = Data.cell v7) (d6 : o6.data = Data.cell v6) (d5 : o5.data = Data.cell (some (.str (w8 x) t5))) (d3 : o3.data = Data.cell (some (.int least t3))) (d2 : o2.data = Data.cell v2) (d1 : o1.data = Data.cell (some (.int x t1)))
    (h12 : m "twelve" = some (.str (w12 x) t12)) (hax : ∀ a ∈ [a7, a6, a5, a4, a3, a2, a1, 137, 60], a ≠ ax) (h60 : ∀ a ∈ [a7, a6, a5, a4, a3, a2, a1], a ≠ 60)
    (step : ∀ (I : Addr) (o : Obj) (k : Int) (tk0 : Tok) (h : Heap) (tk : Nat) (mr : Str → Option Value) (t12 : Tok) o7 o6 o5 o4 o3 o2 o1 ps cx ox v7 v6 t5 t3 v2 t1, 0 ≤ k → k < 48 → o.cls = .type "list_iterator" →
      (∀ a ∈ [ax, a7, a6, a5, a4, a3, a2, a1, 60, 137], a < I) → (∀ a ∈ [I, ax, a7, a6, a5, a4, a3, a2, a1, 137], a ≠ cx) → (∀ a ∈ [a7, a6, a5, a4, a3, a2, a1, 137, 60], a ≠ ax) → (∀ a ∈ [a7, a6, a5, a4, a3, a2, a1], a ≠ 60) →
      o7.data = Data.cell v7 → o6.data = Data.cell v6 → o5.data = Data.cell (some (.str (w8 x) t5)) → o3.data = Data.cell (some (.int least t3)) → o2.data = Data.cell v2 → o1.data = Data.cell (some (.int x t1)) → TabOk ps cx ox →
      Fr h₀ L h (fun y => if y = "twelve" then some (.str (w12 x) t12) else mr y) → News h₀ L h [(I, o), (ax, lo), (a7, o7), (a6, o6), (a5, o5), (a4, o4), (a3, o3), (a2, o2), (a1, o1), (60, tabObj ps), (cx, ox), (137, tabObj #[])] →
      wpAny (model prog w) A (assign target env (.int k tk0)) (fun _ s₂ => wpAny (model prog w) A (execs body env) (BodyEnd h₀ L { s with heap := h, toks := tk } x least I o ax lo a7 a6 a5 a4 a3 a2 a1) E s₂) E { s with heap := h, toks := tk })
    (last : ∀ m h tk news I, LawLed x least I ax lo a7 a6 a5 a4 a3 a2 a1 news → Fr h₀ L h m → News h₀ L h news → Q .next { s with heap := h, toks := tk }) :
    wpAny (model prog w) A (pyIter (.ref ax)) (fun it s₂ => TurnsAt prog w A h₀ env target body Q E it s₂) E s := by
  subst hL
  have N' : News h₀ env.locals s.heap [(ax, lo), (a7, o7), (a6, o6), (a5, o5), (a4, o4), (a3, o3), (a2, o2), (a1, o1), (60, tabObj #[]), (60, tabObj #[]), (137, tabObj #[])] := news_sub N fun p hp => by
    simp only [List.mem_cons] at hp ⊢
    rcases hp with h | h | h | h | h | h | h | h | h | h | h | h <;> simp [h]
  refine iter_listTurns hh F N' (.head _) hc hd fun I hI' => ?_
  have lI : ∀ a ∈ [ax, a7, a6, a5, a4, a3, a2, a1, 60, 137], a < I := fun a ha => by
    simp only [List.mem_cons, List.not_mem_nil, or_false] at ha
    rcases ha with rfl | rfl | rfl | rfl | rfl | rfl | rfl | rfl | rfl | rfl
    · exact hI' (a, lo) (by simp)
    · exact hI' (a, o7) (by simp)
    · exact hI' (a, o6) (by simp)
    · exact hI' (a, o5) (by simp)
    · exact hI' (a, o4) (by simp)
    · exact hI' (a, o3) (by simp)
    · exact hI' (a, o2) (by simp)
    · exact hI' (a, o1) (by simp)
    · exact hI' (60, tabObj #[]) (by simp)
    · exact hI' (137, tabObj #[]) (by simp)
  refine items_ind (α := Value) (it := .val) (fun l m' news' => (∃ ns', IntsAre l ns' ∧ ∀ k ∈ ns', 0 ≤ k ∧ k < 48) ∧ (∃ t, m' "twelve" = some (.str (w12 x) t)) ∧ LawLed x least I ax lo a7 a6 a5 a4 a3 a2 a1 news') ?_ ?_ ?_ vs m _ ?_
  · rintro l m' news' ⟨_, _, o7, o6, o5, o4, o3, o2, o1, ps, cx, ox, v7, v6, t5, t3, v2, t1, rfl, _⟩
    exact ⟨.head _, trivial⟩
  · rintro v r m' news' ⟨⟨ns', hI', hk⟩, ⟨t, ht⟩, o7, o6, o5, o4, o3, o2, o1, ps, cx, ox, v7, v6, t5, t3, v2, t1, rfl, d7, d6, d5, d3, d2, d1, hT, hcx⟩ u h tk e F o ho N
    have e' : u = v := e
    subst e'
    cases hI' with
    | cons k tk0 hr =>
      have hk0 := hk _ (.head _)
      have em : m' = fun y => if y = ("twelve" : Str) then some (.str (w12 x) t) else m' y := funext fun y => by
        by_cases hy : y = ("twelve" : Str)
        · rw [if_pos hy, hy, ht]
        · rw [if_neg hy]
      rw [em] at F
      refine wpAny_mono (step I o k tk0 h tk m' t o7 o6 o5 o4 o3 o2 o1 ps cx ox v7 v6 t5 t3 v2 t1 hk0.1 hk0.2 ho lI hcx hax h60 d7 d6 d5 d3 d2 d1 hT F N) (fun _ s₂ h₂ => wpAny_mono h₂ (fun f s₃ h₃ => ?_) fun _ _ x => x) fun _ _ x => x
      obtain ⟨rfl, h', tk', m'', news'', rfl, F', N', h12', hled⟩ := h₃
      refine TurnEnd.intro F' N' ?_ ⟨⟨_, hr, fun q hq => hk q (.tail _ hq)⟩, h12', hled⟩
      obtain ⟨p7, p6, p5, p4, p3, p2, p1, qs, cy, oy, _, _, _, _, _, _, rfl, _, _, _, _, _, _, _, hcy⟩ := hled
      intro p hp
      simp only [List.mem_cons, List.not_mem_nil, or_false] at hp
      rcases hp with rfl | rfl | rfl | rfl | rfl | rfl | rfl | rfl | rfl | rfl | rfl
      · exact Nat.ne_of_lt (lI _ (by simp))
      · exact Nat.ne_of_lt (lI _ (by simp))
      · exact Nat.ne_of_lt (lI _ (by simp))
      · exact Nat.ne_of_lt (lI _ (by simp))
      · exact Nat.ne_of_lt (lI _ (by simp))
      · exact Nat.ne_of_lt (lI _ (by simp))
      · exact Nat.ne_of_lt (lI _ (by simp))
      · exact Nat.ne_of_lt (lI _ (by simp))
      · exact Nat.ne_of_lt (lI _ (by simp))
      · exact (hcy I (.head _)).symm
      · exact Nat.ne_of_lt (lI _ (by simp))
  · rintro m' news' ⟨_, _, hled⟩ h tk F N
    exact last m' h tk news' I hled F N
  · refine ⟨⟨ns, hI, hns⟩, ⟨t12, h12⟩, o7, o6, o5, o4, o3, o2, o1, #[], 60, tabObj #[], v7, v6, t5, t3, v2, t1, rfl, d7, d6, d5, d3, d2, d1, .inl ⟨rfl, rfl, rfl⟩, fun a ha => ?_⟩
    simp only [List.mem_cons, List.not_mem_nil, or_false] at ha
    rcases ha with rfl | rfl | rfl | rfl | rfl | rfl | rfl | rfl | rfl | rfl
    · exact (Nat.ne_of_lt (lI 60 (by simp))).symm
    · exact (hax 60 (by simp)).symm
    · exact h60 a (by simp)
    · exact h60 a (by simp)
    · exact h60 a (by simp)
    · exact h60 a (by simp)
    · exact h60 a (by simp)
    · exact h60 a (by simp)
    · exact h60 a (by simp)
    · decide
end
end Mine
end
section
namespace Mine
theorem fresh_Lw : True := by
  w_top off
  trivial
end Mine
open PySem PySem.W PyProof.Rows
set_option Elab.async false
set_option maxRecDepth 100000
namespace Mine
/-- the law's own statements, out of the given program -/
noncomputable def lawBody : List Stmt := match PySem.Challenge.pw_in0265_01.main.body.reverse with
  | .FunctionDef _ _ b _ _ _ _ _ _ _ :: _ => b
  | _ => []
noncomputable def lawScope : Scope := match PySem.Challenge.pw_in0265_01.main.body.reverse with
  | .FunctionDef _ _ _ _ _ _ sc _ _ _ :: _ => sc
  | _ => { kind := .function, names := [], isGenerator := false, isCoroutine := false }
noncomputable def forTarget : PySem.Expr := match lawBody.reverse with
  | _ :: .For t _ _ _ _ :: _ => t
  | _ => .Name (Str.ofString "k") ⟨0, 0, 0, 0⟩
noncomputable def forBody : List Stmt := match lawBody.reverse with
  | _ :: .For _ _ b _ _ :: _ => b
  | _ => []
noncomputable abbrev lawEnv (L a : Addr) (cd : Value) : Env := envOfC (Str.ofString "law") lawScope L a cd
end Mine
end
section
namespace Mine
theorem fresh_Pl : True := by
  w_top off
  trivial
end Mine
open PySem PySem.W PyProof.Rows PySem.Spec PySem.Calls
open PySem.Builtin PySem.Builtin.Str PySem.StrLaws
set_option Elab.async false
set_option maxRecDepth 100000
namespace Mine
theorem pre_cps : (PySem.Str.ofString "(?s:(?>.*?").cps = #[40, 63, 115, 58, 40, 63, 62, 46, 42, 63] := by decide +kernel
theorem post_cps : (PySem.Str.ofString ").*)\\Z").cps = #[41, 46, 42, 41, 92, 90] := by decide +kernel
theorem told_len (y : Str) : (told y).length = y.length + 16 := by
  show (#[40, 63, 115, 58, 40, 63, 62, 46, 42, 63] ++ y.cps ++ #[41, 46, 42, 41, 92, 90]).size = y.cps.size + 16
  rw [Array.size_append, Array.size_append]
  show 10 + y.cps.size + 6 = _
  omega
theorem told_starts (y : Str) : (decide (0 + (PySem.Str.ofString "(?s:(?>.*?").length ≤ (told y).length) && subAt (told y) (PySem.Str.ofString "(?s:(?>.*?") 0) = true := by
  have e : PySem.Str.ofString "(?s:(?>.*?" = ⟨#[40, 63, 115, 58, 40, 63, 62, 46, 42, 63]⟩ := by rw [← pre_cps]
  rw [e, told_len, Bool.and_eq_true, decide_eq_true_eq]
  refine ⟨by show 0 + 10 ≤ _; omega, ?_⟩
  unfold subAt told
  show ((#[40, 63, 115, 58, 40, 63, 62, 46, 42, 63] ++ y.cps ++ #[41, 46, 42, 41, 92, 90]).extract 0 10 == _) = true
  rw [beq_iff_eq]
  apply Array.ext'
  rw [Array.toList_extract, Array.toList_append, Array.toList_append]
  rfl
theorem told_ends (y : Str) : (decide (0 + (PySem.Str.ofString ").*)\\Z").length ≤ (told y).length) && subAt (told y) (PySem.Str.ofString ").*)\\Z") ((told y).length - (PySem.Str.ofString ").*)\\Z").length)) = true := by
  have e : PySem.Str.ofString ").*)\\Z" = ⟨#[41, 46, 42, 41, 92, 90]⟩ := by rw [← post_cps]
  rw [e, told_len, Bool.and_eq_true, decide_eq_true_eq]
  refine ⟨by show 0 + 6 ≤ _; omega, ?_⟩
  unfold subAt told
  show ((#[40, 63, 115, 58, 40, 63, 62, 46, 42, 63] ++ y.cps ++ #[41, 46, 42, 41, 92, 90]).extract (y.cps.size + 16 - 6) (y.cps.size + 16 - 6 + 6) == _) = true
  rw [beq_iff_eq]
  apply Array.ext'
  rw [Array.toList_extract, Array.toList_append, Array.toList_append, List.extract_eq_take_drop]
  have hl : ([40, 63, 115, 58, 40, 63, 62, 46, 42, 63] ++ y.cps.toList).length = y.cps.size + 16 - 6 := by simp
  show List.take (y.cps.size + 16 - 6 + 6 - (y.cps.size + 16 - 6)) (List.drop (y.cps.size + 16 - 6) ([40, 63, 115, 58, 40, 63, 62, 46, 42, 63] ++ y.cps.toList ++ [41, 46, 42, 41, 92, 90])) = _
  rw [← hl, List.drop_left]
  rw [show ∀ n : Nat, n + 6 - n = 6 from fun n => by omega]
  rfl
theorem esc_len (c : Nat) : (esc c).size ≤ 2 := by unfold esc; split <;> simp
theorem len_escW (y : Int) : (escW y).length ≤ 16 := by
  show (((sixes y).map fun k => (⟨esc (sign k).toNat⟩ : Str)).map fun y => y.cps.toList).flatten.toArray.size ≤ 16
  rw [List.size_toArray, List.map_map]
  show ((List.map _ [y / 4398046511104 % 64, y / 68719476736 % 64, y / 1073741824 % 64, y / 16777216 % 64, y / 262144 % 64, y / 4096 % 64, y / 64 % 64, y % 64]).flatten).length ≤ 16
  simp only [List.map_cons, List.map_nil, List.flatten_cons, List.flatten_nil, List.length_append, List.length_nil, Function.comp, Array.length_toList]
  have h1 := esc_len (sign (y / 4398046511104 % 64)).toNat
  have h2 := esc_len (sign (y / 68719476736 % 64)).toNat
  have h3 := esc_len (sign (y / 1073741824 % 64)).toNat
  have h4 := esc_len (sign (y / 16777216 % 64)).toNat
  have h5 := esc_len (sign (y / 262144 % 64)).toNat
  have h6 := esc_len (sign (y / 4096 % 64)).toNat
  have h7 := esc_len (sign (y / 64 % 64)).toNat
  have h8 := esc_len (sign (y % 64)).toNat
  omega
theorem fig_in {k : Int} (h0 : 0 ≤ k) (h1 : k < 16) : (figure k).toNat ∈ hexs := by
  have all : ∀ n < 16, hexs.getD n 0 ∈ hexs := by decide +kernel
  exact all k.toNat (by omega)
theorem len_w8 (x : Int) : (w8 x).length ≤ 8 := Nat.le_refl 8
theorem len_w12 (x : Int) : (w12 x).length ≤ 12 := Nat.le_refl 12
theorem four_mem (z : Int) : (figure (z % 16)).toNat ∈ hexs := fig_in (Int.emod_nonneg _ (by decide)) (Int.emod_lt_of_pos _ (by decide))
theorem w12_mem {x : Int} {c : Nat} (h : c ∈ (w12 x).cps.toList) : c ∈ hexs := by
  obtain ⟨k, hk, rfl⟩ := List.mem_map.mp h
  simp only [fours, List.mem_cons, List.not_mem_nil, or_false] at hk
  rcases hk with rfl | rfl | rfl | rfl | rfl | rfl | rfl | rfl | rfl | rfl | rfl | rfl <;> exact four_mem _
theorem two_mem {a b : Str} {c : Nat} (h : c ∈ (a ++ b).cps.toList) : c ∈ a.cps.toList ∨ c ∈ b.cps.toList := by
  have e : (a ++ b).cps = a.cps ++ b.cps := rfl
  rw [e, Array.toList_append] at h
  exact List.mem_append.mp h
theorem mem_88 {x : Int} {c : Nat} (h : c ∈ (w8 x ++ w8 x).cps.toList) : c ∈ b64 := (two_mem h).elim w8_mem w8_mem
theorem mem_1212 {x : Int} {c : Nat} (h : c ∈ (w12 x ++ w12 x).cps.toList) : c ∈ hexs := (two_mem h).elim w12_mem w12_mem
theorem b64_small {c : Nat} (h : c ∈ b64) : c ≠ 10 ∧ c < 16 ^ 8 := by
  have all : ∀ c ∈ b64, c ≠ 10 ∧ c < 16 ^ 8 := by decide +kernel
  exact all c h
theorem hexs_small {c : Nat} (h : c ∈ hexs) : c ≠ 10 ∧ c < 16 ^ 8 := by
  have all : ∀ c ∈ hexs, c ≠ 10 ∧ c < 16 ^ 8 := by decide +kernel
  exact all c h
theorem rep_le {x : Str} {n : Nat} (hx : x.length ≤ n) (hn : n ≤ 100) (h : ∀ c ∈ x.cps.toList, c < 16 ^ 8) : (reprText x).length ≤ 1100 := by
  have := StrLaws.reprText_len x h
  omega
theorem rep_one {c : Nat} (h : c < 16 ^ 8) : (reprText ⟨#[c]⟩).length ≤ 1100 := rep_le (n := 1) (Nat.le_refl 1) (by decide) fun d hd => by
  have : d = c := by simpa using hd
  rw [this]; exact h
theorem news_front {h₀ h : Heap} {L : Addr} {l1 : List (Addr × Obj)} {x y : Addr × Obj} {r : List (Addr × Obj)} (N : News h₀ L h (l1 ++ x :: y :: r)) : News h₀ L h (x :: y :: (l1 ++ r)) := fun p hp => N p (by
  simp only [List.mem_cons, List.mem_append] at hp ⊢
  rcases hp with h | h | h | h
  · exact .inr (.inl h)
  · exact .inr (.inr (.inl h))
  · exact .inl h
  · exact .inr (.inr (.inr h)))
section
variable {prog : Program} {w : World} {A : Around} {E : Value → Shared → Prop} {s : Shared} {Q : Value → Shared → Prop} {y : Str} {t u : Tok}
theorem ne_same {a b : Int} (e : a = b) (h : Q (.bool false) s) : wpAny (model prog w) A (compareOp .NotEq (.int a t) (.int b u)) Q E s := ne_int (by rw [e, bne_self_eq_false]; exact h)
theorem starts_told (h : Q (.bool true) s) : wpAny (model prog w) A (call (.builtin "str.startswith") [.str (told y) t, .str (PySem.Str.ofString "(?s:(?>.*?") u]) Q E s :=
  call_gives F.slot_str_startswith (typeIs_str _ _ _) F.entry_str_startswith (F.args_str_startswith_2 _ _) (gives_str_startswith _ _ t u) (by rw [told_starts]; exact h)
theorem ends_told (h : Q (.bool true) s) : wpAny (model prog w) A (call (.builtin "str.endswith") [.str (told y) t, .str (PySem.Str.ofString ").*)\\Z") u]) Q E s :=
  call_gives F.slot_str_endswith (typeIs_str _ _ _) F.entry_str_endswith (F.args_str_endswith_2 _ _) (gives_str_endswith _ _ t u) (by rw [told_ends]; exact h)
theorem count_any {x z : Str} (h : Q (.int (occurrences x z 0 x.length (x.length + 1)).length s.toks) { s with toks := s.toks + 1 }) : wpAny (model prog w) A (call (.builtin "str.count") [.str x t, .str z u]) Q E s :=
  call_gives F.slot_str_count (typeIs_str _ _ _) F.entry_str_count (F.args_str_count_2 _ _) (gives_str_count _ _ t u) h
theorem ne_ints {a b : Addr} {oa ob : Obj} {xs ys : Array Value} {n m : Nat} {ns : List Int} (ga : s.heap.get? a = some oa) (gb : s.heap.get? b = some ob) (ca : oa.cls = .type "list") (cb : ob.cls = .type "list") (da : oa.data = .seq xs n) (db : ob.data = .seq ys m)
    (hi : IntsAre xs.toList ns) (hj : IntsAre ys.toList ns) (hu : A.units + 64 < cLine) (h : Q (.bool false) s) : wpAny (model prog w) A (compareOp .NotEq (.ref a) (.ref b)) Q E s :=
  ke_ne_ints (xs := xs.toList) (ys := ys.toList) ⟨oa, ga, ca, n, by rw [da, Array.toArray_toList]⟩ ⟨ob, gb, cb, m, by rw [db, Array.toArray_toList]⟩ hi hj hu (by rw [decide_eq_true rfl]; exact h)
theorem replace_told {y : Int} {v : Tok} (hu : 1 ≤ u) (hv : u < v) (hq : ∀ t' k, Q (.str (w8 y) t') { s with toks := k }) : wpAny (model prog w) A (call (.builtin "str.replace") [.str (escW y) t, .str (PySem.Str.ofString "\\+") u, .str (PySem.Str.ofString "+") v]) Q E s := by
  refine SC.replaceW (show u ≠ 0 from Nat.ne_of_gt hu) (show v ≠ 0 from Nat.ne_of_gt (Nat.lt_of_le_of_lt (Nat.zero_le _) hv)) (show u ≠ v from Nat.ne_of_lt hv) (by decide +kernel) (Nat.le_trans (len_escW y) (by decide)) (by decide +kernel) fun t' k => ?_
  rw [told_back]
  exact hq t' k
end
end Mine
end
section
namespace Mine
theorem fresh_Ln : True := by
  w_top off
  trivial
end Mine
open PySem PySem.W PyProof.Rows PySem.Spec PySem.Calls
open PySem.Builtin PySem.Builtin.Str
set_option Elab.async false
set_option maxRecDepth 100000
namespace Mine
open PySem.StrLaws (At subAt_eq)
/-- the first of the eight signs -/
noncomputable def sg (y : Int) : Nat := (sign (y / 4398046511104 % 64)).toNat
theorem sg_mem (y : Int) : sg y ∈ b64 := six_mem _
theorem w8_first (y : Int) : (w8 y).cps.toList[0]? = some (sg y) := rfl
theorem item_w8z (y : Int) : Txt.item (w8 y) 0 = ⟨#[sg y]⟩ := item_meets (Int.le_refl 0) rfl
theorem near_hit {x y : Str} {c n i : Nat} (hc : y.cps.toList[0]? = some c) (h : At x y n i) : x.cps.toList[i]? = some c := by
  have h2 := h.2
  rw [subAt_eq, beq_iff_eq] at h2
  have hl : 0 < y.length := by
    have := (List.getElem?_eq_some_iff.mp hc).1
    show 0 < y.cps.size
    simpa using this
  rw [← h2, List.getElem?_take_of_lt hl, List.getElem?_drop] at hc
  exact hc
theorem cut_to {x : Str} {r : Nat} (h : r ≤ x.length) : (Txt.slice x none (some (r : Int))).cps.toList = x.cps.toList.take r := by
  have := eq_of_beq (slice_closes_toL (x := x) (j := (r : Int)) (by omega) (by omega))
  rw [this]
  show List.take ((r : Int) - 0).toNat (List.drop (Int.toNat 0) x.cps.toList) = _
  rw [show ((r : Int) - 0).toNat = r by omega]
  rfl
theorem getD_cast (R : List Nat) (i : Nat) : (R.map fun (j : Nat) => 0 + (j : Int)).getD (0 + (i : Int)).toNat 0 = ((R.getD i 0 : Nat) : Int) := by
  rw [show (0 + (i : Int)).toNat = i by omega, List.getD_eq_getElem?_getD, List.getElem?_map, List.getD_eq_getElem?_getD]
  cases R[i]? with
  | none => rfl
  | some n => exact Int.zero_add _
theorem getD_small {R : List Nat} (h : ∀ r ∈ R, r ≤ 8) (i : Nat) : R.getD i 0 ≤ 8 := by
  rw [List.getD_eq_getElem?_getD]
  cases hx : R[i]? with
  | none => decide
  | some n => exact h n (List.mem_of_getElem? hx)
theorem law_near {x least k : Int} (x0 : 0 ≤ x) (x1 : x < 281474976710656) (l0 : 1 ≤ least) (l1 : least ≤ 48) (l2 : turned x least = x) (l3 : ∀ j, 1 ≤ j → j < least → turned x j ≠ x) (k0 : 0 ≤ k) (k1 : k < 48)
    {ds : List Int} (hds : ds = ((List.range 9).filter fun (i : Nat) => ((6 * (0 + (i : Int)) - k).fmod least == 0)).map fun (i : Nat) => 0 + (i : Int)) :
    placesFrom (w8 x ++ w8 x) (w8 (turned x k)) ⟨#[sg (turned x k)]⟩ 20 0 [] = ((List.range ds.length).filter fun (i : Nat) => ((((Txt.slice (w8 x) none (some (ds.getD (0 + (i : Int)).toNat 0))).cps.toList.count (sg (turned x k)) : Nat) : Int) == 0 + (i : Int))).map fun (i : Nat) => ds.getD (0 + (i : Int)).toNat 0 := by
  have P8 := places8 x0 x1 l0 l1 l2 l3 k0 k1
  have := places_near (x := w8 x ++ w8 x) (y := w8 (turned x k)) (b := ⟨#[sg (turned x k)]⟩) (c := sg (turned x k)) rfl (m := 8) (by rw [twice_len, w8_len]; decide) P8
    (fun i hi h8 => near_hit (w8_first _) ((P8 i).mpr ⟨h8, hi⟩)) 20 0 0 [] (by decide) (by decide) rfl
  rw [show ((0 : Nat) : Int) = 0 from rfl] at this
  rw [this, List.nil_append, show 8 + 1 - 0 = 9 from rfl, ← List.range_eq_range', nearFrom_idx, hds, List.map_map, List.length_map]
  have hR : ∀ r ∈ (List.range 9).filter fun (i : Nat) => ((6 * (0 + (i : Int)) - k).fmod least == 0), r ≤ 8 := fun r hr => by
    have := List.mem_range.mp (List.mem_filter.mp hr).1
    omega
  generalize (List.range 9).filter (fun (i : Nat) => ((6 * (0 + (i : Int)) - k).fmod least == 0)) = R at hR
  have hf : (fun i => decide (cnT (sg (turned x k)) (w8 x ++ w8 x).cps.toList (R.getD i 0) = 0 + i)) = fun (i : Nat) => ((((Txt.slice (w8 x) none (some ((R.map fun (j : Nat) => 0 + (j : Int)).getD (0 + (i : Int)).toNat 0))).cps.toList.count (sg (turned x k)) : Nat) : Int) == 0 + (i : Int)) := funext fun i => by
    rw [getD_cast, cut_to (x := w8 x) (r := R.getD i 0) (getD_small hR i)]
    unfold cnT
    rw [twice_list, List.take_append_of_le_length (l₁ := (w8 x).cps.toList) (getD_small hR i), Bool.eq_iff_iff, decide_eq_true_eq, beq_iff_eq]
    omega
  rw [hf]
  exact List.map_congr_left fun i _ => (getD_cast R i).symm
section
variable {prog : Program} {w : World} {A : Around} {E : Value → Shared → Prop} {s : Shared} {Q : Value → Shared → Prop} {t u : Tok}
theorem item_first {value slice : PySem.Expr} {y : Int}
    (h : ∀ t' k', Q (.str ⟨#[sg y]⟩ t') { s with toks := k' })
    (hs : subscripted slice false (.str (w8 y) t) (.int 0 u) = operate [.str (w8 y) t, .int 0 u] (getItem (.str (w8 y) t) (.int 0 u)) := by with_unfolding_all rfl)
    (ht : ∀ r, letTemporaryGo value (.str (w8 y) t) r = pure () := by intro _; with_unfolding_all rfl) :
    wpAny (model prog w) A (subscriptTail value slice (.str (w8 y) t) (.int 0 u)) Q E s := by
  refine item_str (by decide) (by omega) (by show (0 : Int) < ((8 : Nat) : Int); decide) (fun _ => ?_) hs ht
  rw [item_w8z]
  exact h _ _
theorem count_sg {x : Str} {c : Nat} (h : ∀ t' k', Q (.int ((x.cps.toList.count c : Nat) : Int) t') { s with toks := k' }) : wpAny (model prog w) A (call (.builtin "str.count") [.str x t, .str ⟨#[c]⟩ u]) Q E s := by
  refine count_any ?_
  rw [occ_count]
  exact h _ _
end
end Mine
end
section
namespace Mine
theorem fresh_P11 : True := by
  w_top off
  trivial
end Mine
open PySem PySem.W PyProof.Rows
set_option Elab.async false
set_option maxRecDepth 100000
set_option maxHeartbeats 8000000
namespace Mine
theorem said_P11_0 : True := by
  k_with_none
  k_with "k_enter" => (first | (refine' code_def (by k_asm) (by k_asm) (by k_asm) (by k_asm) (by k_asm) rfl rfl (by first | exact rfl | assumption) (by k_is) (by k_is) (by ktr_room) (by first | exact BindsTo.of_eq rfl | (refine' kp_binds (by k_in) (by exact fun _ => rfl))) (by exact locs rfl) ?_ (by exact rfl) (by exact rfl) (by exact rfl) (by decide); k_whole; intro _ _ _ _ _ _ _ _ _; (try dsimp only); (try k_fold)) | (refine' code_defC (by k_asm) (by k_asm) (by k_asm) (by k_asm) (by k_asm) rfl rfl (by first | exact rfl | assumption) (by k_is) (by k_is) (by ktr_room) (by first | exact BindsTo.of_eq rfl | (refine' kp_binds (by k_in) (by exact fun _ => rfl))) (by exact rfl) (by decide +kernel) ?_ (by exact rfl) (by exact rfl) (by exact rfl); k_whole; intro _ _ _ _ _ N' Y' _ _ _ l1; (try k_lt l1); k_cells Y'; (try simp only [List.cons_append, List.nil_append] at N'); (try dsimp only); (try k_fold)))
  k_with "cell_enter" => (first | (refine' enterS (by k_asm) (by k_asm) (by k_asm) (by k_asm) rfl rfl (by first | exact rfl | assumption) (by k_is) (by k_is) (by ktr_room) (by first | exact BindsTo.of_eq rfl | (refine' kp_binds (by k_in) (by exact fun _ => rfl))) (by exact locs rfl) ?_ (by exact rfl) (by exact rfl) (by exact rfl) (by decide); k_whole; intro _ _ _ _ _ _ _; (try dsimp only); (try k_fold)) | (refine' enterCS (by k_asm) (by k_asm) (by k_asm) (by k_asm) rfl rfl (by first | exact rfl | assumption) (by k_is) (by k_is) (by ktr_room) (by first | exact BindsTo.of_eq rfl | (refine' kp_binds (by k_in) (by exact fun _ => rfl))) (by exact rfl) (by decide +kernel) ?_ (by exact rfl) (by exact rfl) (by exact rfl); k_whole; intro _ _ _ _ _ N' Y' _ _ _; k_cells Y'; (try simp only [List.cons_append, List.nil_append] at N'); (try dsimp only); (try k_fold)))
  k_with "binaryOp Pow int int" => (((with_reducible refine pow_int_small (by first | assumption | omega) (by omega) (by decide) ?_)))
  k_with "call type:type" => (((with_reducible show wpAny _ _ (call _ [Value.bytes _ _]) _ _ _); refine call_type_of (Tx := "bytes") rfl (by decide +kernel) ?_))
  k_with "callWith ref" => ((k_dflt (first | (refine' callWith_K (by k_asm) (by k_is) ?_; k_whole) | (refine' callWith_K0 (by k_in) (by k_is) ?_; k_whole))))
  k_with "compareOp Is ref ref" => ((refine wpAny_is_ref_self ?_))
  k_with "compareOp IsNot ref ref" => ((refine wpAny_isNot_ref_self ?_))
  trivial
theorem said_P11_1 : True := by
  k_with "call ref" => ((k_dflt (refine' turned_ctr (by k_asm) (by k_asm) (by k_asm) (by k_asm) (by k_asm) (by first | exact rfl | assumption) (by ktr_room) (by ktr_units) (by assumption) (by assumption) (by omega) (by omega) ?_; k_whole); intro _ _ _ _ _; (try dsimp only); (try k_fold)))
  k_with "CompSrc" => ((refine holdP ?_))
  k_with "CompSrcT" => ((refine holdP ?_))
  k_with "binaryOp FloorDiv int int" => (((with_reducible refine floordiv_int (pow2_ne _) ?_ (Or.inl (noPylong_pow (by omega))))))
  k_with "call ref" => ((k_dflt (refine' written_ctr (by k_asm) (by k_asm) (by k_asm) (by k_asm) (by k_asm) (by first | exact rfl | assumption) (by ktr_room) (by ktr_units) (by assumption) (by assumption) ?_; k_whole); intro _ _ _ _ _ _ _ l1; (replace l1 := allNe_of l1; simp only [AllNe, and_true] at l1; (repeat (obtain ⟨_, l1⟩ := l1))); (try dsimp only); (try k_fold)))
  k_with "compareOp NotEq ref ref" => ((k_dflt (refine' ne_pair (by k_asm) (by k_mem) (by k_mem) (by rfl) (by rfl) (by rfl) (by rfl) (strOk_w8 _) (strOk_w12 _) (by ke_room) ?_; k_whole)))
  k_with "call ref" => ((k_dflt (refine' trans_ctr (by k_asm) (by k_asm) (by k_asm) (by k_asm) (by k_asm) (by first | exact rfl | assumption) (by ktr_room) (by ktr_units)  ?_; k_whole); intro _ _ _ _ _; (try dsimp only); (try k_fold)))
  k_with "compareOp NotEq ref ref" => ((k_dflt (refine holdW ?_)))
  k_with "callMethod str" => ((k_dflt (refine holdW ?_)))
  k_with "call ref" => (((with_reducible show wpAny _ _ (call (Value.ref 168) _) _ _ _); k_dflt (refine holdW ?_)))
  k_with "binaryOp Add str str" => (((refine SBL.add (hsz := (by ((with_reducible apply Nat.le_trans); (with_reducible apply Nat.add_le_add); (repeat (first | (with_reducible exact len_w8 _) | (with_reducible exact len_w12 _) | (with_reducible exact len_lit (by decide +kernel)) | (with_reducible apply len_app))); (exact Nat.le_of_ble_eq_true rfl)))) ?_); intro _ _ _))
  k_with "call builtin:str.startswith" => ((with_reducible refine starts_told ?_))
  k_with "call builtin:str.endswith" => ((with_reducible refine ends_told ?_))
  k_with "call builtin:str.count" => (first | (with_reducible refine count_sg fun _ _ => ?_) | (with_reducible refine count_any ?_))
  k_with "call builtin:str.replace" => ((refine holdW ?_))
  k_with "compareOp NotEq int int" => ((refine holdW ?_))
  k_with "subscriptTail Name Slice str ref" => (((with_reducible show wpAny _ _ (subscriptTail _ (PySem.Expr.Slice (some _) (some _) none _) _ _) _ _ _); refine holdW ?_))
  k_with "eval ListComp" => (first | ((with_reducible show wpAny _ _ (eval (PySem.Expr.ListComp _ [⟨_, _, [_], _⟩] _ _) _) _ _ _); (refine' LCt.ListComp_T (F₀ := (by k_asm)) (by with_unfolding_all rfl) (by decide) (by rfl) (by decide) (by rfl) ?_)) | ((with_reducible show wpAny _ _ (eval (PySem.Expr.ListComp _ [⟨_, _, [], _⟩] _ _) _) _ _ _); (refine' LCg.ListComp_U (F₀ := (by k_asm)) (by with_unfolding_all rfl) (by decide) (by rfl) (by decide) (by rfl) ?_)))
  trivial
local macro_rules | `(tactic| k_ne) => `(tactic| (refine neN ?_; (try dsimp only); first | with_reducible assumption | ((with_reducible refine Ne.symm ?_); with_reducible assumption) | (simp only [ne_eq, Nat.add_eq_right, Nat.add_left_cancel_iff, Nat.add_right_cancel_iff, Nat.succ_ne_self, not_false_eq_true, reduceCtorEq]; done) | omega))
theorem said_P11_2 : True := by
  k_with "exec Assign cons ListComp" => (((with_reducible show wpAny _ _ (exec (Stmt.Assign _ (PySem.Expr.ListComp (PySem.Expr.Subscript _ _ _) _ _ _) _) _) _ _ _); refine holdW ?_))
  k_with "subscriptTail Name Constant str int" => ((refine item_first fun _ _ => ?_))
  trivial
section
variable {w : World} {p : Program} {loose : List Str} {mean : ExcName → Option Value} {mg mb : Str → Option Value} {base : Heap} {L a : Addr} {cd : Value} {s : Shared} {E : Value → Shared → Prop}
theorem body_step (B : Below callerA base [] base) (X : (heap w.params).In base) (T : Top p loose mean mg mb base) (C : CodeHd base 64 60) (C2 : CodeHd base 141 137) (l0 : 60 < L ∧ 137 < L)
    {x least : Int} (x0 : 0 ≤ x) (x9 : x < 281474976710656) (ls0 : 1 ≤ least) (ls1 : least ≤ 48) (ls2 : turned x least = x) (ls3 : ∀ j, 1 ≤ j → j < least → turned x j ≠ x)
    {I ax : Addr} {o lo : Obj} {k : Int} {tk0 : Tok} {mr : Str → Option Value} {t12 : Tok} {o7 o6 o5 o4 o3 o2 o1 : Obj} {ps : Array Value} {cx : Addr} {ox : Obj} {v7 v6 : Option Value} {t5 t3 : Tok} {v2 : Option Value} {t1 : Tok} (k0 : 0 ≤ k) (k1 : k < 48)
    (lI : ∀ b ∈ [ax, L + 1 + 1 + 1 + 1 + 1 + 1 + 1, L + 1 + 1 + 1 + 1 + 1 + 1, L + 1 + 1 + 1 + 1 + 1, L + 1 + 1 + 1 + 1, L + 1 + 1 + 1, L + 1 + 1, L + 1, 60, 137], b < I) (hcx : ∀ b ∈ [I, ax, L + 1 + 1 + 1 + 1 + 1 + 1 + 1, L + 1 + 1 + 1 + 1 + 1 + 1, L + 1 + 1 + 1 + 1 + 1, L + 1 + 1 + 1 + 1, L + 1 + 1 + 1, L + 1 + 1, L + 1, 137], b ≠ cx)
    (hax : ∀ b ∈ [L + 1 + 1 + 1 + 1 + 1 + 1 + 1, L + 1 + 1 + 1 + 1 + 1 + 1, L + 1 + 1 + 1 + 1 + 1, L + 1 + 1 + 1 + 1, L + 1 + 1 + 1, L + 1 + 1, L + 1, 137, 60], b ≠ ax)
    (d7 : o7.data = Data.cell v7) (d6 : o6.data = Data.cell v6) (d5 : o5.data = Data.cell (some (.str (w8 x) t5))) (d3 : o3.data = Data.cell (some (.int least t3))) (d2 : o2.data = Data.cell v2) (d1 : o1.data = Data.cell (some (.int x t1))) (hT : TabOk ps cx ox)
    (F : Fr base L s.heap (fun y => if y = "twelve" then some (.str (w12 x) t12) else mr y)) (N : News base L s.heap [(I, o), (ax, lo), (L + 1 + 1 + 1 + 1 + 1 + 1 + 1, o7), (L + 1 + 1 + 1 + 1 + 1 + 1, o6), (L + 1 + 1 + 1 + 1 + 1, o5), (L + 1 + 1 + 1 + 1, o4), (L + 1 + 1 + 1, o3), (L + 1 + 1, o2), (L + 1, o1), (60, tabObj ps), (cx, ox), (137, tabObj #[])]) :
    wpAny (model PySem.Challenge.rw_in0265_01.row.prog w) (callerA.deeper (lawEnv L a cd)) (assign forTarget (lawEnv L a cd) (.int k tk0)) (fun _ s₂ => wpAny (model PySem.Challenge.rw_in0265_01.row.prog w) (callerA.deeper (lawEnv L a cd)) (execs forBody (lawEnv L a cd)) (BodyEnd base L s x least I o ax lo (L + 1 + 1 + 1 + 1 + 1 + 1 + 1) (L + 1 + 1 + 1 + 1 + 1 + 1) (L + 1 + 1 + 1 + 1 + 1) (L + 1 + 1 + 1 + 1) (L + 1 + 1 + 1) (L + 1 + 1) (L + 1)) E s₂) E s := by
  obtain ⟨hp, gs, dr, tk₀, os⟩ := s
  dsimp only at *
  simp only [List.mem_cons, List.not_mem_nil, or_false, forall_eq_or_imp, forall_eq] at lI hcx hax
  replace lI : @LT.lt Nat _ (ax) I ∧ @LT.lt Nat _ (L + 1 + 1 + 1 + 1 + 1 + 1 + 1) I ∧ @LT.lt Nat _ (L + 1 + 1 + 1 + 1 + 1 + 1) I ∧ @LT.lt Nat _ (L + 1 + 1 + 1 + 1 + 1) I ∧ @LT.lt Nat _ (L + 1 + 1 + 1 + 1) I ∧ @LT.lt Nat _ (L + 1 + 1 + 1) I ∧ @LT.lt Nat _ (L + 1 + 1) I ∧ @LT.lt Nat _ (L + 1) I ∧ @LT.lt Nat _ (60) I ∧ @LT.lt Nat _ (137) I := lI
  replace hcx : @Ne Nat (I) cx ∧ @Ne Nat (ax) cx ∧ @Ne Nat (L + 1 + 1 + 1 + 1 + 1 + 1 + 1) cx ∧ @Ne Nat (L + 1 + 1 + 1 + 1 + 1 + 1) cx ∧ @Ne Nat (L + 1 + 1 + 1 + 1 + 1) cx ∧ @Ne Nat (L + 1 + 1 + 1 + 1) cx ∧ @Ne Nat (L + 1 + 1 + 1) cx ∧ @Ne Nat (L + 1 + 1) cx ∧ @Ne Nat (L + 1) cx ∧ @Ne Nat (137) cx := hcx
  replace hax : @Ne Nat (L + 1 + 1 + 1 + 1 + 1 + 1 + 1) ax ∧ @Ne Nat (L + 1 + 1 + 1 + 1 + 1 + 1) ax ∧ @Ne Nat (L + 1 + 1 + 1 + 1 + 1) ax ∧ @Ne Nat (L + 1 + 1 + 1 + 1) ax ∧ @Ne Nat (L + 1 + 1 + 1) ax ∧ @Ne Nat (L + 1 + 1) ax ∧ @Ne Nat (L + 1) ax ∧ @Ne Nat (137) ax ∧ @Ne Nat (60) ax := hax
  replace l0 : @LT.lt Nat _ 60 L ∧ @LT.lt Nat _ 137 L := l0
  have H60 : @Ne Nat (I) 60 ∧ @Ne Nat (ax) 60 ∧ @Ne Nat (L + 1 + 1 + 1 + 1 + 1 + 1 + 1) 60 ∧ @Ne Nat (L + 1 + 1 + 1 + 1 + 1 + 1) 60 ∧ @Ne Nat (L + 1 + 1 + 1 + 1 + 1) 60 ∧ @Ne Nat (L + 1 + 1 + 1 + 1) 60 ∧ @Ne Nat (L + 1 + 1 + 1) 60 ∧ @Ne Nat (L + 1 + 1) 60 ∧ @Ne Nat (L + 1) 60 ∧ @Ne Nat (137) 60 ∧ True := by
    refine ⟨?_, ?_, ?_, ?_, ?_, ?_, ?_, ?_, ?_, ?_, trivial⟩ <;> omega
  have Hcx : @Ne Nat (I) cx ∧ @Ne Nat (ax) cx ∧ @Ne Nat (L + 1 + 1 + 1 + 1 + 1 + 1 + 1) cx ∧ @Ne Nat (L + 1 + 1 + 1 + 1 + 1 + 1) cx ∧ @Ne Nat (L + 1 + 1 + 1 + 1 + 1) cx ∧ @Ne Nat (L + 1 + 1 + 1 + 1) cx ∧ @Ne Nat (L + 1 + 1 + 1) cx ∧ @Ne Nat (L + 1 + 1) cx ∧ @Ne Nat (L + 1) cx ∧ @Ne Nat (137) cx ∧ True := ⟨hcx.1, hcx.2.1, hcx.2.2.1, hcx.2.2.2.1, hcx.2.2.2.2.1, hcx.2.2.2.2.2.1, hcx.2.2.2.2.2.2.1, hcx.2.2.2.2.2.2.2.1, hcx.2.2.2.2.2.2.2.2.1, hcx.2.2.2.2.2.2.2.2.2, trivial⟩
  have hh1 := H60
  have hh2 := Hcx
  have hh3 := hax
  (repeat (obtain ⟨_, hh1⟩ := hh1))
  (repeat (obtain ⟨_, hh2⟩ := hh2))
  (repeat (obtain ⟨_, hh3⟩ := hh3))
  have HaI : @Ne Nat ax I := Nat.ne_of_lt lI.1
  unfold lawEnv lawScope forTarget forBody lawBody PySem.Challenge.pw_in0265_01
  dsimp only [List.reverse, List.reverseAux]
  have y0 := (turned_lt x k).1
  have y1 := (turned_lt x k).2
  have z2 : (escW (turned x k)).length ≤ 100 := Nat.le_trans (len_escW _) (by decide)
  have z1 : (told (escW (turned x k))).length ≤ 200 := by rw [told_len]; omega
  have z3 : (w8 (turned x k)).length ≤ 100 := Nat.le_trans (len_w8 _) (by decide)
  have z4 : (w8 x).length ≤ 100 := Nat.le_trans (len_w8 _) (by decide)
  have z5 : (w12 x).length ≤ 100 := Nat.le_trans (len_w12 _) (by decide)
  have z6 : (w12 (turned x k)).length ≤ 100 := Nat.le_trans (len_w12 _) (by decide)
  k_steps
  show wpAny _ _ _ _ _ _
  refine ne_same (by rw [told_count]; push_cast; rfl) ?_
  lge_steps
  show wpAny _ _ _ _ _ _
  refine wpAny_with_toks (n := 1) (by first | exact Nat.succ_le_succ (Nat.zero_le _) | omega) ?_
  rename Fr base _ _ _ => Fa
  rename News base _ _ _ => Na
  refine slice_strN_ss (hsz := ?hsz9) (s := ⟨_, _, _, _, _⟩) Fa Na ?_
  case hsz9 => exact Nat.le_trans z1 (Nat.le_of_ble_eq_true rfl)
  intro hb tb kb Fb Nb kpos
  have kpos : 1 ≤ kb := kpos
  rw [told_slice]
  clear Fa Na
  lge_steps
  show wpAny _ _ _ _ _ _
  refine replace_told kpos (Nat.lt_succ_self _) fun tc kc => ?_
  k_steps
  show LCt.CompSrcT _ _ _ _ _ _ _ _ _ _ _ _ _ _ _
  rename Fr base _ _ _ => Fa
  rename News base _ _ _ => Na
  rename IsRange _ _ _ _ _ _ _ _ => hr
  refine LCt.CompSrcT.range (n := 9) (by rfl) Fa Na hr (by decide) (by rfl) (by decide) fun g => ?_
  refine comp_indT (fun i => ((6 * (0 + (i : Int)) - k).fmod least == 0)) (fun i => 0 + (i : Int)) trivial ?_ ?_
  · intro i v I oI C oC D ys m₂ h tk E' hi hP hC hx F N off
    obtain ⟨tv, rfl⟩ := hP
    clear Fa Na hr
    k_steps
    refine ⟨rfl, fun _ => ?_, fun _ => CpEnd.intro (by k_asm) (news_sub (by k_asm) fun p hp => hp) trivial⟩
    k_steps
    exact CpEnd.intro (by k_asm) (news_sub (by k_asm) fun p hp => hp) ⟨_, rfl⟩
  · intro ys hI
    generalize hdl : ((List.range 9).filter fun (i : Nat) => ((6 * (0 + (i : Int)) - k).fmod least == 0)).map (fun (i : Nat) => 0 + (i : Int)) = ds at hI
    clear Fa Na hr
    unfold LCg.FinE
    intro Dd hd9 tkd Fd Nd offd
    simp only [LCg.Off1, and_true] at offd
    have hh4 := offd
    (repeat (obtain ⟨_, hh4⟩ := hh4))
    k_steps
    show wpAny _ _ _ _ _ _
    rename Fr base _ _ _ => Fe
    rename News base _ _ _ => Nz
    refine places_ctr (barred := PySem.Str.ofString "") B Fe X (news_front (l1 := [_, _, _, _, _, _, _, _, _, _, _]) Nz) T X T C (by rfl) (by exact Nat.le_of_ble_eq_true rfl) (by exact Nat.le_of_ble_eq_true rfl) hT ?r60 ?rcx (Nat.le_trans (len_app (len_w8 x) (len_w8 x)) (by decide)) (Nat.le_trans (len_w8 _) (by decide)) (Nat.le_of_ble_eq_true rfl) (by decide +kernel) (fun h => (b64_small (mem_88 h)).1 rfl)
      (rep_le (len_w8 _) (by decide) fun c hc => (b64_small (w8_mem hc)).2) (fun c hc => rep_one (b64_small (mem_88 hc)).2) ?_
    case r60 => exact allNe_mem ⟨Ne.symm offd.2.2.2.2.2.2.2.2.2.2.1, by first | assumption | (apply Ne.symm; assumption), H60⟩
    case rcx => exact allNe_mem ⟨Ne.symm offd.2.2.2.2.2.2.2.2.2.2.2.1, by first | assumption | (apply Ne.symm; assumption), Hcx⟩
    intro lp itp kp hp1 tkp psp cxp oxp hIp Fp Np hTp hnep hcxp
    rw [law_due x0 x9 ls0 ls1 ls2 ls3 k0 k1, hdl] at hIp
    k_steps
    show wpAny _ _ _ _ _ _
    rename News base _ _ _ => Nq
    refine ne_ints (Nq _ (.head _)).1 (Nq _ (.tail _ (.tail _ (.tail _ (.head _))))).1 rfl rfl rfl rfl hIp (by exact hI) (by exact Nat.le_of_ble_eq_true rfl) ?_
    k_steps
    show wpAny _ _ _ _ _ _
    refine' LCt.Assign_ListComp_T (F₀ := ?f1) ?f2 ?f3 ?f4 ?f5 ?f6 ?f7 ?f8 ?f9 ?f0 ?_
    case f1 => k_asm
    case f2 => rfl
    case f3 => with_unfolding_all rfl
    case f4 => with_unfolding_all rfl
    case f5 => decide
    case f6 => rfl
    case f7 => decide
    case f8 => rfl
    case f9 => rfl
    case f0 => rfl
    k_steps
    rename News base _ _ _ => Nv
    have ly := IntsAre.length hI
    have ly9 : ys.length ≤ 9 := by
      rw [ly, ← hdl, List.length_map]
      exact Nat.le_trans (List.length_filter_le _ _) (by rw [List.length_range]; decide)
    refine PySem.Calls.call_len_list (items := ys.toArray) ⟨_, (Nv _ (.tail _ (.tail _ (.tail _ (.head _))))).1, rfl, _, rfl⟩ (by rw [List.size_toArray]; omega) ?_
    rw [List.size_toArray]
    k_steps
    show LCt.CompSrcT _ _ _ _ _ _ _ _ _ _ _ _ _ _ _
    rename Fr base _ _ _ => Fu
    rename News base _ _ _ => Nu
    rename IsRange _ _ _ _ _ _ _ _ => hr
    refine LCt.CompSrcT.range (n := ys.length) (by rfl) Fu Nu hr (small_range (by omega)) (size_range _) (by rw [sizeLine_eq]; omega) fun g => ?_
    refine comp_indT (fun (i : Nat) => ((((Txt.slice (w8 x) none (some (ds.getD (0 + (i : Int)).toNat 0))).cps.toList.count (sg (turned x k)) : Nat) : Int) == 0 + (i : Int))) (fun (i : Nat) => ds.getD (0 + (i : Int)).toNat 0) trivial ?_ ?_
    · intro i v I2 oI2 C2' oC2 D2 ys2 m₂ h tk E' hi hP hC hx F N off
      obtain ⟨tv, rfl⟩ := hP
      clear Fu Nu hr
      k_steps
      refine ⟨rfl, fun _ => ?_, fun _ => CpEnd.intro (by k_asm) (news_sub (by k_asm) fun p hp => hp) trivial⟩
      k_steps
      exact CpEnd.intro (by k_asm) (news_sub (by k_asm) fun p hp => hp) ⟨_, rfl⟩
    · intro ys2 hI2
      clear Fu Nu hr
      unfold LCg.FinA
      intro Dd2 hd92 tkd2 Fd2 Nd2 offd2
      simp only [LCg.Off1, and_true] at offd2
      have hh5 := offd2
      (repeat (obtain ⟨_, hh5⟩ := hh5))
      k_steps
      show wpAny _ _ _ _ _ _
      rename Fr base _ _ _ => Fg
      rename News base _ _ _ => Ng
      refine places_ctr (barred := ⟨#[sg (turned x k)]⟩) B Fg X (news_front (l1 := [_, _]) Ng) T X T C (by rfl) (by exact Nat.le_of_ble_eq_true rfl) (by exact Nat.le_of_ble_eq_true rfl) hTp ?s60 ?scx (Nat.le_trans (len_app (len_w8 x) (len_w8 x)) (by decide)) (Nat.le_trans (len_w8 _) (by decide)) (Nat.le_of_ble_eq_true rfl) (Nat.le_refl 1) (fun h => (b64_small (mem_88 h)).1 rfl)
        (rep_le (len_w8 _) (by decide) fun c hc => (b64_small (w8_mem hc)).2) (fun c hc => rep_one (b64_small (mem_88 hc)).2) ?_
      case s60 => exact allNe_mem ⟨Ne.symm offd2.2.1, Ne.symm (hnep _ (.head _)), Ne.symm offd.2.2.2.2.2.2.2.2.2.2.1, by first | assumption | (apply Ne.symm; assumption), H60⟩
      case scx =>
        intro p hp
        rcases List.mem_cons.mp hp with rfl | hp
        · exact Ne.symm offd2.2.2.1
        rcases List.mem_cons.mp hp with rfl | hp
        · exact Ne.symm (hnep _ (.tail _ (.head _)))
        exact hcxp p hp
      intro lq itq kq hq1 tkq psq cxq oxq hIq Fq Nq2 hTq hneq hcxq
      rw [ly] at hI2
      rw [law_near x0 x9 ls0 ls1 ls2 ls3 k0 k1 hdl.symm] at hIq
      k_steps
      show wpAny _ _ _ _ _ _
      rename News base _ _ _ => Nh
      refine ne_ints (Nh _ (.head _)).1 (Nh _ (.tail _ (.tail _ (.tail _ (.head _))))).1 rfl rfl rfl rfl hIq (by exact hI2) (by exact Nat.le_of_ble_eq_true rfl) ?_
      k_steps
      show wpAny _ _ _ _ _ _
      rename Fr base _ _ _ => Fi
      rename News base _ _ _ => Ni
      refine places_ctr (barred := PySem.Str.ofString "") B Fi X (news_front (l1 := [_]) Ni) T X T C (by rfl) (by exact Nat.le_of_ble_eq_true rfl) (by exact Nat.le_of_ble_eq_true rfl) hTq ?w60 ?wcx (Nat.le_trans (len_app (len_w12 x) (len_w12 x)) (by decide)) (Nat.le_trans (len_w12 _) (by decide)) (Nat.le_of_ble_eq_true rfl) (by decide +kernel) (fun h => (hexs_small (mem_1212 h)).1 rfl)
        (rep_le (len_w12 _) (by decide) fun c hc => (hexs_small (w12_mem hc)).2) (fun c hc => rep_one (hexs_small (mem_1212 hc)).2) ?_
      case w60 => exact allNe_mem ⟨Ne.symm (hneq _ (.head _)), Ne.symm offd2.2.1, Ne.symm (hnep _ (.head _)), Ne.symm offd.2.2.2.2.2.2.2.2.2.2.1, by first | assumption | (apply Ne.symm; assumption), H60⟩
      case wcx =>
        intro p hp
        rcases List.mem_cons.mp hp with rfl | hp
        · exact Ne.symm (hneq _ (.tail _ (.head _)))
        exact hcxq p hp
      intro lr itr kr hr1 tkr psr cxr oxr hIr Fr3 Nr3 hTr hner hcxr
      rw [law_fig x0 x9 ls0 ls1 ls2 ls3 k0 k1] at hIr
      k_steps
      show LCt.CompSrcT _ _ _ _ _ _ _ _ _ _ _ _ _ _ _
      rename Fr base _ _ _ => Fw
      rename News base _ _ _ => Nw
      rename IsRange _ _ _ _ _ _ _ _ => hr
      refine LCt.CompSrcT.range (n := 13) (by rfl) Fw Nw hr (by decide) (by rfl) (by decide) fun g3 => ?_
      refine comp_indT (fun i => ((4 * (0 + (i : Int)) - k).fmod least == 0)) (fun i => 0 + (i : Int)) trivial ?_ ?_
      · intro i v I3 oI3 C3 oC3 D3 ys3 m₂ h tk E' hi hP hC hx F N off
        obtain ⟨tv, rfl⟩ := hP
        clear Fw Nw hr
        k_steps
        refine ⟨rfl, fun _ => ?_, fun _ => CpEnd.intro (by k_asm) (news_sub (by k_asm) fun p hp => hp) trivial⟩
        k_steps
        exact CpEnd.intro (by k_asm) (news_sub (by k_asm) fun p hp => hp) ⟨_, rfl⟩
      · intro ys3 hI3
        clear Fw Nw hr
        unfold LCg.FinE
        intro Dd3 hd93 tkd3 Fd3 Nd3 offd3
        k_steps
        show wpAny _ _ _ _ _ _
        rename News base _ _ _ => Nj
        refine ne_ints (Nj _ (.tail _ (.head _))).1 (Nj _ (.head _)).1 rfl rfl rfl rfl hIr (by exact hI3) (by exact Nat.le_of_ble_eq_true rfl) ?_
        k_steps
        rename _ = Data.cell (some (Value.ref Dd)) => e7
        rename _ = Data.cell (some (Value.str (w8 (turned x k)) _)) => e6
        rename _ = Data.cell (some (Value.int k _)) => e2
        have z := allNe_of hcxr
        obtain ⟨_, _, _, _, _, zI, zax, z7, z6, z5, z4, z3, z2, z1, z137, _⟩ := z
        refine ⟨rfl, _, _, _, _, rfl, Fd3, news_sub Nj ?_, ⟨_, rfl⟩, _, _, o5, o4, o3, _, o1, psr, cxr, oxr, _, _, _, _, _, _, rfl, e7, e6, d5, d3, e2, d1, hTr, ?_⟩
        · intro p hp
          simp only [List.mem_cons, List.mem_append, List.not_mem_nil, or_false] at hp ⊢
          rcases hp with h | h | h | h | h | h | h | h | h | h | h | h <;> simp only [h, true_or, or_true]
        · intro b hb
          simp only [List.mem_cons, List.not_mem_nil, or_false] at hb
          rcases hb with rfl | rfl | rfl | rfl | rfl | rfl | rfl | rfl | rfl | rfl
          · exact zI
          · exact zax
          · exact z7
          · exact z6
          · exact z5
          · exact z4
          · exact z3
          · exact z2
          · exact z1
          · exact z137

theorem body_step2 {env : Env} {target : PySem.Expr} {body : List Stmt} (he : env = lawEnv L a cd) (ht : target = forTarget) (hb : body = forBody) (B : Below callerA base [] base) (X : (heap w.params).In base) (T : Top p loose mean mg mb base) (C : CodeHd base 64 60) (C2 : CodeHd base 141 137) (l0 : 60 < L ∧ 137 < L)
    {x least : Int} (x0 : 0 ≤ x) (x9 : x < 281474976710656) (ls0 : 1 ≤ least) (ls1 : least ≤ 48) (ls2 : turned x least = x) (ls3 : ∀ j, 1 ≤ j → j < least → turned x j ≠ x)
    {I ax : Addr} {o lo : Obj} {k : Int} {tk0 : Tok} {mr : Str → Option Value} {t12 : Tok} {o7 o6 o5 o4 o3 o2 o1 : Obj} {ps : Array Value} {cx : Addr} {ox : Obj} {v7 v6 : Option Value} {t5 t3 : Tok} {v2 : Option Value} {t1 : Tok} (k0 : 0 ≤ k) (k1 : k < 48)
    (lI : ∀ b ∈ [ax, L + 1 + 1 + 1 + 1 + 1 + 1 + 1, L + 1 + 1 + 1 + 1 + 1 + 1, L + 1 + 1 + 1 + 1 + 1, L + 1 + 1 + 1 + 1, L + 1 + 1 + 1, L + 1 + 1, L + 1, 60, 137], b < I) (hcx : ∀ b ∈ [I, ax, L + 1 + 1 + 1 + 1 + 1 + 1 + 1, L + 1 + 1 + 1 + 1 + 1 + 1, L + 1 + 1 + 1 + 1 + 1, L + 1 + 1 + 1 + 1, L + 1 + 1 + 1, L + 1 + 1, L + 1, 137], b ≠ cx)
    (hax : ∀ b ∈ [L + 1 + 1 + 1 + 1 + 1 + 1 + 1, L + 1 + 1 + 1 + 1 + 1 + 1, L + 1 + 1 + 1 + 1 + 1, L + 1 + 1 + 1 + 1, L + 1 + 1 + 1, L + 1 + 1, L + 1, 137, 60], b ≠ ax)
    (d7 : o7.data = Data.cell v7) (d6 : o6.data = Data.cell v6) (d5 : o5.data = Data.cell (some (.str (w8 x) t5))) (d3 : o3.data = Data.cell (some (.int least t3))) (d2 : o2.data = Data.cell v2) (d1 : o1.data = Data.cell (some (.int x t1))) (hT : TabOk ps cx ox)
    (F : Fr base L s.heap (fun y => if y = "twelve" then some (.str (w12 x) t12) else mr y)) (N : News base L s.heap [(I, o), (ax, lo), (L + 1 + 1 + 1 + 1 + 1 + 1 + 1, o7), (L + 1 + 1 + 1 + 1 + 1 + 1, o6), (L + 1 + 1 + 1 + 1 + 1, o5), (L + 1 + 1 + 1 + 1, o4), (L + 1 + 1 + 1, o3), (L + 1 + 1, o2), (L + 1, o1), (60, tabObj ps), (cx, ox), (137, tabObj #[])]) :
    wpAny (model PySem.Challenge.rw_in0265_01.row.prog w) (callerA.deeper env) (assign target env (.int k tk0)) (fun _ s₂ => wpAny (model PySem.Challenge.rw_in0265_01.row.prog w) (callerA.deeper env) (execs body env) (BodyEnd base L s x least I o ax lo (L + 1 + 1 + 1 + 1 + 1 + 1 + 1) (L + 1 + 1 + 1 + 1 + 1 + 1) (L + 1 + 1 + 1 + 1 + 1) (L + 1 + 1 + 1 + 1) (L + 1 + 1 + 1) (L + 1 + 1) (L + 1)) E s₂) E s := by
  subst he ht hb
  exact body_step B X T C C2 l0 x0 x9 ls0 ls1 ls2 ls3 k0 k1 lI hcx hax d7 d6 d5 d3 d2 d1 hT F N
end
end Mine
end
section
namespace Mine
theorem fresh_W0 : True := by
  w_top off
  trivial
end Mine
open PySem PySem.W PyProof.Rows
set_option Elab.async false
set_option maxRecDepth 100000
set_option maxHeartbeats 4000000
namespace Mine
theorem said_W0_0 : True := by
  k_with_none
  k_with "k_enter" => (first | (refine' code_def (by k_asm) (by k_asm) (by k_asm) (by k_asm) (by k_asm) rfl rfl (by first | exact rfl | assumption) (by k_is) (by k_is) (by ktr_room) (by first | exact BindsTo.of_eq rfl | (refine' kp_binds (by k_in) (by exact fun _ => rfl))) (by exact locs rfl) ?_ (by exact rfl) (by exact rfl) (by exact rfl) (by decide); k_whole; intro _ _ _ _ _ _ _ _ _; (try dsimp only); (try k_fold)) | (refine' code_defC (by k_asm) (by k_asm) (by k_asm) (by k_asm) (by k_asm) rfl rfl (by first | exact rfl | assumption) (by k_is) (by k_is) (by ktr_room) (by first | exact BindsTo.of_eq rfl | (refine' kp_binds (by k_in) (by exact fun _ => rfl))) (by exact rfl) (by decide +kernel) ?_ (by exact rfl) (by exact rfl) (by exact rfl); k_whole; intro _ _ _ _ _ N' Y' _ _ _ l1; (try k_lt l1); k_cells Y'; (try simp only [List.cons_append, List.nil_append] at N'); (try dsimp only); (try k_fold)))
  k_with "cell_enter" => (first | (refine' enterS (by k_asm) (by k_asm) (by k_asm) (by k_asm) rfl rfl (by first | exact rfl | assumption) (by k_is) (by k_is) (by ktr_room) (by first | exact BindsTo.of_eq rfl | (refine' kp_binds (by k_in) (by exact fun _ => rfl))) (by exact locs rfl) ?_ (by exact rfl) (by exact rfl) (by exact rfl) (by decide); k_whole; intro _ _ _ _ _ _ _; (try dsimp only); (try k_fold)) | (refine' enterCS (by k_asm) (by k_asm) (by k_asm) (by k_asm) rfl rfl (by first | exact rfl | assumption) (by k_is) (by k_is) (by ktr_room) (by first | exact BindsTo.of_eq rfl | (refine' kp_binds (by k_in) (by exact fun _ => rfl))) (by exact rfl) (by decide +kernel) ?_ (by exact rfl) (by exact rfl) (by exact rfl); k_whole; intro _ _ _ _ _ N' Y' _ _ _; k_cells Y'; (try simp only [List.cons_append, List.nil_append] at N'); (try dsimp only); (try k_fold)))
  k_with "binaryOp Pow int int" => (((with_reducible refine pow_int_small (by first | assumption | omega) (by omega) (by decide) ?_)))
  k_with "call type:type" => (((with_reducible show wpAny _ _ (call _ [Value.bytes _ _]) _ _ _); refine call_type_of (Tx := "bytes") rfl (by decide +kernel) ?_))
  k_with "callWith ref" => ((k_dflt (first | (refine' callWith_K (by k_asm) (by k_is) ?_; k_whole) | (refine' callWith_K0 (by k_in) (by k_is) ?_; k_whole))))
  k_with "compareOp Is ref ref" => ((refine wpAny_is_ref_self ?_))
  k_with "compareOp IsNot ref ref" => ((refine wpAny_isNot_ref_self ?_))
  trivial
theorem menu_ok : ∀ (i : Nat), i < 10 → ∃ n : Nat, 1 ≤ n ∧ n ≤ 48 ∧ ([16, 12, 24, 48, 3, 8, 2, 6, 4, 1] : List Int).getD i 0 * n = 48
  | 0, _ => ⟨3, by decide, by decide, by decide⟩
  | 1, _ => ⟨4, by decide, by decide, by decide⟩
  | 2, _ => ⟨2, by decide, by decide, by decide⟩
  | 3, _ => ⟨1, by decide, by decide, by decide⟩
  | 4, _ => ⟨16, by decide, by decide, by decide⟩
  | 5, _ => ⟨6, by decide, by decide, by decide⟩
  | 6, _ => ⟨24, by decide, by decide, by decide⟩
  | 7, _ => ⟨8, by decide, by decide, by decide⟩
  | 8, _ => ⟨12, by decide, by decide, by decide⟩
  | 9, _ => ⟨48, by decide, by decide, by decide⟩
  | n + 10, h => absurd h (Nat.not_lt.mpr (Nat.le_add_left 10 n))
theorem menu_two (i : Nat) : 0 ≤ ([16, 12, 24, 48, 3, 8, 2, 6, 4, 1] : List Int).getD i 0 ∧ ([16, 12, 24, 48, 3, 8, 2, 6, 4, 1] : List Int).getD i 0 ≤ 1000000 := by
  by_cases h : i < 10
  · obtain ⟨n, h1, h2, h3⟩ := menu_ok i h
    generalize ([16, 12, 24, 48, 3, 8, 2, 6, 4, 1] : List Int).getD i 0 = z at h3 ⊢
    have h4 : (0 : Int) < n := by omega
    have h5 : 0 ≤ z := by
      refine Int.not_lt.mp fun hz => ?_
      have := Int.mul_neg_of_neg_of_pos hz h4
      omega
    refine ⟨h5, ?_⟩
    have : z * 1 ≤ z * n := Int.mul_le_mul_of_nonneg_left (by omega) h5
    omega
  · rw [List.getD_eq_getElem?_getD, List.getElem?_eq_none (by simp; omega)]
    exact ⟨by decide, by decide⟩
theorem said_W0_1 : True := by
  k_with "binaryOp Pow int int" => (((with_reducible refine pow_int_small (by first | assumption | omega | exact (menu_two _).1) (by first | omega | exact (menu_two _).2) (by decide) ?_)))
  k_with "exec For Name Call cons nil" => ((k_dflt (refine holdW ?_)))
  k_with "exec For" => ((k_dflt (refine holdW ?_)))
  k_with "pyIter ref" => ((k_dflt (refine holdW ?_)))
  trivial
theorem idx_lt (x : Int) : (x.fmod 10).toNat < 10 := by
  have := Int.fmod_lt_of_pos x (b := 10) (by decide)
  omega
theorem said_W0_2 : True := by
  k_with "exec While Compare" => ((k_dflt (refine whl_hold ?_)))
  k_with "call ref" => ((k_dflt (refine' turned_ctr (by k_asm) (by k_asm) (by k_asm) (by k_asm) (by k_asm) (by first | exact rfl | assumption) (by ktr_room) (by ktr_units) (by assumption) (by assumption) (by omega) (by omega) ?_; k_whole); intro _ _ _ _ _; (try dsimp only); (try k_fold)))
  k_with "WhlIf" => ((first | (refine WhlIf.yes (bne_iff_ne.mpr (by assumption)) ?_) | (refine WhlIf.no (bne_eq_false_iff_eq.mpr (by assumption)) ?_)))
  k_with "WhlPost" => (first | (refine holdPost ?_) | (dsimp only [WhlPost]; k_unfold; (try dsimp only)))
  k_with "eval ListComp" => ((k_dflt (first | (refine LCg.ListComp_U (F₀ := by k_asm) (by with_unfolding_all rfl) (by decide) (by rfl) (by decide) (by rfl) ?_) | (refine LCt.ListComp_T (F₀ := by k_asm) (by with_unfolding_all rfl) (by decide) (by rfl) (by decide) (by rfl) ?_))))
  k_with "CompSrc" => ((refine holdP ?_))
  k_with "CompSrcT" => ((refine holdP ?_))
  k_with "binaryOp FloorDiv int int" => (((with_reducible refine floordiv_int (pow2_ne _) ?_ (Or.inl (noPylong_pow (by omega))))))
  k_with "call ref" => ((k_dflt (refine' written_ctr (by k_asm) (by k_asm) (by k_asm) (by k_asm) (by k_asm) (by first | exact rfl | assumption) (by ktr_room) (by ktr_units) (by assumption) (by assumption) ?_; k_whole); intro _ _ _ _ _ _ _ l1; (replace l1 := allNe_of l1; simp only [AllNe, and_true] at l1); (try dsimp only); (try k_fold)))
  k_with "compareOp NotEq ref ref" => ((k_dflt (refine' ne_pair (by k_asm) (by k_mem) (by k_mem) (by rfl) (by rfl) (by rfl) (by rfl) (strOk_w8 _) (strOk_w12 _) (by ke_room) ?_; k_whole)))
  trivial
theorem law_holds : PySem.Challenge.rw_in0265_01.Holds := by
  refine holds_law said_law fun said => ?_
  refine holds_open (q := view) (loose := loose) (Xt := fun s => xlAt view [] s && recOk (RowW.records (OpenRow.toRowW (OpenLaw.row PySem.Challenge.rw_in0265_01))) s) (XP := XL view []) (Yf := Hook.obs hook) (Ya := Hook.val hook) (YP := Hook.says hook) (N := 4466) left_ok (Hook.of hook) (Hook.keeps hook) (fun s e => xl_of s (Bool.and_eq_true_iff.mp e).1) XL.keeps (by rfl) (by rfl) (by rfl) (fun s e => recFacts_of (Bool.and_eq_true_iff.mp e).2) (by rfl) (by first | assumption | decide +kernel) (by decide +kernel) ⟨rfl, rfl, rfl, rfl, rfl, by decide +kernel⟩ ?hw ?hc
  case hw => w_witness2
  clear said
  intro w s₀ s₁ mg mb G Y fa o pm cd doc dV kV ho hd hcd hD hmg hg args vals as hpre hlay hrd hwl hlo
  have KX := km_in_of Y
  km_tabs Y
  have X := (Ground.X G).1
  have V := (Ground.X G).2
  refine Ground.open G ?_
  intro T B D TE TW
  try (refine guard_noD D (by decide +kernel) ?_; clear D)
  km_lay T hmg ho hd cd
  clear hmg
  wrow_args hpre hlay hrd hwl hlo
  all_goals (first | refine callC_kw (enter_call ?_) | refine enter_call ?_)
  all_goals w_top on
  all_goals kn_posts
  all_goals w_call any ho hd hcd hD T F
  all_goals clear hd
  all_goals kn_ghosts F T
  all_goals k_drop
  all_goals try k_fold
  lge_steps
  rename Fr _ _ _ _ => F1
  rename News _ _ _ _ => N1
  rename List Int => script
  show wpAny _ _ _ _ _ _
  generalize hhd : (List.take 63 script).sum = head at F1 ⊢
  obtain ⟨n, n1, n2, n3⟩ := menu_ok _ (idx_lt head)
  generalize hsz : ([16, 12, 24, 48, 3, 8, 2, 6, 4, 1] : List Int).getD (head.fmod 10).toNat 0 = sz at n3 F1 ⊢
  have sz0 : 0 < sz := by
    refine Int.not_le.mp fun hz => ?_
    have := Int.mul_nonpos_of_nonpos_of_nonneg hz (Int.natCast_nonneg n)
    omega
  have sz1 : sz ≤ 48 := by
    have : sz * 1 ≤ sz * n := Int.mul_le_mul_of_nonneg_left (by omega) (Int.le_of_lt sz0)
    omega
  generalize hpc : Int.fmod (head.fdiv 10 + 11) (2 ^ sz.toNat) = piece at F1
  refine For_turns F1 ?_
  lge_steps
  show wpAny _ _ _ _ _ _
  rename IsRange _ _ _ _ _ _ _ _ => hr
  rename Fr _ _ _ _ => F2
  rename News _ _ _ _ => N2
  rename Obj.data _ = Data.cell (some (.int 0 _)) => dring
  have pc0 : 0 ≤ piece ∧ piece < 2 ^ sz.toNat := by
    rw [← hpc]
    have hb : (0 : Int) < 2 ^ sz.toNat := Int.pow_pos (by decide)
    exact ⟨Int.fmod_nonneg_of_pos _ hb, Int.fmod_lt_of_pos _ hb⟩
  have n48 := nat48 n3 sz0
  refine ring_loop (sz := sz) (by rfl) (by rfl) F2 (news_drop2 N2) hr (fdiv_of_mul n3 sz0) (by omega) (by assumption) dring ?_ ?_
  · intro I j x tx t h tk ok og vk o hj x0 x1 d1 d2 ho F N hI
    clear F2 N2 hr
    have lI := allLt_of hI
    simp only [AllLt, and_true] at lI
    clear hI
    dsimp only at F N ⊢
    have x2 : x < 281474976710656 := Int.lt_of_lt_of_le x1 (pow_le48 (by rw [← n48]; exact Nat.mul_le_mul_left _ (Nat.le_of_lt hj)))
    lge_steps
    rename Fr _ _ _ _ => F9
    rename News _ _ _ _ => N9
    rename Obj.data _ = Data.cell (some (.int (_ * _ + _) _)) => d9
    rename Obj.data _ = Data.cell (some (.int (_ + _ * _) _)) => d8
    have ps := pow_step x0 x1 pc0.1 pc0.2
    exact ⟨rfl, _, _, _, _, _, _, _, rfl, F9, N9, d8, d9, ps.1, ps.2⟩
  · intro x tx ok og vk x0 x1 d1 d2 h tk F N
    rw [n48] at x1
    clear dring hr F2 N2
    lge_steps
    show WhlRest _ _ _ _ _ _ _ _ _ _ _
    rename Fr _ _ _ _ => F3
    rename News _ _ _ _ => N3
    rename Obj.data _ = Data.cell (some (.int 1 _)) => dl
    have x9 : x < 281474976710656 := Int.lt_of_lt_of_le x1 (pow_le48 (Nat.le_refl _))
    refine least_loop x0 x9 F3 N3 dl ?_ ?_
    · intro l t ol h tk l1 l2 hq hd F N next
      clear F3 N3
      lge_steps
      show WhlRest _ _ _ _ _ _ _ _ _ _ _
      rename Fr _ _ _ _ => F9
      rename News _ _ _ _ => N9
      rename Obj.data _ = Data.cell (some (.int (_ + _) _)) => d9
      exact next _ _ _ _ F9 N9 d9
    · intro l t ol h tk l1 l2 hq hj hd F N
      clear F3 N3
      have hpk : Hold (1 ≤ l ∧ l ≤ 48 ∧ turned x l = x ∧ ∀ j, 1 ≤ j → j < l → turned x j ≠ x) := ⟨l1, l2, hq, hj⟩
      clear hj n1 n2 n3 n48 sz0 sz1 pc0 hpc hsz hhd x1
      lge_steps
      clear hq l1 l2
      show LCg.CompSrc _ _ _ _ _ _ _ _ _ _ _ _ _ _
      rename Fr _ _ _ _ => F4
      rename News _ _ _ _ => N4
      rename IsRange _ _ _ _ _ _ _ _ => hr
      refine LCg.CompSrc.range (n := 8) (by rfl) F4 N4 hr (by decide) (by rfl) (by decide) fun g => ?_
      refine comp_ind (fun i v => ∃ t, v = .str (eightS x i) t) trivial ?_ ?_
      · intro i v I oI C oC D ys m₂ h tk E' hi hP hC hx F N off
        obtain ⟨tv, rfl⟩ := hP
        clear F4 N4 hr
        lge_steps
        exact CpEnd.intro (by k_asm) (news_sub (by k_asm) fun p hp => hp) ⟨_, rfl⟩
      · intro ys hl hR
        lge_steps
        rename Fr _ _ _ _ => F5
        rename News _ _ _ _ => N5
        refine join_K (its := ys.toArray) (ys := (List.range 8).map (eightS x)) N5 (.head _) (by exact strs_of hl hR) (Nat.le_of_ble_eq_true rfl) fun t' k' => ?_
        rw [cat_eight x0]
        lge_steps
        show LCg.CompSrc _ _ _ _ _ _ _ _ _ _ _ _ _ _
        rename Fr _ _ _ _ => F6
        rename News _ _ _ _ => N6
        rename IsRange _ _ _ _ _ _ _ _ => hr2
        clear hR hl
        refine LCg.CompSrc.range (n := 12) (by rfl) F6 N6 hr2 (by decide) (by rfl) (by decide) fun g => ?_
        refine comp_ind (fun i v => ∃ t, v = .str (twelveS x i) t) trivial ?_ ?_
        · intro i v I oI C oC D ys m₂ h tk E' hi hP hC hx F N off
          obtain ⟨tv, rfl⟩ := hP
          clear F6 N6 hr2
          lge_steps
          exact CpEnd.intro (by k_asm) (news_sub (by k_asm) fun p hp => hp) ⟨_, rfl⟩
        · intro ys hl hR
          lge_steps
          rename Fr _ _ _ _ => F7
          rename News _ _ _ _ => N7
          refine join_K (its := ys.toArray) (ys := (List.range 12).map (twelveS x)) N7 (.head _) (by exact strs_of hl hR) (Nat.le_of_ble_eq_true rfl) fun t' k' => ?_
          rw [cat_twelve x0]
          clear hR hl
          lge_steps
          rename Fr _ _ _ _ => F8
          show wpAny _ _ _ _ _ _
          refine For_turns F8 ?_
          lge_steps
          show LCg.CompSrc _ _ _ _ _ _ _ _ _ _ _ _ _ _
          rename Fr _ _ _ _ => F9
          rename News _ _ _ _ => N9
          rename IntsAre _ (List.take 5 script) => hI5
          have hz5 := IntsAre.length hI5
          rw [List.length_take] at hz5
          refine LCg.CompSrc.ledger (by rfl) F9 N9 (.head _) (by rw [List.size_toArray, hz5, sizeLine_eq]; omega) fun g => ?_
          refine comp_ind (fun i v => ∃ t, v = .int (((List.take 5 script).getD i 0).fmod 48) t) (.inr ⟨_, .head _, rfl, _, rfl⟩) ?_ ?_
          · intro i v I oI C oC D ys m₂ h tk E' hi hP hC hx F N off
            obtain ⟨tv, rfl⟩ := IntsAre.int_at hI5 i v (by rw [List.getElem?_toArray] at hP; exact hP)
            clear F9 N9
            lge_steps
            exact CpEnd.intro (by k_asm) (news_sub (by k_asm) fun p hp => hp) ⟨_, rfl⟩
          · intro ys hl hR
            unfold LCg.FinE
            intro D5 h5 tk5 F5 N5 o5
            try dsimp only
            lge_steps
            show wpAny _ _ _ _ _ _
            rename Fr _ _ _ _ => F10
            rename News _ _ _ _ => N10
            dsimp only at N10 F10 ⊢
            have lt5 := lt_of_led N5
            have l60 := Heap.lt_size (hT8 60 (.head _))
            have l137 := Heap.lt_size (hT8 137 (.tail _ (.head _)))
            refine' keys_loop (x := x) (least := l) ?ka1 ?ka2 F10 (news_drop7 N10) ?ka3 ?ka4 ((IntsAre.cons 0 _ (.cons 1 _ (.cons 2 _ (.cons 4 _ .nil)))).append (ints_of hl hR)) ?ka5 ?kb7 ?kb6 ?kb5 ?kb3 ?kb2 ?kb1 ?kb12 ?kbax ?kb60 ?kstep ?klast
            case ka1 => rfl
            case ka2 => rfl
            case ka3 => rfl
            case ka4 => rfl
            case kb7 => assumption
            case kb6 => assumption
            case kb5 => assumption
            case kb3 => assumption
            case kb2 => assumption
            case kb1 => assumption
            case kb12 => exact if_pos rfl
            case ka5 =>
              intro k hk
              simp only [List.mem_append, List.mem_cons, List.not_mem_nil, or_false, List.mem_map] at hk
              rcases hk with (rfl | rfl | rfl | rfl) | ⟨i, _, rfl⟩
              · decide
              · decide
              · decide
              · decide
              · exact ⟨Int.fmod_nonneg_of_pos _ (by decide), Int.fmod_lt_of_pos _ (by decide)⟩
            case kbax =>
              intro a ha
              refine Nat.ne_of_lt (lt5 a ?_)
              simp only [List.map_cons, List.map_nil, List.mem_cons, List.not_mem_nil, or_false] at ha ⊢
              rcases ha with h | h | h | h | h | h | h | h | h <;> simp [h]
            case kb60 =>
              intro a ha
              simp only [List.mem_cons, List.not_mem_nil, or_false] at ha
              rcases ha with rfl | rfl | rfl | rfl | rfl | rfl | rfl <;> exact Nat.ne_of_gt (by omega)
            case kstep =>
              obtain ⟨l1, l2, hq, hj⟩ := hpk
              clear F10 N10 N5 F5 F9 N9
              intro I o k tk0 h tk mr t12 q7 q6 q5 q4 q3 q2 q1 ps cx ox v7 v6 u5 u3 v2 u1 k0 k1 ho lI hcx hax h60 e7 e6 e5 e3 e2 e1 hT F N
              refine' body_step2 ?he ?ht ?hb ?hB ?hX ?hTT ?hC ?hC2 ⟨l60, l137⟩ x0 x9 l1 l2 hq hj k0 k1 lI hcx hax e7 e6 e5 e3 e2 e1 hT F N
              case he => rfl
              case ht => rfl
              case hb => rfl
              case hB => k_asm
              case hX => k_asm
              case hTT => k_asm
              case hC => assumption
              case hC2 => assumption
            case klast =>
              intro m9 h9 tk9 nw I9 hled F11 N11
              obtain ⟨p7, p6, p5, p4, p3, p2, p1, qs, cy, oy, _, _, _, _, _, _, rfl, e7, e6, e5, e3, e2, e1, hT9', hcy⟩ := hled
              clear F10 N10 N5 F5 F9 N9
              lge_steps
              try dsimp only
              kc_close

end Mine
end
end
open PySem PySem.W PyProof.Rows
theorem PySem.Challenge.cw_in0265_01_holds : PySem.Challenge.rw_in0265_01.Holds := by
  exact Mine.law_holds
