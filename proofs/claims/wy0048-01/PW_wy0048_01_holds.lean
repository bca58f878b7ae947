import PyProof.Rows.All
import Wide.All
import OpenK.AllK
import Wide.FinOn
import KE.BitLaws
import Lean
import PySem.Challenge.RW_wy0048_01
set_option Elab.async false
set_option linter.all false
section
namespace Mine
/- cheap proofs ahead of omega's: small terms -/
theorem om_r0 {oma omn omr : Nat} (omh : oma + omn < omr) : oma < omr := Nat.lt_of_le_of_lt (Nat.le_add_right _ _) omh
theorem om_r1 {oma omn omr omk : Nat} (omh : oma + omn < omr) (omd : omk ≤ omn) : oma + omk < omr := Nat.lt_of_le_of_lt (Nat.add_le_add_left omd oma) omh
theorem om_r2 {oma omn omr omk oml : Nat} (omh : oma + omn < omr) (omd : omk + oml ≤ omn) : oma + omk + oml < omr := Nat.add_assoc oma omk oml ▸ Nat.lt_of_le_of_lt (Nat.add_le_add_left omd oma) omh
theorem om_r3 {oma omn omr omk oml omm : Nat} (omh : oma + omn < omr) (omd : omk + oml + omm ≤ omn) : oma + omk + oml + omm < omr := by
  have h := Nat.add_le_add_left omd oma
  rw [← Nat.add_assoc, ← Nat.add_assoc] at h
  exact Nat.lt_of_le_of_lt h omh
theorem om_c1 {omp omb : Prop} (omh : omp ∧ omb) : omp := omh.1
theorem om_c2 {omp omb omx : Prop} (omh : omx ∧ omp ∧ omb) : omp := omh.2.1
theorem om_c3 {omp omb omx omy : Prop} (omh : omx ∧ omy ∧ omp ∧ omb) : omp := omh.2.2.1
theorem om_c4 {omp omb omx omy omz : Prop} (omh : omx ∧ omy ∧ omz ∧ omp ∧ omb) : omp := omh.2.2.2.1
theorem om_c5 {omp omb omx omy omz omu : Prop} (omh : omx ∧ omy ∧ omz ∧ omu ∧ omp ∧ omb) : omp := omh.2.2.2.2.1
theorem om_c6 {omp omb omx omy omz omu omv : Prop} (omh : omx ∧ omy ∧ omz ∧ omu ∧ omv ∧ omp ∧ omb) : omp := omh.2.2.2.2.2.1
theorem om_d1 {omp omx : Prop} (omh : omx ∧ omp) : omp := omh.2
theorem om_d2 {omp omx omy : Prop} (omh : omx ∧ omy ∧ omp) : omp := omh.2.2
theorem om_d3 {omp omx omy omz : Prop} (omh : omx ∧ omy ∧ omz ∧ omp) : omp := omh.2.2.2
theorem om_d4 {omp omx omy omz omu : Prop} (omh : omx ∧ omy ∧ omz ∧ omu ∧ omp) : omp := omh.2.2.2.2
theorem om_l1 {omx omm omc : Nat} (omh : omx < omm) (omd : omm ≤ omc) : omx < omc := Nat.lt_of_lt_of_le omh omd
theorem om_l2 {omx omm omc : Nat} (omh : omx ≤ omm) (omd : omm < omc) : omx < omc := Nat.lt_of_le_of_lt omh omd
theorem om_l3 {omx omm omc : Nat} (omh : omx ≤ omm) (omd : omm ≤ omc) : omx ≤ omc := Nat.le_trans omh omd
theorem om_l4 {omx omm omc : Nat} (omh : omx < omm) (omd : omm ≤ omc + 1) : omx ≤ omc := Nat.le_of_lt_succ (Nat.lt_of_lt_of_le omh omd)
theorem om_i1 {omx omm : Nat} {omc : Int} (omh : omx < omm) (omd : (omm : Int) ≤ omc) : (omx : Int) < omc := Int.lt_of_lt_of_le (Int.ofNat_lt.mpr omh) omd
theorem om_i2 {omx omm : Nat} {omc : Int} (omh : omx ≤ omm) (omd : (omm : Int) < omc) : (omx : Int) < omc := Int.lt_of_le_of_lt (Int.ofNat_le.mpr omh) omd
theorem om_i3 {omx omm : Nat} {omc : Int} (omh : omx ≤ omm) (omd : (omm : Int) ≤ omc) : (omx : Int) ≤ omc := Int.le_trans (Int.ofNat_le.mpr omh) omd
theorem om_i4 {omx omm : Nat} {omc : Int} (omh : omx < omm) (omd : (omm : Int) ≤ omc + 1) : (omx : Int) ≤ omc := Int.le_of_lt_add_one (Int.lt_of_lt_of_le (Int.ofNat_lt.mpr omh) omd)
theorem om_n {omx : Nat} (_ : 0 = 0) : (0 : Int) ≤ (omx : Int) := Int.natCast_nonneg omx
theorem om_lt {oma omb : Nat} (omh : oma < omb) : oma ≠ omb := Nat.ne_of_lt omh
theorem om_gt {oma omb : Nat} (omh : omb < oma) : oma ≠ omb := Nat.ne_of_gt omh
theorem om_n' {omx : Nat} {omc : Int} (omd : omc ≤ 0) : omc ≤ (omx : Int) := Int.le_trans omd (Int.natCast_nonneg omx)
open Lean in
/- the order of trials ahead of omega -/
def omSeq (t : TSyntax `tactic) : MacroM (TSyntax `Lean.Parser.Tactic.tacticSeq) := `(Lean.Parser.Tactic.tacticSeq| $t:tactic)
open Lean in
def omAll (l : List Name) (r : TSyntax `tactic) : MacroM (List (TSyntax `Lean.Parser.Tactic.tacticSeq)) := l.mapM fun n => do omSeq (← `(tactic| (with_reducible apply $(mkIdent (`Mine ++ n)); $r:tactic)))
open Lean in
def omFirst (l : List (TSyntax `Lean.Parser.Tactic.tacticSeq)) : MacroM (TSyntax `tactic) := do
  let a := l.toArray
  `(tactic| first $[| $a:tacticSeq]*)
open Lean in
def omTac (b : Bool) : MacroM (TSyntax `tactic) := do
  let as ← `(tactic| with_reducible assumption)
  let de ← `(tactic| ((with_reducible assumption); decide))
  let dc ← `(tactic| decide)
  let c ← omFirst ((← omSeq as) :: (← omAll [`om_c1, `om_c2, `om_c3, `om_c4, `om_c5, `om_c6, `om_d1, `om_d2, `om_d3, `om_d4] as))
  let l := (← omSeq dc) :: (← omAll [`om_n] dc) ++ (← omAll [`om_lt, `om_gt] c) ++ (← omAll [`om_r3, `om_r2, `om_r1, `om_l1, `om_l2, `om_l3, `om_l4, `om_i1, `om_i2, `om_i3, `om_i4] de) ++ (← omAll [`om_r0] as) ++ (← omAll [`om_n'] dc)
  let e ← omSeq (← `(tactic| omega (config := {})))
  let li ← omSeq (← `(tactic| lia (config := {})))
  omFirst (l ++ [← omSeq c] ++ if b then [li, e] else [e])
end Mine
end
local macro_rules | `(tactic| omega) => Mine.omTac false
local macro_rules | `(tactic| lia) => Mine.omTac true
theorem o0 (x r : Nat) (h : x + 40 < r ∧ r < 5) : x + 3 < r + 2 := by lia
set_option maxRecDepth 100000
set_option maxHeartbeats 1000000
section
open PySem PySem.W PySem.Calls PyProof.Rows
namespace Mine
noncomputable abbrev pr : Program := PySem.Challenge.rw_wy0048_01.row.prog
theorem lt0 : sreFenced pr.main = true := by rw [Fast.te11788848310118352699]; kernel_rfl
theorem lt1 : namesResolve pr = true := by rw [Fast.te8377067652309620493]; kernel_rfl
theorem lt2 : (importedModules pr.main.body).all cThrough.contains = true := by rw [Fast.te5923862056798008813]; kernel_rfl
theorem lt3 : (["vars", "dir", "locals"] : List Str).filter (readsOut pr pr.main.body) = [] := by rw [Fast.te13343964577679436407]; kernel_rfl
theorem lt5 : noRoadLSs { strict := false, foot := none, bare := [] } pr.main.body = true := by rw [Fast.te8326940854005059898]; kernel_rfl
theorem lt4 : PySem.Challenge.rw_wy0048_01.row.wellSaid = true := by
  unfold OpenRow.wellSaid OpenRow.partSaid looksOpen
  rw [lt2, lt3]
  simp only [Bool.and_eq_true, Bool.not_true]
  repeat' apply And.intro
  all_goals first | with_reducible exact lt0 | with_reducible exact lt1 | with_reducible exact lt5 | kernel_rfl
theorem law_said : PySem.Challenge.rw_wy0048_01.wellSaid = true := by
  unfold OpenLaw.wellSaid
  simp only [Bool.and_eq_true]
  repeat' apply And.intro
  all_goals first | with_reducible exact lt4 | (rw [Fast.te8179353310426384613]; kernel_rfl) | (rw [Fast.te8326940854005059898]; kernel_rfl) | (rw [Fast.te17119622794617984870]; kernel_rfl) | kernel_rfl
end Mine
end
section
open PySem PySem.W PySem.Calls PyProof.Rows
namespace Mine
noncomputable abbrev pw : Program := PySem.Challenge.pw_wy0048_01
noncomputable def nth (l : List Stmt) (i : Nat) : Stmt := (l[i]?).getD (.Pass ⟨0, 0, 0, 0⟩)
noncomputable def top : List Stmt := pw.main.body
noncomputable def fnArgs : Stmt → Arguments
  | .FunctionDef _ a _ _ _ _ _ _ _ _ => a
  | _ => { posonlyargs := [], args := [], vararg := none, kwonlyargs := [], kw_defaults := [], kwarg := none, defaults := [] }
noncomputable def fnBody : Stmt → List Stmt
  | .FunctionDef _ _ b _ _ _ _ _ _ _ => b
  | _ => []
noncomputable def fnScope : Stmt → Scope
  | .FunctionDef _ _ _ _ _ _ sc _ _ _ => sc
  | _ => { kind := .function, names := [], isGenerator := false, isCoroutine := false, more := [] }
noncomputable def clsBody : Stmt → List Stmt
  | .ClassDef _ _ _ b _ _ _ _ _ _ _ => b
  | _ => []
noncomputable def b3parts : Stmt → List (Option PySem.Expr) × List PySem.Expr
  | .Assign _ (.Dict ks vs _) _ => (ks, vs)
  | _ => ([], [])
noncomputable def constPair : Option PySem.Expr × PySem.Expr → Int × Str
  | (some (.Constant (.int k) _ _), .Constant (.str x) _ _) => (k, x)
  | _ => (0, Str.empty)
noncomputable def b3pairs : List (Int × Str) := ((b3parts (nth top 17)).1.zip (b3parts (nth top 17)).2).map constPair
noncomputable def b3ent (p : (Int × Str) × Nat) : DictEntry :=
  if p.2 < 646 then ⟨p.1.1, .int p.1.1 (430 + 3 * p.2), .str p.1.2 (431 + 3 * p.2)⟩ else ⟨p.1.1, .int p.1.1 (2368 + 2 * (p.2 - 646)), .str p.1.2 (2369 + 2 * (p.2 - 646))⟩
noncomputable def b3ents : List DictEntry := b3pairs.zipIdx.map b3ent
noncomputable def dictO (es : List DictEntry) (n : Nat) : Obj := { cls := .type "dict", data := .dict es.toArray n }
noncomputable def chunk (i n : Nat) : List DictEntry := (b3ents.drop i).take n
noncomputable def o140 (_ : Params) : Obj := dictO b3ents 650
noncomputable def o141 (_ : Params) : Obj := dictO (chunk 17 17) 17
noncomputable def o142 (_ : Params) : Obj := dictO (chunk 34 17) 17
noncomputable def o143 (_ : Params) : Obj := dictO (chunk 51 17) 17
noncomputable def o144 (_ : Params) : Obj := dictO (chunk 68 17) 17
noncomputable def o145 (_ : Params) : Obj := dictO (chunk 85 17) 17
noncomputable def o146 (_ : Params) : Obj := dictO (chunk 102 17) 17
noncomputable def o147 (_ : Params) : Obj := dictO (chunk 119 17) 17
noncomputable def o148 (_ : Params) : Obj := dictO (chunk 136 17) 17
noncomputable def o149 (_ : Params) : Obj := dictO (chunk 153 17) 17
noncomputable def o150 (_ : Params) : Obj := dictO (chunk 170 17) 17
noncomputable def o151 (_ : Params) : Obj := dictO (chunk 187 17) 17
noncomputable def o152 (_ : Params) : Obj := dictO (chunk 204 17) 17
noncomputable def o153 (_ : Params) : Obj := dictO (chunk 221 17) 17
noncomputable def o154 (_ : Params) : Obj := dictO (chunk 238 17) 17
noncomputable def o155 (_ : Params) : Obj := dictO (chunk 255 17) 17
noncomputable def o156 (_ : Params) : Obj := dictO (chunk 272 17) 17
noncomputable def o157 (_ : Params) : Obj := dictO (chunk 289 17) 17
noncomputable def o158 (_ : Params) : Obj := dictO (chunk 306 17) 17
noncomputable def o159 (_ : Params) : Obj := dictO (chunk 323 17) 17
noncomputable def o160 (_ : Params) : Obj := dictO (chunk 340 17) 17
noncomputable def o161 (_ : Params) : Obj := dictO (chunk 357 17) 17
noncomputable def o162 (_ : Params) : Obj := dictO (chunk 374 17) 17
noncomputable def o163 (_ : Params) : Obj := dictO (chunk 391 17) 17
noncomputable def o164 (_ : Params) : Obj := dictO (chunk 408 17) 17
noncomputable def o165 (_ : Params) : Obj := dictO (chunk 425 17) 17
noncomputable def o166 (_ : Params) : Obj := dictO (chunk 442 17) 17
noncomputable def o167 (_ : Params) : Obj := dictO (chunk 459 17) 17
noncomputable def o168 (_ : Params) : Obj := dictO (chunk 476 17) 17
noncomputable def o169 (_ : Params) : Obj := dictO (chunk 493 17) 17
noncomputable def o170 (_ : Params) : Obj := dictO (chunk 510 17) 17
noncomputable def o171 (_ : Params) : Obj := dictO (chunk 527 17) 17
noncomputable def o172 (_ : Params) : Obj := dictO (chunk 544 17) 17
noncomputable def o173 (_ : Params) : Obj := dictO (chunk 561 17) 17
noncomputable def o174 (_ : Params) : Obj := dictO (chunk 578 17) 17
noncomputable def o175 (_ : Params) : Obj := dictO (chunk 595 17) 17
noncomputable def o176 (_ : Params) : Obj := dictO (chunk 612 17) 17
noncomputable def o177 (_ : Params) : Obj := dictO (chunk 629 17) 17
noncomputable def o178 (_ : Params) : Obj := dictO (chunk 646 4) 4
noncomputable def o11 (P : Params) : Obj := ⟨.type "tuple", none, .seq #[] 0, #[]⟩
noncomputable def o13 (P : Params) : Obj := ⟨.type "code", none, .fields #[.str (Str.ofString "<module>") 182, .str (Str.ofString "<module>") 183, .str (Str.ofString "/claim/cut.py") 184, .int 1 0, .int 0 0, .int 0 0, .int 0 0, .int 0 0, .ref 11, .bool false, .int 181 0, .ref 12, .none, .none, .none, .none, .int 185 0, .int 1 0, .str (Str.ofString "/claim/cut.py") 186], #[]⟩
noncomputable def o14 (P : Params) : Obj := ⟨.type "frame", none, .plain, #[some (.ref 13), some (.ref 3), some (.ref 3), none, some (.str (Str.ofString "__main__") 164), none, some (.ref 0)]⟩
noncomputable def o15 (P : Params) : Obj := ⟨.type "tuple", none, .seq #[] 0, #[]⟩
noncomputable def o16 (P : Params) : Obj := ⟨.none, none, .fields #[], #[]⟩
noncomputable def o17 (P : Params) : Obj := ⟨.type "tuple", none, .seq #[.str (Str.ofString "k") 190] 0, #[]⟩
noncomputable def o18 (P : Params) : Obj := ⟨.type "tuple", none, .seq #[] 0, #[]⟩
noncomputable def o19 (P : Params) : Obj := ⟨.none, none, .func ⟨Str.ofString "_wall", Str.ofString "_wall", fnArgs (nth top 0), .stmts (fnBody (nth top 0)), fnScope (nth top 0), 0, [], .none, .none, .none, .none, none, .none, .none, 0⟩, #[]⟩
noncomputable def o20 (P : Params) : Obj := ⟨.type "code", none, .fields #[.str (Str.ofString "_wall") 187, .str (Str.ofString "_wall") 188, .str (Str.ofString "/claim/cut.py") 189, .int 1 0, .int 1 0, .int 0 0, .int 0 0, .int 3 0, .ref 15, .bool true, .int 181 0, .ref 16, .none, .ref 17, .ref 18, .ref 19, .int 191 0, .int 1 0, .str (Str.ofString "/claim/cut.py") 192], #[]⟩
noncomputable def o21 (P : Params) : Obj := ⟨.type "function", none, .func ⟨Str.ofString "_wall", Str.ofString "_wall", fnArgs (nth top 0), .stmts (fnBody (nth top 0)), fnScope (nth top 0), 3, [], .none, .none, .none, .str (Str.ofString "__main__") 164, none, .ref 20, .none, 0⟩, #[]⟩
noncomputable def o22 (P : Params) : Obj := ⟨.type "tuple", none, .seq #[] 0, #[]⟩
noncomputable def o23 (P : Params) : Obj := ⟨.type "builtin_function_or_method", none, .fields #[.builtin "type.__prepare__", .type "type"], #[]⟩
noncomputable def o24 (P : Params) : Obj := ⟨.type "dict", none, .dict #[⟨PyData.keyHash P (Str.ofString "__module__"), .str (Str.ofString "__module__") 203, .str (Str.ofString "cpy313.urllib.robotparser") 194⟩, ⟨PyData.keyHash P (Str.ofString "__qualname__"), .str (Str.ofString "__qualname__") 205, .str (Str.ofString "Entry") 204⟩, ⟨PyData.keyHash P (Str.ofString "__firstlineno__"), .str (Str.ofString "__firstlineno__") 207, .int 5 206⟩, ⟨PyData.keyHash P (Str.ofString "__init__"), .str (Str.ofString "__init__") 214, .ref 35⟩, ⟨PyData.keyHash P (Str.ofString "__str__"), .str (Str.ofString "__str__") 224, .ref 42⟩, ⟨PyData.keyHash P (Str.ofString "applies_to"), .str (Str.ofString "applies_to") 233, .ref 49⟩, ⟨PyData.keyHash P (Str.ofString "allowance"), .str (Str.ofString "allowance") 241, .ref 56⟩, ⟨PyData.keyHash P (Str.ofString "__static_attributes__"), .str (Str.ofString "__static_attributes__") 246, .ref 57⟩] 8, #[]⟩
noncomputable def o25 (P : Params) : Obj := ⟨.type "tuple", none, .seq #[] 0, #[]⟩
noncomputable def o26 (P : Params) : Obj := ⟨.none, none, .fields #[.int 7 0, .int 4 0, .ref 34, .int 13 0, .int 4 0, .ref 41, .int 30 0, .int 4 0, .ref 48, .int 41 0, .int 4 0, .ref 55], #[]⟩
noncomputable def o27 (P : Params) : Obj := ⟨.type "code", none, .fields #[.str (Str.ofString "Entry") 198, .str (Str.ofString "Entry") 199, .str (Str.ofString "/claim/cut.py") 200, .int 5 0, .int 0 0, .int 0 0, .int 0 0, .int 0 0, .ref 25, .bool false, .int 181 0, .ref 26, .none, .none, .none, .none, .int 201 0, .int 5 0, .str (Str.ofString "/claim/cut.py") 202], #[]⟩
noncomputable def o28 (P : Params) : Obj := ⟨.type "frame", none, .plain, #[some (.ref 27), some (.ref 3), some (.ref 24), none, some (.str (Str.ofString "cpy313.urllib.robotparser") 194), none, some (.ref 0)]⟩
noncomputable def o29 (P : Params) : Obj := ⟨.type "tuple", none, .seq #[] 0, #[]⟩
noncomputable def o30 (P : Params) : Obj := ⟨.none, none, .fields #[], #[]⟩
noncomputable def o31 (P : Params) : Obj := ⟨.type "tuple", none, .seq #[.str (Str.ofString "self") 211] 0, #[]⟩
noncomputable def o32 (P : Params) : Obj := ⟨.type "tuple", none, .seq #[] 0, #[]⟩
noncomputable def o33 (P : Params) : Obj := ⟨.none, none, .func ⟨Str.ofString "__init__", Str.ofString "Entry.__init__", fnArgs (nth (clsBody (nth top 2)) 0), .stmts (fnBody (nth (clsBody (nth top 2)) 0)), fnScope (nth (clsBody (nth top 2)) 0), 0, [], .none, .none, .none, .none, none, .none, .none, 0⟩, #[]⟩
noncomputable def o34 (P : Params) : Obj := ⟨.type "code", none, .fields #[.str (Str.ofString "__init__") 208, .str (Str.ofString "Entry.__init__") 209, .str (Str.ofString "/claim/cut.py") 210, .int 7 0, .int 1 0, .int 0 0, .int 0 0, .int 3 0, .ref 29, .bool true, .int 181 0, .ref 30, .none, .ref 31, .ref 32, .ref 33, .int 212 0, .int 7 0, .str (Str.ofString "/claim/cut.py") 213], #[]⟩
noncomputable def o35 (P : Params) : Obj := ⟨.type "function", none, .func ⟨Str.ofString "__init__", Str.ofString "Entry.__init__", fnArgs (nth (clsBody (nth top 2)) 0), .stmts (fnBody (nth (clsBody (nth top 2)) 0)), fnScope (nth (clsBody (nth top 2)) 0), 3, [], .none, .none, .none, .str (Str.ofString "cpy313.urllib.robotparser") 194, none, .ref 34, .none, 0⟩, #[]⟩
noncomputable def o36 (P : Params) : Obj := ⟨.type "tuple", none, .seq #[] 0, #[]⟩
noncomputable def o37 (P : Params) : Obj := ⟨.none, none, .fields #[], #[]⟩
noncomputable def o38 (P : Params) : Obj := ⟨.type "tuple", none, .seq #[.str (Str.ofString "self") 218, .str (Str.ofString "ret") 219, .str (Str.ofString "agent") 220, .str (Str.ofString "rate") 221] 0, #[]⟩
noncomputable def o39 (P : Params) : Obj := ⟨.type "tuple", none, .seq #[] 0, #[]⟩
noncomputable def o40 (P : Params) : Obj := ⟨.none, none, .func ⟨Str.ofString "__str__", Str.ofString "Entry.__str__", fnArgs (nth (clsBody (nth top 2)) 1), .stmts (fnBody (nth (clsBody (nth top 2)) 1)), fnScope (nth (clsBody (nth top 2)) 1), 0, [], .none, .none, .none, .none, none, .none, .none, 0⟩, #[]⟩
noncomputable def o41 (P : Params) : Obj := ⟨.type "code", none, .fields #[.str (Str.ofString "__str__") 215, .str (Str.ofString "Entry.__str__") 216, .str (Str.ofString "/claim/cut.py") 217, .int 13 0, .int 1 0, .int 0 0, .int 0 0, .int 3 0, .ref 36, .bool true, .int 181 0, .ref 37, .none, .ref 38, .ref 39, .ref 40, .int 222 0, .int 13 0, .str (Str.ofString "/claim/cut.py") 223], #[]⟩
noncomputable def o42 (P : Params) : Obj := ⟨.type "function", none, .func ⟨Str.ofString "__str__", Str.ofString "Entry.__str__", fnArgs (nth (clsBody (nth top 2)) 1), .stmts (fnBody (nth (clsBody (nth top 2)) 1)), fnScope (nth (clsBody (nth top 2)) 1), 3, [], .none, .none, .none, .str (Str.ofString "cpy313.urllib.robotparser") 194, none, .ref 41, .none, 0⟩, #[]⟩
noncomputable def o43 (P : Params) : Obj := ⟨.type "tuple", none, .seq #[] 0, #[]⟩
noncomputable def o44 (P : Params) : Obj := ⟨.none, none, .fields #[], #[]⟩
noncomputable def o45 (P : Params) : Obj := ⟨.type "tuple", none, .seq #[.str (Str.ofString "self") 228, .str (Str.ofString "useragent") 229, .str (Str.ofString "agent") 230] 0, #[]⟩
noncomputable def o46 (P : Params) : Obj := ⟨.type "tuple", none, .seq #[] 0, #[]⟩
noncomputable def o47 (P : Params) : Obj := ⟨.none, none, .func ⟨Str.ofString "applies_to", Str.ofString "Entry.applies_to", fnArgs (nth (clsBody (nth top 2)) 2), .stmts (fnBody (nth (clsBody (nth top 2)) 2)), fnScope (nth (clsBody (nth top 2)) 2), 0, [], .none, .none, .none, .none, none, .none, .none, 0⟩, #[]⟩
noncomputable def o48 (P : Params) : Obj := ⟨.type "code", none, .fields #[.str (Str.ofString "applies_to") 225, .str (Str.ofString "Entry.applies_to") 226, .str (Str.ofString "/claim/cut.py") 227, .int 30 0, .int 2 0, .int 0 0, .int 0 0, .int 3 0, .ref 43, .bool true, .int 181 0, .ref 44, .none, .ref 45, .ref 46, .ref 47, .int 231 0, .int 30 0, .str (Str.ofString "/claim/cut.py") 232], #[]⟩
noncomputable def o49 (P : Params) : Obj := ⟨.type "function", none, .func ⟨Str.ofString "applies_to", Str.ofString "Entry.applies_to", fnArgs (nth (clsBody (nth top 2)) 2), .stmts (fnBody (nth (clsBody (nth top 2)) 2)), fnScope (nth (clsBody (nth top 2)) 2), 3, [], .none, .none, .none, .str (Str.ofString "cpy313.urllib.robotparser") 194, none, .ref 48, .none, 0⟩, #[]⟩
noncomputable def o50 (P : Params) : Obj := ⟨.type "tuple", none, .seq #[] 0, #[]⟩
noncomputable def o51 (P : Params) : Obj := ⟨.none, none, .fields #[], #[]⟩
noncomputable def o52 (P : Params) : Obj := ⟨.type "tuple", none, .seq #[.str (Str.ofString "self") 237, .str (Str.ofString "filename") 238] 0, #[]⟩
noncomputable def o53 (P : Params) : Obj := ⟨.type "tuple", none, .seq #[] 0, #[]⟩
noncomputable def o54 (P : Params) : Obj := ⟨.none, none, .func ⟨Str.ofString "allowance", Str.ofString "Entry.allowance", fnArgs (nth (clsBody (nth top 2)) 3), .stmts (fnBody (nth (clsBody (nth top 2)) 3)), fnScope (nth (clsBody (nth top 2)) 3), 0, [], .none, .none, .none, .none, none, .none, .none, 0⟩, #[]⟩
noncomputable def o55 (P : Params) : Obj := ⟨.type "code", none, .fields #[.str (Str.ofString "allowance") 234, .str (Str.ofString "Entry.allowance") 235, .str (Str.ofString "/claim/cut.py") 236, .int 41 0, .int 2 0, .int 0 0, .int 0 0, .int 3 0, .ref 50, .bool true, .int 181 0, .ref 51, .none, .ref 52, .ref 53, .ref 54, .int 239 0, .int 41 0, .str (Str.ofString "/claim/cut.py") 240], #[]⟩
noncomputable def o56 (P : Params) : Obj := ⟨.type "function", none, .func ⟨Str.ofString "allowance", Str.ofString "Entry.allowance", fnArgs (nth (clsBody (nth top 2)) 3), .stmts (fnBody (nth (clsBody (nth top 2)) 3)), fnScope (nth (clsBody (nth top 2)) 3), 3, [], .none, .none, .none, .str (Str.ofString "cpy313.urllib.robotparser") 194, none, .ref 55, .none, 0⟩, #[]⟩
noncomputable def o57 (P : Params) : Obj := ⟨.type "tuple", none, .seq #[.str (Str.ofString "delay") 242, .str (Str.ofString "req_rate") 243, .str (Str.ofString "rulelines") 244, .str (Str.ofString "useragents") 245] 0, #[]⟩
noncomputable def o58 (P : Params) : Obj := ⟨.type "dict", none, .dict #[⟨PyData.keyHash P (Str.ofString "__module__"), .str (Str.ofString "__module__") 203, .str (Str.ofString "cpy313.urllib.robotparser") 194⟩, ⟨PyData.keyHash P (Str.ofString "__firstlineno__"), .str (Str.ofString "__firstlineno__") 207, .int 5 206⟩, ⟨PyData.keyHash P (Str.ofString "__init__"), .str (Str.ofString "__init__") 214, .ref 35⟩, ⟨PyData.keyHash P (Str.ofString "__str__"), .str (Str.ofString "__str__") 224, .ref 42⟩, ⟨PyData.keyHash P (Str.ofString "applies_to"), .str (Str.ofString "applies_to") 233, .ref 49⟩, ⟨PyData.keyHash P (Str.ofString "allowance"), .str (Str.ofString "allowance") 241, .ref 56⟩, ⟨PyData.keyHash P (Str.ofString "__static_attributes__"), .str (Str.ofString "__static_attributes__") 246, .ref 57⟩, ⟨PyData.keyHash P (Str.ofString "__dict__"), .str (Str.ofString "__dict__") 248, .ref 60⟩, ⟨PyData.keyHash P (Str.ofString "__weakref__"), .str (Str.ofString "__weakref__") 250, .ref 61⟩, ⟨PyData.keyHash P (Str.ofString "__doc__"), .str (Str.ofString "__doc__") 251, .none⟩] 4, #[]⟩
noncomputable def o59 (P : Params) : Obj := ⟨.type "type", none, .cls { name := (Str.ofString "Entry"), bases := [.type "object"], mro := [.ref 59, .type "object"], ns := 58, qualname := (Str.ofString "Entry"), hasDict := true, slotNames := [], subclasses := [], abstract := false, collection := none, hasDel := false }, #[none, none, some (.str (Str.ofString "Entry") 196), some (.str (Str.ofString "Entry") 204), some (.builtin "object.__new__"), some (.bool true)]⟩
noncomputable def o60 (P : Params) : Obj := ⟨.type "getset_descriptor", none, .fields #[.str (Str.ofString "__dict__") 247, .ref 59, .builtin "function.__dict__", .builtin "function.__dict__#set"], #[]⟩
noncomputable def o61 (P : Params) : Obj := ⟨.type "getset_descriptor", none, .fields #[.str (Str.ofString "__weakref__") 249, .ref 59, .builtin "ExceptionGroup.__weakref__", .none], #[]⟩
noncomputable def o62 (P : Params) : Obj := ⟨.type "super", none, .fields #[.ref 59, .ref 59, .ref 59], #[]⟩
noncomputable def o63 (P : Params) : Obj := ⟨.type "builtin_function_or_method", none, .fields #[.builtin "object.__init_subclass__", .ref 59], #[]⟩
noncomputable def o64 (P : Params) : Obj := ⟨.type "tuple", none, .seq #[] 0, #[]⟩
noncomputable def o65 (P : Params) : Obj := ⟨.none, none, .fields #[], #[]⟩
noncomputable def o66 (P : Params) : Obj := ⟨.type "tuple", none, .seq #[.str (Str.ofString "e1") 257, .str (Str.ofString "e2") 258, .str (Str.ofString "entry") 259] 0, #[]⟩
noncomputable def o67 (P : Params) : Obj := ⟨.type "tuple", none, .seq #[] 0, #[]⟩
noncomputable def o68 (P : Params) : Obj := ⟨.none, none, .func ⟨Str.ofString "merge_entries", Str.ofString "merge_entries", fnArgs (nth top 3), .stmts (fnBody (nth top 3)), fnScope (nth top 3), 0, [], .none, .none, .none, .none, none, .none, .none, 0⟩, #[]⟩
noncomputable def o69 (P : Params) : Obj := ⟨.type "code", none, .fields #[.str (Str.ofString "merge_entries") 254, .str (Str.ofString "merge_entries") 255, .str (Str.ofString "/claim/cut.py") 256, .int 43 0, .int 2 0, .int 0 0, .int 0 0, .int 3 0, .ref 64, .bool true, .int 181 0, .ref 65, .none, .ref 66, .ref 67, .ref 68, .int 260 0, .int 43 0, .str (Str.ofString "/claim/cut.py") 261], #[]⟩
noncomputable def o70 (P : Params) : Obj := ⟨.type "function", none, .func ⟨Str.ofString "merge_entries", Str.ofString "merge_entries", fnArgs (nth top 3), .stmts (fnBody (nth top 3)), fnScope (nth top 3), 3, [], .none, .none, .none, .str (Str.ofString "cpy313.urllib.robotparser") 194, none, .ref 69, .none, 0⟩, #[]⟩
noncomputable def o71 (P : Params) : Obj := ⟨.type "tuple", none, .seq #[] 0, #[]⟩
noncomputable def o72 (P : Params) : Obj := ⟨.none, none, .fields #[], #[]⟩
noncomputable def o73 (P : Params) : Obj := ⟨.type "tuple", none, .seq #[.str (Str.ofString "a") 270, .str (Str.ofString "b") 271, .str (Str.ofString "n") 272, .str (Str.ofString "pad") 273, .str (Str.ofString "half_n") 274, .str (Str.ofString "mask") 275, .str (Str.ofString "b1") 276, .str (Str.ofString "b2") 277, .str (Str.ofString "q1") 278, .str (Str.ofString "r") 279, .str (Str.ofString "q2") 280] 0, #[]⟩
noncomputable def o74 (P : Params) : Obj := ⟨.type "tuple", none, .seq #[] 0, #[]⟩
noncomputable def o75 (P : Params) : Obj := ⟨.none, none, .func ⟨Str.ofString "_div2n1n", Str.ofString "_div2n1n", fnArgs (nth top 6), .stmts (fnBody (nth top 6)), fnScope (nth top 6), 0, [], .none, .none, .none, .none, none, .none, .none, 0⟩, #[]⟩
noncomputable def o76 (P : Params) : Obj := ⟨.type "code", none, .fields #[.str (Str.ofString "_div2n1n") 267, .str (Str.ofString "_div2n1n") 268, .str (Str.ofString "/claim/cut.py") 269, .int 52 0, .int 3 0, .int 0 0, .int 0 0, .int 3 0, .ref 71, .bool true, .int 181 0, .ref 72, .none, .ref 73, .ref 74, .ref 75, .int 281 0, .int 52 0, .str (Str.ofString "/claim/cut.py") 282], #[]⟩
noncomputable def o77 (P : Params) : Obj := ⟨.type "function", none, .func ⟨Str.ofString "_div2n1n", Str.ofString "_div2n1n", fnArgs (nth top 6), .stmts (fnBody (nth top 6)), fnScope (nth top 6), 3, [], .none, .none, .none, .str (Str.ofString "cpy313._pylong") 263, none, .ref 76, .none, 0⟩, #[]⟩
noncomputable def o78 (P : Params) : Obj := ⟨.type "tuple", none, .seq #[] 0, #[]⟩
noncomputable def o79 (P : Params) : Obj := ⟨.none, none, .fields #[], #[]⟩
noncomputable def o80 (P : Params) : Obj := ⟨.type "tuple", none, .seq #[.str (Str.ofString "a12") 287, .str (Str.ofString "a3") 288, .str (Str.ofString "b") 289, .str (Str.ofString "b1") 290, .str (Str.ofString "b2") 291, .str (Str.ofString "n") 292, .str (Str.ofString "q") 293, .str (Str.ofString "r") 294] 0, #[]⟩
noncomputable def o81 (P : Params) : Obj := ⟨.type "tuple", none, .seq #[] 0, #[]⟩
noncomputable def o82 (P : Params) : Obj := ⟨.none, none, .func ⟨Str.ofString "_div3n2n", Str.ofString "_div3n2n", fnArgs (nth top 7), .stmts (fnBody (nth top 7)), fnScope (nth top 7), 0, [], .none, .none, .none, .none, none, .none, .none, 0⟩, #[]⟩
noncomputable def o83 (P : Params) : Obj := ⟨.type "code", none, .fields #[.str (Str.ofString "_div3n2n") 284, .str (Str.ofString "_div3n2n") 285, .str (Str.ofString "/claim/cut.py") 286, .int 68 0, .int 6 0, .int 0 0, .int 0 0, .int 3 0, .ref 78, .bool true, .int 181 0, .ref 79, .none, .ref 80, .ref 81, .ref 82, .int 295 0, .int 68 0, .str (Str.ofString "/claim/cut.py") 296], #[]⟩
noncomputable def o84 (P : Params) : Obj := ⟨.type "function", none, .func ⟨Str.ofString "_div3n2n", Str.ofString "_div3n2n", fnArgs (nth top 7), .stmts (fnBody (nth top 7)), fnScope (nth top 7), 3, [], .none, .none, .none, .str (Str.ofString "cpy313._pylong") 263, none, .ref 83, .none, 0⟩, #[]⟩
noncomputable def o85 (P : Params) : Obj := ⟨.type "tuple", none, .seq #[] 0, #[]⟩
noncomputable def o86 (P : Params) : Obj := ⟨.none, none, .fields #[], #[]⟩
noncomputable def o87 (P : Params) : Obj := ⟨.type "tuple", none, .seq #[.str (Str.ofString "a") 301, .str (Str.ofString "n") 302] 0, #[]⟩
noncomputable def o88 (P : Params) : Obj := ⟨.type "tuple", none, .seq #[.str (Str.ofString "n") 303, .str (Str.ofString "a_digits") 304, .str (Str.ofString "inner") 305] 0, #[]⟩
noncomputable def o89 (P : Params) : Obj := ⟨.none, none, .func ⟨Str.ofString "_int2digits", Str.ofString "_int2digits", fnArgs (nth top 8), .stmts (fnBody (nth top 8)), fnScope (nth top 8), 0, [], .none, .none, .none, .none, none, .none, .none, 0⟩, #[]⟩
noncomputable def o90 (P : Params) : Obj := ⟨.type "code", none, .fields #[.str (Str.ofString "_int2digits") 298, .str (Str.ofString "_int2digits") 299, .str (Str.ofString "/claim/cut.py") 300, .int 78 0, .int 2 0, .int 0 0, .int 0 0, .int 3 0, .ref 85, .bool true, .int 181 0, .ref 86, .none, .ref 87, .ref 88, .ref 89, .int 306 0, .int 78 0, .str (Str.ofString "/claim/cut.py") 307], #[]⟩
noncomputable def o91 (P : Params) : Obj := ⟨.type "function", none, .func ⟨Str.ofString "_int2digits", Str.ofString "_int2digits", fnArgs (nth top 8), .stmts (fnBody (nth top 8)), fnScope (nth top 8), 3, [], .none, .none, .none, .str (Str.ofString "cpy313._pylong") 263, none, .ref 90, .none, 0⟩, #[]⟩
noncomputable def o92 (P : Params) : Obj := ⟨.type "tuple", none, .seq #[] 0, #[]⟩
noncomputable def o93 (P : Params) : Obj := ⟨.none, none, .fields #[], #[]⟩
noncomputable def o94 (P : Params) : Obj := ⟨.type "tuple", none, .seq #[.str (Str.ofString "digits") 312, .str (Str.ofString "n") 313] 0, #[]⟩
noncomputable def o95 (P : Params) : Obj := ⟨.type "tuple", none, .seq #[.str (Str.ofString "digits") 314, .str (Str.ofString "n") 315, .str (Str.ofString "inner") 316] 0, #[]⟩
noncomputable def o96 (P : Params) : Obj := ⟨.none, none, .func ⟨Str.ofString "_digits2int", Str.ofString "_digits2int", fnArgs (nth top 9), .stmts (fnBody (nth top 9)), fnScope (nth top 9), 0, [], .none, .none, .none, .none, none, .none, .none, 0⟩, #[]⟩
noncomputable def o97 (P : Params) : Obj := ⟨.type "code", none, .fields #[.str (Str.ofString "_digits2int") 309, .str (Str.ofString "_digits2int") 310, .str (Str.ofString "/claim/cut.py") 311, .int 94 0, .int 2 0, .int 0 0, .int 0 0, .int 3 0, .ref 92, .bool true, .int 181 0, .ref 93, .none, .ref 94, .ref 95, .ref 96, .int 317 0, .int 94 0, .str (Str.ofString "/claim/cut.py") 318], #[]⟩
noncomputable def o98 (P : Params) : Obj := ⟨.type "function", none, .func ⟨Str.ofString "_digits2int", Str.ofString "_digits2int", fnArgs (nth top 9), .stmts (fnBody (nth top 9)), fnScope (nth top 9), 3, [], .none, .none, .none, .str (Str.ofString "cpy313._pylong") 263, none, .ref 97, .none, 0⟩, #[]⟩
noncomputable def o99 (P : Params) : Obj := ⟨.type "tuple", none, .seq #[] 0, #[]⟩
noncomputable def o100 (P : Params) : Obj := ⟨.none, none, .fields #[], #[]⟩
noncomputable def o101 (P : Params) : Obj := ⟨.type "tuple", none, .seq #[.str (Str.ofString "a") 323, .str (Str.ofString "b") 324, .str (Str.ofString "n") 325, .str (Str.ofString "a_digits") 326, .str (Str.ofString "r") 327, .str (Str.ofString "q_digits") 328, .str (Str.ofString "a_digit") 329, .str (Str.ofString "q_digit") 330, .str (Str.ofString "q") 331] 0, #[]⟩
noncomputable def o102 (P : Params) : Obj := ⟨.type "tuple", none, .seq #[] 0, #[]⟩
noncomputable def o103 (P : Params) : Obj := ⟨.none, none, .func ⟨Str.ofString "_divmod_pos", Str.ofString "_divmod_pos", fnArgs (nth top 10), .stmts (fnBody (nth top 10)), fnScope (nth top 10), 0, [], .none, .none, .none, .none, none, .none, .none, 0⟩, #[]⟩
noncomputable def o104 (P : Params) : Obj := ⟨.type "code", none, .fields #[.str (Str.ofString "_divmod_pos") 320, .str (Str.ofString "_divmod_pos") 321, .str (Str.ofString "/claim/cut.py") 322, .int 103 0, .int 2 0, .int 0 0, .int 0 0, .int 3 0, .ref 99, .bool true, .int 181 0, .ref 100, .none, .ref 101, .ref 102, .ref 103, .int 332 0, .int 103 0, .str (Str.ofString "/claim/cut.py") 333], #[]⟩
noncomputable def o105 (P : Params) : Obj := ⟨.type "function", none, .func ⟨Str.ofString "_divmod_pos", Str.ofString "_divmod_pos", fnArgs (nth top 10), .stmts (fnBody (nth top 10)), fnScope (nth top 10), 3, [], .none, .none, .none, .str (Str.ofString "cpy313._pylong") 263, none, .ref 104, .none, 0⟩, #[]⟩
noncomputable def o106 (P : Params) : Obj := ⟨.type "tuple", none, .seq #[] 0, #[]⟩
noncomputable def o107 (P : Params) : Obj := ⟨.none, none, .fields #[], #[]⟩
noncomputable def o108 (P : Params) : Obj := ⟨.type "tuple", none, .seq #[.str (Str.ofString "a") 338, .str (Str.ofString "b") 339, .str (Str.ofString "q") 340, .str (Str.ofString "r") 341] 0, #[]⟩
noncomputable def o109 (P : Params) : Obj := ⟨.type "tuple", none, .seq #[] 0, #[]⟩
noncomputable def o110 (P : Params) : Obj := ⟨.none, none, .func ⟨Str.ofString "int_divmod", Str.ofString "int_divmod", fnArgs (nth top 11), .stmts (fnBody (nth top 11)), fnScope (nth top 11), 0, [], .none, .none, .none, .none, none, .none, .none, 0⟩, #[]⟩
noncomputable def o111 (P : Params) : Obj := ⟨.type "code", none, .fields #[.str (Str.ofString "int_divmod") 335, .str (Str.ofString "int_divmod") 336, .str (Str.ofString "/claim/cut.py") 337, .int 114 0, .int 2 0, .int 0 0, .int 0 0, .int 3 0, .ref 106, .bool true, .int 181 0, .ref 107, .none, .ref 108, .ref 109, .ref 110, .int 342 0, .int 114 0, .str (Str.ofString "/claim/cut.py") 343], #[]⟩
noncomputable def o112 (P : Params) : Obj := ⟨.type "function", none, .func ⟨Str.ofString "int_divmod", Str.ofString "int_divmod", fnArgs (nth top 11), .stmts (fnBody (nth top 11)), fnScope (nth top 11), 3, [], .none, .none, .none, .str (Str.ofString "cpy313._pylong") 263, none, .ref 111, .none, 0⟩, #[]⟩
noncomputable def o113 (P : Params) : Obj := ⟨.type "tuple", none, .seq #[.int 0 347, .none] 0, #[]⟩
noncomputable def o114 (P : Params) : Obj := ⟨.type "dict", none, .dict #[⟨PyData.keyHash P (Str.ofString "key"), .str (Str.ofString "key") 348, .none⟩] 1, #[]⟩
noncomputable def o115 (P : Params) : Obj := ⟨.type "tuple", none, .seq #[] 0, #[]⟩
noncomputable def o116 (P : Params) : Obj := ⟨.none, none, .fields #[], #[]⟩
noncomputable def o117 (P : Params) : Obj := ⟨.type "tuple", none, .seq #[.str (Str.ofString "a") 352, .str (Str.ofString "x") 353, .str (Str.ofString "lo") 354, .str (Str.ofString "hi") 355, .str (Str.ofString "key") 356, .str (Str.ofString "mid") 357] 0, #[]⟩
noncomputable def o118 (P : Params) : Obj := ⟨.type "tuple", none, .seq #[] 0, #[]⟩
noncomputable def o119 (P : Params) : Obj := ⟨.none, none, .func ⟨Str.ofString "bisect_right", Str.ofString "bisect_right", fnArgs (nth top 13), .stmts (fnBody (nth top 13)), fnScope (nth top 13), 0, [], .none, .none, .none, .none, none, .none, .none, 0⟩, #[]⟩
noncomputable def o120 (P : Params) : Obj := ⟨.type "code", none, .fields #[.str (Str.ofString "bisect_right") 349, .str (Str.ofString "bisect_right") 350, .str (Str.ofString "/claim/cut.py") 351, .int 126 0, .int 4 0, .int 0 0, .int 1 0, .int 3 0, .ref 115, .bool true, .int 181 0, .ref 116, .none, .ref 117, .ref 118, .ref 119, .int 358 0, .int 126 0, .str (Str.ofString "/claim/cut.py") 359], #[]⟩
noncomputable def o121 (P : Params) : Obj := ⟨.type "function", none, .func ⟨Str.ofString "bisect_right", Str.ofString "bisect_right", fnArgs (nth top 13), .stmts (fnBody (nth top 13)), fnScope (nth top 13), 3, [], .ref 113, .ref 114, .none, .str (Str.ofString "cpy313.bisect") 345, none, .ref 120, .none, 0⟩, #[]⟩
noncomputable def o122 (P : Params) : Obj := ⟨.type "list", none, .seq #[.int 173 363, .int 847 364, .int 6150 365, .int 6155 366, .int 6156 367, .int 6157 368, .int 8203 369, .int 8204 370, .int 8205 371, .int 8288 372, .int 65279 373] 0, #[]⟩
noncomputable def o123 (P : Params) : Obj := ⟨.type "range", none, .fields #[.int 65024 374, .int 65040 375, .int 1 376], #[]⟩
noncomputable def o124 (P : Params) : Obj := ⟨.type "list", none, .seq #[.int 65024 379, .int 65025 380, .int 65026 381, .int 65027 382, .int 65028 383, .int 65029 384, .int 65030 385, .int 65031 386, .int 65032 387, .int 65033 388, .int 65034 389, .int 65035 390, .int 65036 391, .int 65037 392, .int 65038 393, .int 65039 394] 18, #[]⟩
noncomputable def o125 (P : Params) : Obj := ⟨.type "range_iterator", none, .fields #[.int 65040 0, .int 0 0, .int 1 0], #[]⟩
noncomputable def o126 (P : Params) : Obj := ⟨.type "tuple", none, .seq #[] 0, #[]⟩
noncomputable def o127 (P : Params) : Obj := ⟨.type "StopIteration", none, .fields #[.ref 126, .none, .none, .none, .bool false, .none], #[]⟩
noncomputable def o128 (P : Params) : Obj := ⟨.type "list", none, .seq #[.int 173 363, .int 847 364, .int 6150 365, .int 6155 366, .int 6156 367, .int 6157 368, .int 8203 369, .int 8204 370, .int 8205 371, .int 8288 372, .int 65279 373, .int 65024 379, .int 65025 380, .int 65026 381, .int 65027 382, .int 65028 383, .int 65029 384, .int 65030 385, .int 65031 386, .int 65032 387, .int 65033 388, .int 65034 389, .int 65035 390, .int 65036 391, .int 65037 392, .int 65038 393, .int 65039 394] 0, #[]⟩
noncomputable def o129 (P : Params) : Obj := ⟨.type "set", none, .set #[(65024, (.int 65024 379)), (65025, (.int 65025 380)), (65026, (.int 65026 381)), (65027, (.int 65027 382)), (65028, (.int 65028 383)), (65029, (.int 65029 384)), (6150, (.int 6150 365)), (65030, (.int 65030 385)), (65031, (.int 65031 386)), (65032, (.int 65032 387)), (65033, (.int 65033 388)), (6155, (.int 6155 366)), (6156, (.int 6156 367)), (6157, (.int 6157 368)), (8203, (.int 8203 369)), (8204, (.int 8204 370)), (8205, (.int 8205 371)), (65034, (.int 65034 389)), (65035, (.int 65035 390)), (65036, (.int 65036 391)), (65037, (.int 65037 392)), (65038, (.int 65038 393)), (65039, (.int 65039 394)), (173, (.int 173 363)), (847, (.int 847 364)), (8288, (.int 8288 372)), (65279, (.int 65279 373))] 29 { mask := 127, place := #[0, 1, 2, 3, 4, 5, 6, 7, 8, 9, 10, 11, 12, 13, 14, 15, 16, 17, 18, 19, 20, 21, 22, 45, 79, 96, 127], dummies := #[], finger := 0, led := !P.followText "set-order", moves := 2, plain := true }, #[]⟩
noncomputable def o130 (P : Params) : Obj := ⟨.type "list_iterator", none, .fields #[.none, .int 27 0], #[]⟩
noncomputable def o131 (P : Params) : Obj := ⟨.type "tuple", none, .seq #[] 0, #[]⟩
noncomputable def o132 (P : Params) : Obj := ⟨.type "StopIteration", none, .fields #[.ref 131, .none, .none, .none, .bool false, .none], #[]⟩
noncomputable def o133 (P : Params) : Obj := ⟨.type "tuple", none, .seq #[] 0, #[]⟩
noncomputable def o134 (P : Params) : Obj := ⟨.none, none, .fields #[], #[]⟩
noncomputable def o135 (P : Params) : Obj := ⟨.type "tuple", none, .seq #[.str (Str.ofString "code") 426] 0, #[]⟩
noncomputable def o136 (P : Params) : Obj := ⟨.type "tuple", none, .seq #[] 0, #[]⟩
noncomputable def o137 (P : Params) : Obj := ⟨.none, none, .func ⟨Str.ofString "in_table_b1", Str.ofString "in_table_b1", fnArgs (nth top 16), .stmts (fnBody (nth top 16)), fnScope (nth top 16), 0, [], .none, .none, .none, .none, none, .none, .none, 0⟩, #[]⟩
noncomputable def o138 (P : Params) : Obj := ⟨.type "code", none, .fields #[.str (Str.ofString "in_table_b1") 423, .str (Str.ofString "in_table_b1") 424, .str (Str.ofString "/claim/cut.py") 425, .int 148 0, .int 1 0, .int 0 0, .int 0 0, .int 3 0, .ref 133, .bool true, .int 181 0, .ref 134, .none, .ref 135, .ref 136, .ref 137, .int 427 0, .int 148 0, .str (Str.ofString "/claim/cut.py") 428], #[]⟩
noncomputable def o139 (P : Params) : Obj := ⟨.type "function", none, .func ⟨Str.ofString "in_table_b1", Str.ofString "in_table_b1", fnArgs (nth top 16), .stmts (fnBody (nth top 16)), fnScope (nth top 16), 3, [], .none, .none, .none, .str (Str.ofString "cpy313.stringprep") 361, none, .ref 138, .none, 0⟩, #[]⟩
noncomputable def o179 (P : Params) : Obj := ⟨.type "tuple", none, .seq #[] 0, #[]⟩
noncomputable def o180 (P : Params) : Obj := ⟨.none, none, .fields #[], #[]⟩
noncomputable def o181 (P : Params) : Obj := ⟨.type "tuple", none, .seq #[.str (Str.ofString "code") 2384, .str (Str.ofString "r") 2385] 0, #[]⟩
noncomputable def o182 (P : Params) : Obj := ⟨.type "tuple", none, .seq #[] 0, #[]⟩
noncomputable def o183 (P : Params) : Obj := ⟨.none, none, .func ⟨Str.ofString "map_table_b3", Str.ofString "map_table_b3", fnArgs (nth top 18), .stmts (fnBody (nth top 18)), fnScope (nth top 18), 0, [], .none, .none, .none, .none, none, .none, .none, 0⟩, #[]⟩
noncomputable def o184 (P : Params) : Obj := ⟨.type "code", none, .fields #[.str (Str.ofString "map_table_b3") 2381, .str (Str.ofString "map_table_b3") 2382, .str (Str.ofString "/claim/cut.py") 2383, .int 151 0, .int 1 0, .int 0 0, .int 0 0, .int 3 0, .ref 179, .bool true, .int 181 0, .ref 180, .none, .ref 181, .ref 182, .ref 183, .int 2386 0, .int 151 0, .str (Str.ofString "/claim/cut.py") 2387], #[]⟩
noncomputable def o185 (P : Params) : Obj := ⟨.type "function", none, .func ⟨Str.ofString "map_table_b3", Str.ofString "map_table_b3", fnArgs (nth top 18), .stmts (fnBody (nth top 18)), fnScope (nth top 18), 3, [], .none, .none, .none, .str (Str.ofString "cpy313.stringprep") 361, none, .ref 184, .none, 0⟩, #[]⟩
noncomputable def o186 (P : Params) : Obj := ⟨.type "tuple", none, .seq #[] 0, #[]⟩
noncomputable def o187 (P : Params) : Obj := ⟨.none, none, .fields #[], #[]⟩
noncomputable def o188 (P : Params) : Obj := ⟨.none, none, .func ⟨Str.ofString "_law_front", Str.ofString "_law_front", fnArgs (nth top 20), .stmts (fnBody (nth top 20)), fnScope (nth top 20), 0, [], .none, .none, .none, .none, none, .none, .none, 0⟩, #[]⟩
noncomputable def o189 (P : Params) : Obj := ⟨.type "code", none, .fields #[.str (Str.ofString "_law_front") 2391, .str (Str.ofString "_law_front") 2392, .str (Str.ofString "/claim/cut.py") 2393, .int 157 0, .int 2 0, .int 0 0, .int 0 0, .int 3 0, .ref 186, .bool true, .int 181 0, .ref 187, .none, .none, .none, .ref 188, .int 2394 0, .int 157 0, .str (Str.ofString "/claim/cut.py") 2395], #[]⟩
noncomputable def o190 (P : Params) : Obj := ⟨.type "function", none, .func ⟨Str.ofString "_law_front", Str.ofString "_law_front", fnArgs (nth top 20), .stmts (fnBody (nth top 20)), fnScope (nth top 20), 3, [], .none, .none, .none, .str (Str.ofString "law_wy0048_01") 2389, none, .ref 189, .none, 0⟩, #[]⟩
noncomputable def o191 (P : Params) : Obj := ⟨.type "tuple", none, .seq #[] 0, #[]⟩
noncomputable def o192 (P : Params) : Obj := ⟨.none, none, .fields #[], #[]⟩
noncomputable def o193 (P : Params) : Obj := ⟨.none, none, .func ⟨Str.ofString "_law_moduli", Str.ofString "_law_moduli", fnArgs (nth top 21), .stmts (fnBody (nth top 21)), fnScope (nth top 21), 0, [], .none, .none, .none, .none, none, .none, .none, 0⟩, #[]⟩
noncomputable def o194 (P : Params) : Obj := ⟨.type "code", none, .fields #[.str (Str.ofString "_law_moduli") 2397, .str (Str.ofString "_law_moduli") 2398, .str (Str.ofString "/claim/cut.py") 2399, .int 172 0, .int 2 0, .int 0 0, .int 0 0, .int 3 0, .ref 191, .bool true, .int 181 0, .ref 192, .none, .none, .none, .ref 193, .int 2400 0, .int 172 0, .str (Str.ofString "/claim/cut.py") 2401], #[]⟩
noncomputable def o195 (P : Params) : Obj := ⟨.type "function", none, .func ⟨Str.ofString "_law_moduli", Str.ofString "_law_moduli", fnArgs (nth top 21), .stmts (fnBody (nth top 21)), fnScope (nth top 21), 3, [], .none, .none, .none, .str (Str.ofString "law_wy0048_01") 2389, none, .ref 194, .none, 0⟩, #[]⟩
noncomputable def o196 (P : Params) : Obj := ⟨.type "tuple", none, .seq #[] 0, #[]⟩
noncomputable def o197 (P : Params) : Obj := ⟨.none, none, .fields #[], #[]⟩
noncomputable def o198 (P : Params) : Obj := ⟨.none, none, .func ⟨Str.ofString "_law_rests", Str.ofString "_law_rests", fnArgs (nth top 22), .stmts (fnBody (nth top 22)), fnScope (nth top 22), 0, [], .none, .none, .none, .none, none, .none, .none, 0⟩, #[]⟩
noncomputable def o199 (P : Params) : Obj := ⟨.type "code", none, .fields #[.str (Str.ofString "_law_rests") 2403, .str (Str.ofString "_law_rests") 2404, .str (Str.ofString "/claim/cut.py") 2405, .int 181 0, .int 3 0, .int 0 0, .int 0 0, .int 3 0, .ref 196, .bool true, .int 181 0, .ref 197, .none, .none, .none, .ref 198, .int 2406 0, .int 181 0, .str (Str.ofString "/claim/cut.py") 2407], #[]⟩
noncomputable def o200 (P : Params) : Obj := ⟨.type "function", none, .func ⟨Str.ofString "_law_rests", Str.ofString "_law_rests", fnArgs (nth top 22), .stmts (fnBody (nth top 22)), fnScope (nth top 22), 3, [], .none, .none, .none, .str (Str.ofString "law_wy0048_01") 2389, none, .ref 199, .none, 0⟩, #[]⟩
noncomputable def o201 (P : Params) : Obj := ⟨.type "tuple", none, .seq #[] 0, #[]⟩
noncomputable def o202 (P : Params) : Obj := ⟨.none, none, .fields #[], #[]⟩
noncomputable def o203 (P : Params) : Obj := ⟨.type "tuple", none, .seq #[.str (Str.ofString "entry") 2412] 0, #[]⟩
noncomputable def o204 (P : Params) : Obj := ⟨.type "tuple", none, .seq #[] 0, #[]⟩
noncomputable def o205 (P : Params) : Obj := ⟨.none, none, .func ⟨Str.ofString "_law_fields", Str.ofString "_law_fields", fnArgs (nth top 23), .stmts (fnBody (nth top 23)), fnScope (nth top 23), 0, [], .none, .none, .none, .none, none, .none, .none, 0⟩, #[]⟩
noncomputable def o206 (P : Params) : Obj := ⟨.type "code", none, .fields #[.str (Str.ofString "_law_fields") 2409, .str (Str.ofString "_law_fields") 2410, .str (Str.ofString "/claim/cut.py") 2411, .int 187 0, .int 1 0, .int 0 0, .int 0 0, .int 3 0, .ref 201, .bool true, .int 181 0, .ref 202, .none, .ref 203, .ref 204, .ref 205, .int 2413 0, .int 187 0, .str (Str.ofString "/claim/cut.py") 2414], #[]⟩
noncomputable def o207 (P : Params) : Obj := ⟨.type "function", none, .func ⟨Str.ofString "_law_fields", Str.ofString "_law_fields", fnArgs (nth top 23), .stmts (fnBody (nth top 23)), fnScope (nth top 23), 3, [], .none, .none, .none, .str (Str.ofString "law_wy0048_01") 2389, none, .ref 206, .none, 0⟩, #[]⟩
noncomputable def o208 (P : Params) : Obj := ⟨.type "tuple", none, .seq #[] 0, #[]⟩
noncomputable def o209 (P : Params) : Obj := ⟨.none, none, .fields #[], #[]⟩
noncomputable def o210 (P : Params) : Obj := ⟨.none, none, .func ⟨Str.ofString "_law_merged", Str.ofString "_law_merged", fnArgs (nth top 24), .stmts (fnBody (nth top 24)), fnScope (nth top 24), 0, [], .none, .none, .none, .none, none, .none, .none, 0⟩, #[]⟩
noncomputable def o211 (P : Params) : Obj := ⟨.type "code", none, .fields #[.str (Str.ofString "_law_merged") 2416, .str (Str.ofString "_law_merged") 2417, .str (Str.ofString "/claim/cut.py") 2418, .int 189 0, .int 4 0, .int 0 0, .int 0 0, .int 3 0, .ref 208, .bool true, .int 181 0, .ref 209, .none, .none, .none, .ref 210, .int 2419 0, .int 189 0, .str (Str.ofString "/claim/cut.py") 2420], #[]⟩
noncomputable def o212 (P : Params) : Obj := ⟨.type "function", none, .func ⟨Str.ofString "_law_merged", Str.ofString "_law_merged", fnArgs (nth top 24), .stmts (fnBody (nth top 24)), fnScope (nth top 24), 3, [], .none, .none, .none, .str (Str.ofString "law_wy0048_01") 2389, none, .ref 211, .none, 0⟩, #[]⟩
noncomputable def o213 (P : Params) : Obj := ⟨.type "tuple", none, .seq #[] 0, #[]⟩
noncomputable def o214 (P : Params) : Obj := ⟨.none, none, .fields #[], #[]⟩
noncomputable def o215 (P : Params) : Obj := ⟨.none, none, .func ⟨Str.ofString "law", Str.ofString "law", fnArgs (nth top 25), .stmts (fnBody (nth top 25)), fnScope (nth top 25), 0, [], .none, .none, .none, .none, none, .none, .none, 0⟩, #[]⟩
noncomputable def o216 (P : Params) : Obj := ⟨.type "code", none, .fields #[.str (Str.ofString "law") 2422, .str (Str.ofString "law") 2423, .str (Str.ofString "/claim/cut.py") 2424, .int 202 0, .int 1 0, .int 0 0, .int 0 0, .int 3 0, .ref 213, .bool true, .int 181 0, .ref 214, .none, .none, .none, .ref 215, .int 2425 0, .int 202 0, .str (Str.ofString "/claim/cut.py") 2426], #[]⟩
noncomputable def o217 (P : Params) : Obj := ⟨.type "function", none, .func ⟨Str.ofString "law", Str.ofString "law", fnArgs (nth top 25), .stmts (fnBody (nth top 25)), fnScope (nth top 25), 3, [], .none, .none, .none, .str (Str.ofString "law_wy0048_01") 2389, none, .ref 216, .none, 0⟩, #[]⟩
noncomputable def gA (P : Params) : Obj := ⟨.type "dict", none, .dict #[⟨PyData.keyHash P (Str.ofString "__name__"), .str (Str.ofString "__name__") 165, .str (Str.ofString "__main__") 164⟩, ⟨PyData.keyHash P (Str.ofString "__doc__"), .str (Str.ofString "__doc__") 166, .none⟩, ⟨PyData.keyHash P (Str.ofString "__package__"), .str (Str.ofString "__package__") 167, .none⟩, ⟨PyData.keyHash P (Str.ofString "__loader__"), .str (Str.ofString "__loader__") 168, .builtin "__main__.__loader__#opaque"⟩, ⟨PyData.keyHash P (Str.ofString "__spec__"), .str (Str.ofString "__spec__") 169, .none⟩, ⟨PyData.keyHash P (Str.ofString "__annotations__"), .str (Str.ofString "__annotations__") 170, .ref 6⟩, ⟨PyData.keyHash P (Str.ofString "__builtins__"), .str (Str.ofString "__builtins__") 171, .ref 4⟩, ⟨PyData.keyHash P (Str.ofString "__file__"), .str (Str.ofString "__file__") 173, .str (Str.ofString "/claim/cut.py") 172⟩, ⟨PyData.keyHash P (Str.ofString "__cached__"), .str (Str.ofString "__cached__") 174, .none⟩] 9, #[]⟩
noncomputable def cA (P : Params) : Obj := ⟨.none, none, .fields #[], #[]⟩
noncomputable def tA (P : Params) : BT := (.node (boot_o_0 P) (.node (boot_o_1 P) (.node (gA P) (.node (boot_o_7 P) .nil .nil) (.node (o11 P) .nil .nil)) (.node (boot_o_5 P) (.node (boot_o_9 P) .nil .nil) (.node (o13 P) .nil .nil))) (.node (boot_o_2 P) (.node (boot_o_4 P) (.node (boot_o_8 P) .nil .nil) (.node (cA P) .nil .nil)) (.node (boot_o_6 P) (.node (boot_o_10 P) .nil .nil) (.node (o14 P) .nil .nil))))
noncomputable def gB (P : Params) : Obj := ⟨.type "dict", none, .dict #[⟨PyData.keyHash P (Str.ofString "__name__"), .str (Str.ofString "__name__") 165, .str (Str.ofString "cpy313.stringprep") 361⟩, ⟨PyData.keyHash P (Str.ofString "__doc__"), .str (Str.ofString "__doc__") 166, .none⟩, ⟨PyData.keyHash P (Str.ofString "__package__"), .str (Str.ofString "__package__") 167, .none⟩, ⟨PyData.keyHash P (Str.ofString "__loader__"), .str (Str.ofString "__loader__") 168, .builtin "__main__.__loader__#opaque"⟩, ⟨PyData.keyHash P (Str.ofString "__spec__"), .str (Str.ofString "__spec__") 169, .none⟩, ⟨PyData.keyHash P (Str.ofString "__annotations__"), .str (Str.ofString "__annotations__") 170, .ref 6⟩, ⟨PyData.keyHash P (Str.ofString "__builtins__"), .str (Str.ofString "__builtins__") 171, .ref 4⟩, ⟨PyData.keyHash P (Str.ofString "__file__"), .str (Str.ofString "__file__") 173, .str (Str.ofString "/claim/cut.py") 172⟩, ⟨PyData.keyHash P (Str.ofString "__cached__"), .str (Str.ofString "__cached__") 174, .none⟩, ⟨PyData.keyHash P (Str.ofString "_wall"), .str (Str.ofString "_wall") 193, .ref 21⟩, ⟨PyData.keyHash P (Str.ofString "Entry"), .str (Str.ofString "Entry") 253, .ref 59⟩, ⟨PyData.keyHash P (Str.ofString "merge_entries"), .str (Str.ofString "merge_entries") 262, .ref 70⟩, ⟨PyData.keyHash P (Str.ofString "_DIV_LIMIT"), .str (Str.ofString "_DIV_LIMIT") 266, .int 4000 265⟩, ⟨PyData.keyHash P (Str.ofString "_div2n1n"), .str (Str.ofString "_div2n1n") 283, .ref 77⟩, ⟨PyData.keyHash P (Str.ofString "_div3n2n"), .str (Str.ofString "_div3n2n") 297, .ref 84⟩, ⟨PyData.keyHash P (Str.ofString "_int2digits"), .str (Str.ofString "_int2digits") 308, .ref 91⟩, ⟨PyData.keyHash P (Str.ofString "_digits2int"), .str (Str.ofString "_digits2int") 319, .ref 98⟩, ⟨PyData.keyHash P (Str.ofString "_divmod_pos"), .str (Str.ofString "_divmod_pos") 334, .ref 105⟩, ⟨PyData.keyHash P (Str.ofString "int_divmod"), .str (Str.ofString "int_divmod") 344, .ref 112⟩, ⟨PyData.keyHash P (Str.ofString "bisect_right"), .str (Str.ofString "bisect_right") 360, .ref 121⟩] 20, #[]⟩
noncomputable def cB (P : Params) : Obj := ⟨.none, none, .fields #[.int 1 0, .int 0 0, .ref 20, .int 5 0, .int 0 0, .ref 27, .int 43 0, .int 0 0, .ref 69, .int 52 0, .int 0 0, .ref 76, .int 68 0, .int 0 0, .ref 83, .int 78 0, .int 0 0, .ref 90, .int 94 0, .int 0 0, .ref 97, .int 103 0, .int 0 0, .ref 104, .int 114 0, .int 0 0, .ref 111, .int 126 0, .int 0 0, .ref 120], #[]⟩
noncomputable def tB (P : Params) : BT := (.node (boot_o_0 P) (.node (boot_o_1 P) (.node (gB P) (.node (boot_o_7 P) (.node (o15 P) (.node (o31 P) (.node (o63 P) .nil .nil) (.node (o95 P) .nil .nil)) (.node (o47 P) (.node (o79 P) .nil .nil) (.node (o111 P) .nil .nil))) (.node (o23 P) (.node (o39 P) (.node (o71 P) .nil .nil) (.node (o103 P) .nil .nil)) (.node (o55 P) (.node (o87 P) .nil .nil) (.node (o119 P) .nil .nil)))) (.node (o11 P) (.node (o19 P) (.node (o35 P) (.node (o67 P) .nil .nil) (.node (o99 P) .nil .nil)) (.node (o51 P) (.node (o83 P) .nil .nil) (.node (o115 P) .nil .nil))) (.node (o27 P) (.node (o43 P) (.node (o75 P) .nil .nil) (.node (o107 P) .nil .nil)) (.node (o59 P) (.node (o91 P) .nil .nil) .nil)))) (.node (boot_o_5 P) (.node (boot_o_9 P) (.node (o17 P) (.node (o33 P) (.node (o65 P) .nil .nil) (.node (o97 P) .nil .nil)) (.node (o49 P) (.node (o81 P) .nil .nil) (.node (o113 P) .nil .nil))) (.node (o25 P) (.node (o41 P) (.node (o73 P) .nil .nil) (.node (o105 P) .nil .nil)) (.node (o57 P) (.node (o89 P) .nil .nil) (.node (o121 P) .nil .nil)))) (.node (o13 P) (.node (o21 P) (.node (o37 P) (.node (o69 P) .nil .nil) (.node (o101 P) .nil .nil)) (.node (o53 P) (.node (o85 P) .nil .nil) (.node (o117 P) .nil .nil))) (.node (o29 P) (.node (o45 P) (.node (o77 P) .nil .nil) (.node (o109 P) .nil .nil)) (.node (o61 P) (.node (o93 P) .nil .nil) .nil))))) (.node (boot_o_2 P) (.node (boot_o_4 P) (.node (boot_o_8 P) (.node (o16 P) (.node (o32 P) (.node (o64 P) .nil .nil) (.node (o96 P) .nil .nil)) (.node (o48 P) (.node (o80 P) .nil .nil) (.node (o112 P) .nil .nil))) (.node (o24 P) (.node (o40 P) (.node (o72 P) .nil .nil) (.node (o104 P) .nil .nil)) (.node (o56 P) (.node (o88 P) .nil .nil) (.node (o120 P) .nil .nil)))) (.node (cB P) (.node (o20 P) (.node (o36 P) (.node (o68 P) .nil .nil) (.node (o100 P) .nil .nil)) (.node (o52 P) (.node (o84 P) .nil .nil) (.node (o116 P) .nil .nil))) (.node (o28 P) (.node (o44 P) (.node (o76 P) .nil .nil) (.node (o108 P) .nil .nil)) (.node (o60 P) (.node (o92 P) .nil .nil) .nil)))) (.node (boot_o_6 P) (.node (boot_o_10 P) (.node (o18 P) (.node (o34 P) (.node (o66 P) .nil .nil) (.node (o98 P) .nil .nil)) (.node (o50 P) (.node (o82 P) .nil .nil) (.node (o114 P) .nil .nil))) (.node (o26 P) (.node (o42 P) (.node (o74 P) .nil .nil) (.node (o106 P) .nil .nil)) (.node (o58 P) (.node (o90 P) .nil .nil) .nil))) (.node (o14 P) (.node (o22 P) (.node (o38 P) (.node (o70 P) .nil .nil) (.node (o102 P) .nil .nil)) (.node (o54 P) (.node (o86 P) .nil .nil) (.node (o118 P) .nil .nil))) (.node (o30 P) (.node (o46 P) (.node (o78 P) .nil .nil) (.node (o110 P) .nil .nil)) (.node (o62 P) (.node (o94 P) .nil .nil) .nil))))))
noncomputable def gC (P : Params) : Obj := ⟨.type "dict", none, .dict #[⟨PyData.keyHash P (Str.ofString "__name__"), .str (Str.ofString "__name__") 165, .str (Str.ofString "cpy313.stringprep") 361⟩, ⟨PyData.keyHash P (Str.ofString "__doc__"), .str (Str.ofString "__doc__") 166, .none⟩, ⟨PyData.keyHash P (Str.ofString "__package__"), .str (Str.ofString "__package__") 167, .none⟩, ⟨PyData.keyHash P (Str.ofString "__loader__"), .str (Str.ofString "__loader__") 168, .builtin "__main__.__loader__#opaque"⟩, ⟨PyData.keyHash P (Str.ofString "__spec__"), .str (Str.ofString "__spec__") 169, .none⟩, ⟨PyData.keyHash P (Str.ofString "__annotations__"), .str (Str.ofString "__annotations__") 170, .ref 6⟩, ⟨PyData.keyHash P (Str.ofString "__builtins__"), .str (Str.ofString "__builtins__") 171, .ref 4⟩, ⟨PyData.keyHash P (Str.ofString "__file__"), .str (Str.ofString "__file__") 173, .str (Str.ofString "/claim/cut.py") 172⟩, ⟨PyData.keyHash P (Str.ofString "__cached__"), .str (Str.ofString "__cached__") 174, .none⟩, ⟨PyData.keyHash P (Str.ofString "_wall"), .str (Str.ofString "_wall") 193, .ref 21⟩, ⟨PyData.keyHash P (Str.ofString "Entry"), .str (Str.ofString "Entry") 253, .ref 59⟩, ⟨PyData.keyHash P (Str.ofString "merge_entries"), .str (Str.ofString "merge_entries") 262, .ref 70⟩, ⟨PyData.keyHash P (Str.ofString "_DIV_LIMIT"), .str (Str.ofString "_DIV_LIMIT") 266, .int 4000 265⟩, ⟨PyData.keyHash P (Str.ofString "_div2n1n"), .str (Str.ofString "_div2n1n") 283, .ref 77⟩, ⟨PyData.keyHash P (Str.ofString "_div3n2n"), .str (Str.ofString "_div3n2n") 297, .ref 84⟩, ⟨PyData.keyHash P (Str.ofString "_int2digits"), .str (Str.ofString "_int2digits") 308, .ref 91⟩, ⟨PyData.keyHash P (Str.ofString "_digits2int"), .str (Str.ofString "_digits2int") 319, .ref 98⟩, ⟨PyData.keyHash P (Str.ofString "_divmod_pos"), .str (Str.ofString "_divmod_pos") 334, .ref 105⟩, ⟨PyData.keyHash P (Str.ofString "int_divmod"), .str (Str.ofString "int_divmod") 344, .ref 112⟩, ⟨PyData.keyHash P (Str.ofString "bisect_right"), .str (Str.ofString "bisect_right") 360, .ref 121⟩, ⟨PyData.keyHash P (Str.ofString "b1_set"), .str (Str.ofString "b1_set") 422, .ref 129⟩] 21, #[]⟩
noncomputable def cC (P : Params) : Obj := ⟨.none, none, .fields #[.int 1 0, .int 0 0, .ref 20, .int 5 0, .int 0 0, .ref 27, .int 43 0, .int 0 0, .ref 69, .int 52 0, .int 0 0, .ref 76, .int 68 0, .int 0 0, .ref 83, .int 78 0, .int 0 0, .ref 90, .int 94 0, .int 0 0, .ref 97, .int 103 0, .int 0 0, .ref 104, .int 114 0, .int 0 0, .ref 111, .int 126 0, .int 0 0, .ref 120], #[]⟩
noncomputable def tC (P : Params) : BT := (.node (boot_o_0 P) (.node (boot_o_1 P) (.node (gC P) (.node (boot_o_7 P) (.node (o15 P) (.node (o31 P) (.node (o63 P) (.node (o127 P) .nil .nil) .nil) (.node (o95 P) .nil .nil)) (.node (o47 P) (.node (o79 P) .nil .nil) (.node (o111 P) .nil .nil))) (.node (o23 P) (.node (o39 P) (.node (o71 P) .nil .nil) (.node (o103 P) .nil .nil)) (.node (o55 P) (.node (o87 P) .nil .nil) (.node (o119 P) .nil .nil)))) (.node (o11 P) (.node (o19 P) (.node (o35 P) (.node (o67 P) (.node (o131 P) .nil .nil) .nil) (.node (o99 P) .nil .nil)) (.node (o51 P) (.node (o83 P) .nil .nil) (.node (o115 P) .nil .nil))) (.node (o27 P) (.node (o43 P) (.node (o75 P) .nil .nil) (.node (o107 P) .nil .nil)) (.node (o59 P) (.node (o91 P) .nil .nil) (.node (o123 P) .nil .nil))))) (.node (boot_o_5 P) (.node (boot_o_9 P) (.node (o17 P) (.node (o33 P) (.node (o65 P) (.node (o129 P) .nil .nil) .nil) (.node (o97 P) .nil .nil)) (.node (o49 P) (.node (o81 P) .nil .nil) (.node (o113 P) .nil .nil))) (.node (o25 P) (.node (o41 P) (.node (o73 P) .nil .nil) (.node (o105 P) .nil .nil)) (.node (o57 P) (.node (o89 P) .nil .nil) (.node (o121 P) .nil .nil)))) (.node (o13 P) (.node (o21 P) (.node (o37 P) (.node (o69 P) .nil .nil) (.node (o101 P) .nil .nil)) (.node (o53 P) (.node (o85 P) .nil .nil) (.node (o117 P) .nil .nil))) (.node (o29 P) (.node (o45 P) (.node (o77 P) .nil .nil) (.node (o109 P) .nil .nil)) (.node (o61 P) (.node (o93 P) .nil .nil) (.node (o125 P) .nil .nil)))))) (.node (boot_o_2 P) (.node (boot_o_4 P) (.node (boot_o_8 P) (.node (o16 P) (.node (o32 P) (.node (o64 P) (.node (o128 P) .nil .nil) .nil) (.node (o96 P) .nil .nil)) (.node (o48 P) (.node (o80 P) .nil .nil) (.node (o112 P) .nil .nil))) (.node (o24 P) (.node (o40 P) (.node (o72 P) .nil .nil) (.node (o104 P) .nil .nil)) (.node (o56 P) (.node (o88 P) .nil .nil) (.node (o120 P) .nil .nil)))) (.node (cC P) (.node (o20 P) (.node (o36 P) (.node (o68 P) (.node (o132 P) .nil .nil) .nil) (.node (o100 P) .nil .nil)) (.node (o52 P) (.node (o84 P) .nil .nil) (.node (o116 P) .nil .nil))) (.node (o28 P) (.node (o44 P) (.node (o76 P) .nil .nil) (.node (o108 P) .nil .nil)) (.node (o60 P) (.node (o92 P) .nil .nil) (.node (o124 P) .nil .nil))))) (.node (boot_o_6 P) (.node (boot_o_10 P) (.node (o18 P) (.node (o34 P) (.node (o66 P) (.node (o130 P) .nil .nil) .nil) (.node (o98 P) .nil .nil)) (.node (o50 P) (.node (o82 P) .nil .nil) (.node (o114 P) .nil .nil))) (.node (o26 P) (.node (o42 P) (.node (o74 P) .nil .nil) (.node (o106 P) .nil .nil)) (.node (o58 P) (.node (o90 P) .nil .nil) (.node (o122 P) .nil .nil)))) (.node (o14 P) (.node (o22 P) (.node (o38 P) (.node (o70 P) .nil .nil) (.node (o102 P) .nil .nil)) (.node (o54 P) (.node (o86 P) .nil .nil) (.node (o118 P) .nil .nil))) (.node (o30 P) (.node (o46 P) (.node (o78 P) .nil .nil) (.node (o110 P) .nil .nil)) (.node (o62 P) (.node (o94 P) .nil .nil) (.node (o126 P) .nil .nil)))))))
noncomputable def gD (P : Params) : Obj := ⟨.type "dict", none, .dict #[⟨PyData.keyHash P (Str.ofString "__name__"), .str (Str.ofString "__name__") 165, .str (Str.ofString "cpy313.stringprep") 361⟩, ⟨PyData.keyHash P (Str.ofString "__doc__"), .str (Str.ofString "__doc__") 166, .none⟩, ⟨PyData.keyHash P (Str.ofString "__package__"), .str (Str.ofString "__package__") 167, .none⟩, ⟨PyData.keyHash P (Str.ofString "__loader__"), .str (Str.ofString "__loader__") 168, .builtin "__main__.__loader__#opaque"⟩, ⟨PyData.keyHash P (Str.ofString "__spec__"), .str (Str.ofString "__spec__") 169, .none⟩, ⟨PyData.keyHash P (Str.ofString "__annotations__"), .str (Str.ofString "__annotations__") 170, .ref 6⟩, ⟨PyData.keyHash P (Str.ofString "__builtins__"), .str (Str.ofString "__builtins__") 171, .ref 4⟩, ⟨PyData.keyHash P (Str.ofString "__file__"), .str (Str.ofString "__file__") 173, .str (Str.ofString "/claim/cut.py") 172⟩, ⟨PyData.keyHash P (Str.ofString "__cached__"), .str (Str.ofString "__cached__") 174, .none⟩, ⟨PyData.keyHash P (Str.ofString "_wall"), .str (Str.ofString "_wall") 193, .ref 21⟩, ⟨PyData.keyHash P (Str.ofString "Entry"), .str (Str.ofString "Entry") 253, .ref 59⟩, ⟨PyData.keyHash P (Str.ofString "merge_entries"), .str (Str.ofString "merge_entries") 262, .ref 70⟩, ⟨PyData.keyHash P (Str.ofString "_DIV_LIMIT"), .str (Str.ofString "_DIV_LIMIT") 266, .int 4000 265⟩, ⟨PyData.keyHash P (Str.ofString "_div2n1n"), .str (Str.ofString "_div2n1n") 283, .ref 77⟩, ⟨PyData.keyHash P (Str.ofString "_div3n2n"), .str (Str.ofString "_div3n2n") 297, .ref 84⟩, ⟨PyData.keyHash P (Str.ofString "_int2digits"), .str (Str.ofString "_int2digits") 308, .ref 91⟩, ⟨PyData.keyHash P (Str.ofString "_digits2int"), .str (Str.ofString "_digits2int") 319, .ref 98⟩, ⟨PyData.keyHash P (Str.ofString "_divmod_pos"), .str (Str.ofString "_divmod_pos") 334, .ref 105⟩, ⟨PyData.keyHash P (Str.ofString "int_divmod"), .str (Str.ofString "int_divmod") 344, .ref 112⟩, ⟨PyData.keyHash P (Str.ofString "bisect_right"), .str (Str.ofString "bisect_right") 360, .ref 121⟩, ⟨PyData.keyHash P (Str.ofString "b1_set"), .str (Str.ofString "b1_set") 422, .ref 129⟩, ⟨PyData.keyHash P (Str.ofString "in_table_b1"), .str (Str.ofString "in_table_b1") 429, .ref 139⟩] 22, #[]⟩
noncomputable def cD (P : Params) : Obj := ⟨.none, none, .fields #[.int 1 0, .int 0 0, .ref 20, .int 5 0, .int 0 0, .ref 27, .int 43 0, .int 0 0, .ref 69, .int 52 0, .int 0 0, .ref 76, .int 68 0, .int 0 0, .ref 83, .int 78 0, .int 0 0, .ref 90, .int 94 0, .int 0 0, .ref 97, .int 103 0, .int 0 0, .ref 104, .int 114 0, .int 0 0, .ref 111, .int 126 0, .int 0 0, .ref 120, .int 148 0, .int 0 0, .ref 138], #[]⟩
noncomputable def tD (P : Params) : BT := (.node (boot_o_0 P) (.node (boot_o_1 P) (.node (gD P) (.node (boot_o_7 P) (.node (o15 P) (.node (o31 P) (.node (o63 P) (.node (o127 P) .nil .nil) .nil) (.node (o95 P) .nil .nil)) (.node (o47 P) (.node (o79 P) .nil .nil) (.node (o111 P) .nil .nil))) (.node (o23 P) (.node (o39 P) (.node (o71 P) (.node (o135 P) .nil .nil) .nil) (.node (o103 P) .nil .nil)) (.node (o55 P) (.node (o87 P) .nil .nil) (.node (o119 P) .nil .nil)))) (.node (o11 P) (.node (o19 P) (.node (o35 P) (.node (o67 P) (.node (o131 P) .nil .nil) .nil) (.node (o99 P) .nil .nil)) (.node (o51 P) (.node (o83 P) .nil .nil) (.node (o115 P) .nil .nil))) (.node (o27 P) (.node (o43 P) (.node (o75 P) (.node (o139 P) .nil .nil) .nil) (.node (o107 P) .nil .nil)) (.node (o59 P) (.node (o91 P) .nil .nil) (.node (o123 P) .nil .nil))))) (.node (boot_o_5 P) (.node (boot_o_9 P) (.node (o17 P) (.node (o33 P) (.node (o65 P) (.node (o129 P) .nil .nil) .nil) (.node (o97 P) .nil .nil)) (.node (o49 P) (.node (o81 P) .nil .nil) (.node (o113 P) .nil .nil))) (.node (o25 P) (.node (o41 P) (.node (o73 P) (.node (o137 P) .nil .nil) .nil) (.node (o105 P) .nil .nil)) (.node (o57 P) (.node (o89 P) .nil .nil) (.node (o121 P) .nil .nil)))) (.node (o13 P) (.node (o21 P) (.node (o37 P) (.node (o69 P) (.node (o133 P) .nil .nil) .nil) (.node (o101 P) .nil .nil)) (.node (o53 P) (.node (o85 P) .nil .nil) (.node (o117 P) .nil .nil))) (.node (o29 P) (.node (o45 P) (.node (o77 P) .nil .nil) (.node (o109 P) .nil .nil)) (.node (o61 P) (.node (o93 P) .nil .nil) (.node (o125 P) .nil .nil)))))) (.node (boot_o_2 P) (.node (boot_o_4 P) (.node (boot_o_8 P) (.node (o16 P) (.node (o32 P) (.node (o64 P) (.node (o128 P) .nil .nil) .nil) (.node (o96 P) .nil .nil)) (.node (o48 P) (.node (o80 P) .nil .nil) (.node (o112 P) .nil .nil))) (.node (o24 P) (.node (o40 P) (.node (o72 P) (.node (o136 P) .nil .nil) .nil) (.node (o104 P) .nil .nil)) (.node (o56 P) (.node (o88 P) .nil .nil) (.node (o120 P) .nil .nil)))) (.node (cD P) (.node (o20 P) (.node (o36 P) (.node (o68 P) (.node (o132 P) .nil .nil) .nil) (.node (o100 P) .nil .nil)) (.node (o52 P) (.node (o84 P) .nil .nil) (.node (o116 P) .nil .nil))) (.node (o28 P) (.node (o44 P) (.node (o76 P) .nil .nil) (.node (o108 P) .nil .nil)) (.node (o60 P) (.node (o92 P) .nil .nil) (.node (o124 P) .nil .nil))))) (.node (boot_o_6 P) (.node (boot_o_10 P) (.node (o18 P) (.node (o34 P) (.node (o66 P) (.node (o130 P) .nil .nil) .nil) (.node (o98 P) .nil .nil)) (.node (o50 P) (.node (o82 P) .nil .nil) (.node (o114 P) .nil .nil))) (.node (o26 P) (.node (o42 P) (.node (o74 P) (.node (o138 P) .nil .nil) .nil) (.node (o106 P) .nil .nil)) (.node (o58 P) (.node (o90 P) .nil .nil) (.node (o122 P) .nil .nil)))) (.node (o14 P) (.node (o22 P) (.node (o38 P) (.node (o70 P) (.node (o134 P) .nil .nil) .nil) (.node (o102 P) .nil .nil)) (.node (o54 P) (.node (o86 P) .nil .nil) (.node (o118 P) .nil .nil))) (.node (o30 P) (.node (o46 P) (.node (o78 P) .nil .nil) (.node (o110 P) .nil .nil)) (.node (o62 P) (.node (o94 P) .nil .nil) (.node (o126 P) .nil .nil)))))))
noncomputable def gE (P : Params) : Obj := ⟨.type "dict", none, .dict #[⟨PyData.keyHash P (Str.ofString "__name__"), .str (Str.ofString "__name__") 165, .str (Str.ofString "cpy313.stringprep") 361⟩, ⟨PyData.keyHash P (Str.ofString "__doc__"), .str (Str.ofString "__doc__") 166, .none⟩, ⟨PyData.keyHash P (Str.ofString "__package__"), .str (Str.ofString "__package__") 167, .none⟩, ⟨PyData.keyHash P (Str.ofString "__loader__"), .str (Str.ofString "__loader__") 168, .builtin "__main__.__loader__#opaque"⟩, ⟨PyData.keyHash P (Str.ofString "__spec__"), .str (Str.ofString "__spec__") 169, .none⟩, ⟨PyData.keyHash P (Str.ofString "__annotations__"), .str (Str.ofString "__annotations__") 170, .ref 6⟩, ⟨PyData.keyHash P (Str.ofString "__builtins__"), .str (Str.ofString "__builtins__") 171, .ref 4⟩, ⟨PyData.keyHash P (Str.ofString "__file__"), .str (Str.ofString "__file__") 173, .str (Str.ofString "/claim/cut.py") 172⟩, ⟨PyData.keyHash P (Str.ofString "__cached__"), .str (Str.ofString "__cached__") 174, .none⟩, ⟨PyData.keyHash P (Str.ofString "_wall"), .str (Str.ofString "_wall") 193, .ref 21⟩, ⟨PyData.keyHash P (Str.ofString "Entry"), .str (Str.ofString "Entry") 253, .ref 59⟩, ⟨PyData.keyHash P (Str.ofString "merge_entries"), .str (Str.ofString "merge_entries") 262, .ref 70⟩, ⟨PyData.keyHash P (Str.ofString "_DIV_LIMIT"), .str (Str.ofString "_DIV_LIMIT") 266, .int 4000 265⟩, ⟨PyData.keyHash P (Str.ofString "_div2n1n"), .str (Str.ofString "_div2n1n") 283, .ref 77⟩, ⟨PyData.keyHash P (Str.ofString "_div3n2n"), .str (Str.ofString "_div3n2n") 297, .ref 84⟩, ⟨PyData.keyHash P (Str.ofString "_int2digits"), .str (Str.ofString "_int2digits") 308, .ref 91⟩, ⟨PyData.keyHash P (Str.ofString "_digits2int"), .str (Str.ofString "_digits2int") 319, .ref 98⟩, ⟨PyData.keyHash P (Str.ofString "_divmod_pos"), .str (Str.ofString "_divmod_pos") 334, .ref 105⟩, ⟨PyData.keyHash P (Str.ofString "int_divmod"), .str (Str.ofString "int_divmod") 344, .ref 112⟩, ⟨PyData.keyHash P (Str.ofString "bisect_right"), .str (Str.ofString "bisect_right") 360, .ref 121⟩, ⟨PyData.keyHash P (Str.ofString "b1_set"), .str (Str.ofString "b1_set") 422, .ref 129⟩, ⟨PyData.keyHash P (Str.ofString "in_table_b1"), .str (Str.ofString "in_table_b1") 429, .ref 139⟩, ⟨PyData.keyHash P (Str.ofString "b3_exceptions"), .str (Str.ofString "b3_exceptions") 2380, .ref 140⟩] 23, #[]⟩
noncomputable def cE (P : Params) : Obj := ⟨.none, none, .fields #[.int 1 0, .int 0 0, .ref 20, .int 5 0, .int 0 0, .ref 27, .int 43 0, .int 0 0, .ref 69, .int 52 0, .int 0 0, .ref 76, .int 68 0, .int 0 0, .ref 83, .int 78 0, .int 0 0, .ref 90, .int 94 0, .int 0 0, .ref 97, .int 103 0, .int 0 0, .ref 104, .int 114 0, .int 0 0, .ref 111, .int 126 0, .int 0 0, .ref 120, .int 148 0, .int 0 0, .ref 138], #[]⟩
noncomputable def tE (P : Params) : BT := (.node (boot_o_0 P) (.node (boot_o_1 P) (.node (gE P) (.node (boot_o_7 P) (.node (o15 P) (.node (o31 P) (.node (o63 P) (.node (o127 P) .nil .nil) .nil) (.node (o95 P) (.node (o159 P) .nil .nil) .nil)) (.node (o47 P) (.node (o79 P) (.node (o143 P) .nil .nil) .nil) (.node (o111 P) (.node (o175 P) .nil .nil) .nil))) (.node (o23 P) (.node (o39 P) (.node (o71 P) (.node (o135 P) .nil .nil) .nil) (.node (o103 P) (.node (o167 P) .nil .nil) .nil)) (.node (o55 P) (.node (o87 P) (.node (o151 P) .nil .nil) .nil) (.node (o119 P) .nil .nil)))) (.node (o11 P) (.node (o19 P) (.node (o35 P) (.node (o67 P) (.node (o131 P) .nil .nil) .nil) (.node (o99 P) (.node (o163 P) .nil .nil) .nil)) (.node (o51 P) (.node (o83 P) (.node (o147 P) .nil .nil) .nil) (.node (o115 P) .nil .nil))) (.node (o27 P) (.node (o43 P) (.node (o75 P) (.node (o139 P) .nil .nil) .nil) (.node (o107 P) (.node (o171 P) .nil .nil) .nil)) (.node (o59 P) (.node (o91 P) (.node (o155 P) .nil .nil) .nil) (.node (o123 P) .nil .nil))))) (.node (boot_o_5 P) (.node (boot_o_9 P) (.node (o17 P) (.node (o33 P) (.node (o65 P) (.node (o129 P) .nil .nil) .nil) (.node (o97 P) (.node (o161 P) .nil .nil) .nil)) (.node (o49 P) (.node (o81 P) (.node (o145 P) .nil .nil) .nil) (.node (o113 P) (.node (o177 P) .nil .nil) .nil))) (.node (o25 P) (.node (o41 P) (.node (o73 P) (.node (o137 P) .nil .nil) .nil) (.node (o105 P) (.node (o169 P) .nil .nil) .nil)) (.node (o57 P) (.node (o89 P) (.node (o153 P) .nil .nil) .nil) (.node (o121 P) .nil .nil)))) (.node (o13 P) (.node (o21 P) (.node (o37 P) (.node (o69 P) (.node (o133 P) .nil .nil) .nil) (.node (o101 P) (.node (o165 P) .nil .nil) .nil)) (.node (o53 P) (.node (o85 P) (.node (o149 P) .nil .nil) .nil) (.node (o117 P) .nil .nil))) (.node (o29 P) (.node (o45 P) (.node (o77 P) (.node (o141 P) .nil .nil) .nil) (.node (o109 P) (.node (o173 P) .nil .nil) .nil)) (.node (o61 P) (.node (o93 P) (.node (o157 P) .nil .nil) .nil) (.node (o125 P) .nil .nil)))))) (.node (boot_o_2 P) (.node (boot_o_4 P) (.node (boot_o_8 P) (.node (o16 P) (.node (o32 P) (.node (o64 P) (.node (o128 P) .nil .nil) .nil) (.node (o96 P) (.node (o160 P) .nil .nil) .nil)) (.node (o48 P) (.node (o80 P) (.node (o144 P) .nil .nil) .nil) (.node (o112 P) (.node (o176 P) .nil .nil) .nil))) (.node (o24 P) (.node (o40 P) (.node (o72 P) (.node (o136 P) .nil .nil) .nil) (.node (o104 P) (.node (o168 P) .nil .nil) .nil)) (.node (o56 P) (.node (o88 P) (.node (o152 P) .nil .nil) .nil) (.node (o120 P) .nil .nil)))) (.node (cE P) (.node (o20 P) (.node (o36 P) (.node (o68 P) (.node (o132 P) .nil .nil) .nil) (.node (o100 P) (.node (o164 P) .nil .nil) .nil)) (.node (o52 P) (.node (o84 P) (.node (o148 P) .nil .nil) .nil) (.node (o116 P) .nil .nil))) (.node (o28 P) (.node (o44 P) (.node (o76 P) (.node (o140 P) .nil .nil) .nil) (.node (o108 P) (.node (o172 P) .nil .nil) .nil)) (.node (o60 P) (.node (o92 P) (.node (o156 P) .nil .nil) .nil) (.node (o124 P) .nil .nil))))) (.node (boot_o_6 P) (.node (boot_o_10 P) (.node (o18 P) (.node (o34 P) (.node (o66 P) (.node (o130 P) .nil .nil) .nil) (.node (o98 P) (.node (o162 P) .nil .nil) .nil)) (.node (o50 P) (.node (o82 P) (.node (o146 P) .nil .nil) .nil) (.node (o114 P) (.node (o178 P) .nil .nil) .nil))) (.node (o26 P) (.node (o42 P) (.node (o74 P) (.node (o138 P) .nil .nil) .nil) (.node (o106 P) (.node (o170 P) .nil .nil) .nil)) (.node (o58 P) (.node (o90 P) (.node (o154 P) .nil .nil) .nil) (.node (o122 P) .nil .nil)))) (.node (o14 P) (.node (o22 P) (.node (o38 P) (.node (o70 P) (.node (o134 P) .nil .nil) .nil) (.node (o102 P) (.node (o166 P) .nil .nil) .nil)) (.node (o54 P) (.node (o86 P) (.node (o150 P) .nil .nil) .nil) (.node (o118 P) .nil .nil))) (.node (o30 P) (.node (o46 P) (.node (o78 P) (.node (o142 P) .nil .nil) .nil) (.node (o110 P) (.node (o174 P) .nil .nil) .nil)) (.node (o62 P) (.node (o94 P) (.node (o158 P) .nil .nil) .nil) (.node (o126 P) .nil .nil)))))))
noncomputable def gF (P : Params) : Obj := ⟨.type "dict", none, .dict #[⟨PyData.keyHash P (Str.ofString "__name__"), .str (Str.ofString "__name__") 165, .str (Str.ofString "law_wy0048_01") 2389⟩, ⟨PyData.keyHash P (Str.ofString "__doc__"), .str (Str.ofString "__doc__") 166, .none⟩, ⟨PyData.keyHash P (Str.ofString "__package__"), .str (Str.ofString "__package__") 167, .none⟩, ⟨PyData.keyHash P (Str.ofString "__loader__"), .str (Str.ofString "__loader__") 168, .builtin "__main__.__loader__#opaque"⟩, ⟨PyData.keyHash P (Str.ofString "__spec__"), .str (Str.ofString "__spec__") 169, .none⟩, ⟨PyData.keyHash P (Str.ofString "__annotations__"), .str (Str.ofString "__annotations__") 170, .ref 6⟩, ⟨PyData.keyHash P (Str.ofString "__builtins__"), .str (Str.ofString "__builtins__") 171, .ref 4⟩, ⟨PyData.keyHash P (Str.ofString "__file__"), .str (Str.ofString "__file__") 173, .str (Str.ofString "/claim/cut.py") 172⟩, ⟨PyData.keyHash P (Str.ofString "__cached__"), .str (Str.ofString "__cached__") 174, .none⟩, ⟨PyData.keyHash P (Str.ofString "_wall"), .str (Str.ofString "_wall") 193, .ref 21⟩, ⟨PyData.keyHash P (Str.ofString "Entry"), .str (Str.ofString "Entry") 253, .ref 59⟩, ⟨PyData.keyHash P (Str.ofString "merge_entries"), .str (Str.ofString "merge_entries") 262, .ref 70⟩, ⟨PyData.keyHash P (Str.ofString "_DIV_LIMIT"), .str (Str.ofString "_DIV_LIMIT") 266, .int 4000 265⟩, ⟨PyData.keyHash P (Str.ofString "_div2n1n"), .str (Str.ofString "_div2n1n") 283, .ref 77⟩, ⟨PyData.keyHash P (Str.ofString "_div3n2n"), .str (Str.ofString "_div3n2n") 297, .ref 84⟩, ⟨PyData.keyHash P (Str.ofString "_int2digits"), .str (Str.ofString "_int2digits") 308, .ref 91⟩, ⟨PyData.keyHash P (Str.ofString "_digits2int"), .str (Str.ofString "_digits2int") 319, .ref 98⟩, ⟨PyData.keyHash P (Str.ofString "_divmod_pos"), .str (Str.ofString "_divmod_pos") 334, .ref 105⟩, ⟨PyData.keyHash P (Str.ofString "int_divmod"), .str (Str.ofString "int_divmod") 344, .ref 112⟩, ⟨PyData.keyHash P (Str.ofString "bisect_right"), .str (Str.ofString "bisect_right") 360, .ref 121⟩, ⟨PyData.keyHash P (Str.ofString "b1_set"), .str (Str.ofString "b1_set") 422, .ref 129⟩, ⟨PyData.keyHash P (Str.ofString "in_table_b1"), .str (Str.ofString "in_table_b1") 429, .ref 139⟩, ⟨PyData.keyHash P (Str.ofString "b3_exceptions"), .str (Str.ofString "b3_exceptions") 2380, .ref 140⟩, ⟨PyData.keyHash P (Str.ofString "map_table_b3"), .str (Str.ofString "map_table_b3") 2388, .ref 185⟩, ⟨PyData.keyHash P (Str.ofString "_law_front"), .str (Str.ofString "_law_front") 2396, .ref 190⟩, ⟨PyData.keyHash P (Str.ofString "_law_moduli"), .str (Str.ofString "_law_moduli") 2402, .ref 195⟩, ⟨PyData.keyHash P (Str.ofString "_law_rests"), .str (Str.ofString "_law_rests") 2408, .ref 200⟩, ⟨PyData.keyHash P (Str.ofString "_law_fields"), .str (Str.ofString "_law_fields") 2415, .ref 207⟩, ⟨PyData.keyHash P (Str.ofString "_law_merged"), .str (Str.ofString "_law_merged") 2421, .ref 212⟩, ⟨PyData.keyHash P (Str.ofString "law"), .str (Str.ofString "law") 2427, .ref 217⟩] 30, #[]⟩
noncomputable def cF (P : Params) : Obj := ⟨.none, none, .fields #[.int 1 0, .int 0 0, .ref 20, .int 5 0, .int 0 0, .ref 27, .int 43 0, .int 0 0, .ref 69, .int 52 0, .int 0 0, .ref 76, .int 68 0, .int 0 0, .ref 83, .int 78 0, .int 0 0, .ref 90, .int 94 0, .int 0 0, .ref 97, .int 103 0, .int 0 0, .ref 104, .int 114 0, .int 0 0, .ref 111, .int 126 0, .int 0 0, .ref 120, .int 148 0, .int 0 0, .ref 138, .int 151 0, .int 0 0, .ref 184, .int 157 0, .int 0 0, .ref 189, .int 172 0, .int 0 0, .ref 194, .int 181 0, .int 0 0, .ref 199, .int 187 0, .int 0 0, .ref 206, .int 189 0, .int 0 0, .ref 211, .int 202 0, .int 0 0, .ref 216], #[]⟩
noncomputable def tF (P : Params) : BT := (.node (boot_o_0 P) (.node (boot_o_1 P) (.node (gF P) (.node (boot_o_7 P) (.node (o15 P) (.node (o31 P) (.node (o63 P) (.node (o127 P) .nil .nil) (.node (o191 P) .nil .nil)) (.node (o95 P) (.node (o159 P) .nil .nil) .nil)) (.node (o47 P) (.node (o79 P) (.node (o143 P) .nil .nil) (.node (o207 P) .nil .nil)) (.node (o111 P) (.node (o175 P) .nil .nil) .nil))) (.node (o23 P) (.node (o39 P) (.node (o71 P) (.node (o135 P) .nil .nil) (.node (o199 P) .nil .nil)) (.node (o103 P) (.node (o167 P) .nil .nil) .nil)) (.node (o55 P) (.node (o87 P) (.node (o151 P) .nil .nil) (.node (o215 P) .nil .nil)) (.node (o119 P) (.node (o183 P) .nil .nil) .nil)))) (.node (o11 P) (.node (o19 P) (.node (o35 P) (.node (o67 P) (.node (o131 P) .nil .nil) (.node (o195 P) .nil .nil)) (.node (o99 P) (.node (o163 P) .nil .nil) .nil)) (.node (o51 P) (.node (o83 P) (.node (o147 P) .nil .nil) (.node (o211 P) .nil .nil)) (.node (o115 P) (.node (o179 P) .nil .nil) .nil))) (.node (o27 P) (.node (o43 P) (.node (o75 P) (.node (o139 P) .nil .nil) (.node (o203 P) .nil .nil)) (.node (o107 P) (.node (o171 P) .nil .nil) .nil)) (.node (o59 P) (.node (o91 P) (.node (o155 P) .nil .nil) .nil) (.node (o123 P) (.node (o187 P) .nil .nil) .nil))))) (.node (boot_o_5 P) (.node (boot_o_9 P) (.node (o17 P) (.node (o33 P) (.node (o65 P) (.node (o129 P) .nil .nil) (.node (o193 P) .nil .nil)) (.node (o97 P) (.node (o161 P) .nil .nil) .nil)) (.node (o49 P) (.node (o81 P) (.node (o145 P) .nil .nil) (.node (o209 P) .nil .nil)) (.node (o113 P) (.node (o177 P) .nil .nil) .nil))) (.node (o25 P) (.node (o41 P) (.node (o73 P) (.node (o137 P) .nil .nil) (.node (o201 P) .nil .nil)) (.node (o105 P) (.node (o169 P) .nil .nil) .nil)) (.node (o57 P) (.node (o89 P) (.node (o153 P) .nil .nil) (.node (o217 P) .nil .nil)) (.node (o121 P) (.node (o185 P) .nil .nil) .nil)))) (.node (o13 P) (.node (o21 P) (.node (o37 P) (.node (o69 P) (.node (o133 P) .nil .nil) (.node (o197 P) .nil .nil)) (.node (o101 P) (.node (o165 P) .nil .nil) .nil)) (.node (o53 P) (.node (o85 P) (.node (o149 P) .nil .nil) (.node (o213 P) .nil .nil)) (.node (o117 P) (.node (o181 P) .nil .nil) .nil))) (.node (o29 P) (.node (o45 P) (.node (o77 P) (.node (o141 P) .nil .nil) (.node (o205 P) .nil .nil)) (.node (o109 P) (.node (o173 P) .nil .nil) .nil)) (.node (o61 P) (.node (o93 P) (.node (o157 P) .nil .nil) .nil) (.node (o125 P) (.node (o189 P) .nil .nil) .nil)))))) (.node (boot_o_2 P) (.node (boot_o_4 P) (.node (boot_o_8 P) (.node (o16 P) (.node (o32 P) (.node (o64 P) (.node (o128 P) .nil .nil) (.node (o192 P) .nil .nil)) (.node (o96 P) (.node (o160 P) .nil .nil) .nil)) (.node (o48 P) (.node (o80 P) (.node (o144 P) .nil .nil) (.node (o208 P) .nil .nil)) (.node (o112 P) (.node (o176 P) .nil .nil) .nil))) (.node (o24 P) (.node (o40 P) (.node (o72 P) (.node (o136 P) .nil .nil) (.node (o200 P) .nil .nil)) (.node (o104 P) (.node (o168 P) .nil .nil) .nil)) (.node (o56 P) (.node (o88 P) (.node (o152 P) .nil .nil) (.node (o216 P) .nil .nil)) (.node (o120 P) (.node (o184 P) .nil .nil) .nil)))) (.node (cF P) (.node (o20 P) (.node (o36 P) (.node (o68 P) (.node (o132 P) .nil .nil) (.node (o196 P) .nil .nil)) (.node (o100 P) (.node (o164 P) .nil .nil) .nil)) (.node (o52 P) (.node (o84 P) (.node (o148 P) .nil .nil) (.node (o212 P) .nil .nil)) (.node (o116 P) (.node (o180 P) .nil .nil) .nil))) (.node (o28 P) (.node (o44 P) (.node (o76 P) (.node (o140 P) .nil .nil) (.node (o204 P) .nil .nil)) (.node (o108 P) (.node (o172 P) .nil .nil) .nil)) (.node (o60 P) (.node (o92 P) (.node (o156 P) .nil .nil) .nil) (.node (o124 P) (.node (o188 P) .nil .nil) .nil))))) (.node (boot_o_6 P) (.node (boot_o_10 P) (.node (o18 P) (.node (o34 P) (.node (o66 P) (.node (o130 P) .nil .nil) (.node (o194 P) .nil .nil)) (.node (o98 P) (.node (o162 P) .nil .nil) .nil)) (.node (o50 P) (.node (o82 P) (.node (o146 P) .nil .nil) (.node (o210 P) .nil .nil)) (.node (o114 P) (.node (o178 P) .nil .nil) .nil))) (.node (o26 P) (.node (o42 P) (.node (o74 P) (.node (o138 P) .nil .nil) (.node (o202 P) .nil .nil)) (.node (o106 P) (.node (o170 P) .nil .nil) .nil)) (.node (o58 P) (.node (o90 P) (.node (o154 P) .nil .nil) .nil) (.node (o122 P) (.node (o186 P) .nil .nil) .nil)))) (.node (o14 P) (.node (o22 P) (.node (o38 P) (.node (o70 P) (.node (o134 P) .nil .nil) (.node (o198 P) .nil .nil)) (.node (o102 P) (.node (o166 P) .nil .nil) .nil)) (.node (o54 P) (.node (o86 P) (.node (o150 P) .nil .nil) (.node (o214 P) .nil .nil)) (.node (o118 P) (.node (o182 P) .nil .nil) .nil))) (.node (o30 P) (.node (o46 P) (.node (o78 P) (.node (o142 P) .nil .nil) (.node (o206 P) .nil .nil)) (.node (o110 P) (.node (o174 P) .nil .nil) .nil)) (.node (o62 P) (.node (o94 P) (.node (o158 P) .nil .nil) .nil) (.node (o126 P) (.node (o190 P) .nil .nil) .nil)))))))
noncomputable def K : Params → Frag := fun P => (nat_lit 2, boot_o_2 P) :: (nat_lit 3, gF P) :: (nat_lit 15, o15 P) :: (nat_lit 17, o17 P) :: (nat_lit 18, o18 P) :: (nat_lit 20, o20 P) :: (nat_lit 21, o21 P) :: (nat_lit 29, o29 P) :: (nat_lit 31, o31 P) :: (nat_lit 32, o32 P) :: (nat_lit 34, o34 P) :: (nat_lit 35, o35 P) :: (nat_lit 36, o36 P) :: (nat_lit 38, o38 P) :: (nat_lit 39, o39 P) :: (nat_lit 41, o41 P) :: (nat_lit 42, o42 P) :: (nat_lit 43, o43 P) :: (nat_lit 45, o45 P) :: (nat_lit 46, o46 P) :: (nat_lit 48, o48 P) :: (nat_lit 49, o49 P) :: (nat_lit 50, o50 P) :: (nat_lit 52, o52 P) :: (nat_lit 53, o53 P) :: (nat_lit 55, o55 P) :: (nat_lit 56, o56 P) :: (nat_lit 57, o57 P) :: (nat_lit 58, o58 P) :: (nat_lit 59, o59 P) :: (nat_lit 60, o60 P) :: (nat_lit 61, o61 P) :: (nat_lit 64, o64 P) :: (nat_lit 66, o66 P) :: (nat_lit 67, o67 P) :: (nat_lit 69, o69 P) :: (nat_lit 70, o70 P) :: (nat_lit 71, o71 P) :: (nat_lit 73, o73 P) :: (nat_lit 74, o74 P) :: (nat_lit 76, o76 P) :: (nat_lit 77, o77 P) :: (nat_lit 78, o78 P) :: (nat_lit 80, o80 P) :: (nat_lit 81, o81 P) :: (nat_lit 83, o83 P) :: (nat_lit 84, o84 P) :: (nat_lit 85, o85 P) :: (nat_lit 87, o87 P) :: (nat_lit 88, o88 P) :: (nat_lit 90, o90 P) :: (nat_lit 91, o91 P) :: (nat_lit 92, o92 P) :: (nat_lit 94, o94 P) :: (nat_lit 95, o95 P) :: (nat_lit 97, o97 P) :: (nat_lit 98, o98 P) :: (nat_lit 99, o99 P) :: (nat_lit 101, o101 P) :: (nat_lit 102, o102 P) :: (nat_lit 104, o104 P) :: (nat_lit 105, o105 P) :: (nat_lit 106, o106 P) :: (nat_lit 108, o108 P) :: (nat_lit 109, o109 P) :: (nat_lit 111, o111 P) :: (nat_lit 112, o112 P) :: (nat_lit 113, o113 P) :: (nat_lit 114, o114 P) :: (nat_lit 115, o115 P) :: (nat_lit 117, o117 P) :: (nat_lit 118, o118 P) :: (nat_lit 120, o120 P) :: (nat_lit 121, o121 P) :: (nat_lit 129, o129 P) :: (nat_lit 133, o133 P) :: (nat_lit 135, o135 P) :: (nat_lit 136, o136 P) :: (nat_lit 138, o138 P) :: (nat_lit 139, o139 P) :: (nat_lit 140, o140 P) :: (nat_lit 179, o179 P) :: (nat_lit 181, o181 P) :: (nat_lit 182, o182 P) :: (nat_lit 184, o184 P) :: (nat_lit 185, o185 P) :: (nat_lit 186, o186 P) :: (nat_lit 189, o189 P) :: (nat_lit 190, o190 P) :: (nat_lit 191, o191 P) :: (nat_lit 194, o194 P) :: (nat_lit 195, o195 P) :: (nat_lit 196, o196 P) :: (nat_lit 199, o199 P) :: (nat_lit 200, o200 P) :: (nat_lit 201, o201 P) :: (nat_lit 203, o203 P) :: (nat_lit 204, o204 P) :: (nat_lit 206, o206 P) :: (nat_lit 207, o207 P) :: (nat_lit 208, o208 P) :: (nat_lit 211, o211 P) :: (nat_lit 212, o212 P) :: (nat_lit 213, o213 P) :: (nat_lit 216, o216 P) :: (nat_lit 217, o217 P) :: []
noncomputable def as : List Nat := nat_lit 2 :: nat_lit 3 :: nat_lit 15 :: nat_lit 17 :: nat_lit 18 :: nat_lit 20 :: nat_lit 21 :: nat_lit 29 :: nat_lit 31 :: nat_lit 32 :: nat_lit 34 :: nat_lit 35 :: nat_lit 36 :: nat_lit 38 :: nat_lit 39 :: nat_lit 41 :: nat_lit 42 :: nat_lit 43 :: nat_lit 45 :: nat_lit 46 :: nat_lit 48 :: nat_lit 49 :: nat_lit 50 :: nat_lit 52 :: nat_lit 53 :: nat_lit 55 :: nat_lit 56 :: nat_lit 57 :: nat_lit 58 :: nat_lit 59 :: nat_lit 60 :: nat_lit 61 :: nat_lit 64 :: nat_lit 66 :: nat_lit 67 :: nat_lit 69 :: nat_lit 70 :: nat_lit 71 :: nat_lit 73 :: nat_lit 74 :: nat_lit 76 :: nat_lit 77 :: nat_lit 78 :: nat_lit 80 :: nat_lit 81 :: nat_lit 83 :: nat_lit 84 :: nat_lit 85 :: nat_lit 87 :: nat_lit 88 :: nat_lit 90 :: nat_lit 91 :: nat_lit 92 :: nat_lit 94 :: nat_lit 95 :: nat_lit 97 :: nat_lit 98 :: nat_lit 99 :: nat_lit 101 :: nat_lit 102 :: nat_lit 104 :: nat_lit 105 :: nat_lit 106 :: nat_lit 108 :: nat_lit 109 :: nat_lit 111 :: nat_lit 112 :: nat_lit 113 :: nat_lit 114 :: nat_lit 115 :: nat_lit 117 :: nat_lit 118 :: nat_lit 120 :: nat_lit 121 :: nat_lit 129 :: nat_lit 133 :: nat_lit 135 :: nat_lit 136 :: nat_lit 138 :: nat_lit 139 :: nat_lit 140 :: nat_lit 179 :: nat_lit 181 :: nat_lit 182 :: nat_lit 184 :: nat_lit 185 :: nat_lit 186 :: nat_lit 189 :: nat_lit 190 :: nat_lit 191 :: nat_lit 194 :: nat_lit 195 :: nat_lit 196 :: nat_lit 199 :: nat_lit 200 :: nat_lit 201 :: nat_lit 203 :: nat_lit 204 :: nat_lit 206 :: nat_lit 207 :: nat_lit 208 :: nat_lit 211 :: nat_lit 212 :: nat_lit 213 :: nat_lit 216 :: nat_lit 217 :: []
noncomputable def life0 : Life := {}
noncomputable def ann0 : Option Value := some (.ref 6)
noncomputable def env0 : Env := { scope := pw.main.scope, locals := mainNs, globals := mainNs, cells := [], code := .ref 13, frame := some 14 }
noncomputable def pos0 : Pos := ⟨0, 0, 0, 0⟩
noncomputable abbrev codeM : Code := .body (behindTheImports pw) env0
noncomputable abbrev B0 : List Frame := [topFrame pos0]
noncomputable abbrev stA (w : World) (os : OsState) : SharedT := ⟨tA w.params, 15, life0, Array.mk [], boot_drawn, 187, os⟩
noncomputable abbrev stB (w : World) (os : OsState) : SharedT := ⟨tB w.params, 122, life0, Array.mk [], boot_drawn, 363, os⟩
noncomputable abbrev stC (w : World) (os : OsState) : SharedT := ⟨tC w.params, 133, life0, Array.mk [], boot_drawn, 423, os⟩
noncomputable abbrev stD (w : World) (os : OsState) : SharedT := ⟨tD w.params, 140, life0, Array.mk [], boot_drawn, 430, os⟩
noncomputable abbrev stE (w : World) (os : OsState) : SharedT := ⟨tE w.params, 179, life0, Array.mk [], boot_drawn, 2381, os⟩
noncomputable abbrev stF (w : World) (os : OsState) : SharedT := ⟨tF w.params, 218, life0, Array.mk [], boot_drawn, 2428, os⟩
noncomputable abbrev posB : Pos := ⟨146, 0, 146, 8⟩
noncomputable abbrev posC : Pos := ⟨147, 0, 147, 6⟩
noncomputable abbrev posD : Pos := ⟨148, 0, 149, 30⟩
noncomputable abbrev posE : Pos := ⟨150, 0, 150, 13⟩
noncomputable abbrev posF : Pos := ⟨202, 0, 225, 95⟩
end Mine
end
section
open PySem PySem.W PySem.Calls PyProof.Rows
namespace Mine
noncomputable def Go (w : World) {α : Type} (n : Nat) (x : Sem α) (s : Shared) (p : Pos) (a : α) (s' : Shared) (p' : Pos) : Prop :=
  ∀ (K : α → Sem Fin) (H : Value → Sem Fin) (gd : Bool → Bool) (lv : List Value → List Value) (N : Nat) (r : Shared),
    topRun treeTable pw w 11 ann0 N s' ⟨K a, codeM, p', B0⟩ = some r → topRun treeTable pw w 11 ann0 (n + N) s ⟨x.wrap K H gd lv, codeM, p, B0⟩ = some r
section
variable {w : World} {α β : Type} {s s₁ s' : Shared} {p p₁ p' : Pos} {a : α} {b : β} {n m : Nat}
theorem go_one {s₁ : Shared} {t₁ : Thread} {N : Nat} {r : Shared} {cur : Sem Fin} (ht : through ⟨cur, codeM, p, B0⟩ = false) (hk : stepOk 11 ann0 ⟨cur, codeM, p, B0⟩ = true)
    (hs : step (denote treeTable) pw w s ⟨cur, codeM, p, B0⟩ = .go s₁ t₁) (h : topRun treeTable pw w 11 ann0 N s₁ t₁ = some r) : topRun treeTable pw w 11 ann0 (N + 1) s ⟨cur, codeM, p, B0⟩ = some r := by
  unfold topRun
  rw [ht, hk, hs]
  exact h
theorem go_pure : Go w 0 (Pure.pure a : Sem α) s p a s p := fun K H gd lv N r h => by rw [Nat.zero_add]; exact h
theorem go_bind {x : Sem α} {f : α → Sem β} (hx : Go w n x s p a s₁ p₁) (hf : Go w m (f a) s₁ p₁ b s' p') : Go w (n + m) (x >>= f) s p b s' p' := fun K H gd lv N r h => by
  rw [Sem.bind_eq_wrap', Sem.wrap_wrap, Nat.add_assoc]
  exact hx _ _ _ _ _ _ (hf K H gd lv N r h)
theorem go_keep {x : Sem α} {vs : List Value} (hx : Go w n x s p a s' p') : Go w n (x.keep vs) s p a s' p' := fun K H gd lv N r h => by
  rw [Sem.keep_eq_wrap, Sem.wrap_wrap]
  exact hx _ _ _ _ _ _ h
theorem go_holding {x : Sem α} {vs : List Value} (hx : Go w n x s p a s' p') : Go w n (holding vs x) s p a s' p' := by
  unfold PySem.holding
  split
  · exact hx
  · exact go_keep hx
theorem go_onRaise {x : Sem α} {k : Value → Sem Unit} (hx : Go w n x s p a s' p') : Go w n (x.onRaise k) s p a s' p' := fun K H gd lv N r h => by
  rw [Sem.onRaise_eq_wrap, Sem.wrap_wrap]
  exact hx _ _ _ _ _ _ h
theorem go_rule {t : String} : Go w 1 (PySem.rule t) s p () s p := fun K H gd lv N r h => by
  rw [Nat.add_comm]; exact go_one rfl rfl rfl h
theorem go_standAt {q : Pos} : Go w 1 (PySem.standAt q) s p () s q := fun K H gd lv N r h => by
  rw [Nat.add_comm]; exact go_one rfl rfl rfl h
theorem go_fresh : Go w 1 PySem.fresh s p s.toks { s with toks := s.toks + 1 } p := fun K H gd lv N r h => by
  rw [Nat.add_comm]; exact go_one rfl rfl rfl h
theorem go_alloc {o : Obj} : Go w 1 (PySem.alloc o) s p s.heap.objs.size { s with heap := s.heap.push o } p := fun K H gd lv N r h => by
  rw [Nat.add_comm]; exact go_one rfl rfl rfl h
theorem go_load {d : Addr} {part : Option Value} {o : Obj} (ho : s.heap.get? d = some o) : Go w 1 (loadPart d part) s p o s p := fun K H gd lv N r h => by
  rw [Nat.add_comm]
  refine go_one rfl rfl ?_ h
  show (match s.heap.get? d with | some o => _ | none => _) = _
  rw [ho]
  rfl
theorem go_update {d : Addr} {part : Option Value} {f : Obj → Obj} {o : Obj} (ho : s.heap.get? d = some o) (hd : 11 ≤ d) : Go w 1 (updatePart d part f) s p () { s with heap := s.heap.update d f } p := fun K H gd lv N r h => by
  rw [Nat.add_comm]
  refine go_one rfl ?_ ?_ h
  · show (_ && (Nat.ble 11 d || d == mainNs || d == cStatics || ann0 == some (.ref d))) = true
    rw [Nat.ble_eq_true_of_le hd]; rfl
  · show (if (s.heap.get? d).isSome = true then _ else _) = _
    rw [ho]; rfl
theorem go_cast {x : Sem α} (e : n = m) (h : Go w n x s p a s' p') : Go w m x s p a s' p' := e ▸ h
end
theorem hash_go (w : World) : ∀ (K : Int → Sem Fin) (H : Value → Sem Fin) (gd : Bool → Bool) (lv : List Value → List Value) (hp : Heap) (g : Array GenState) (dr : Drawn) (tk : Nat) (os : OsState) (p : Pos) (k : Int) (t : Tok),
    topGo treeTable pw w 11 ann0 5 ⟨hp, g, dr, tk, os⟩ ⟨(pyHash (.int k t)).wrap K H gd lv, codeM, p, B0⟩ = some (⟨hp, g, dr, tk + 1, os⟩, ⟨(pyHashByItsType.reduced (rawHash k)).wrap K H gd lv, codeM, p, B0⟩) :=
  byRow2 "special-get-raises" (P := fun w => ∀ (K : Int → Sem Fin) (H : Value → Sem Fin) (gd : Bool → Bool) (lv : List Value → List Value) (hp : Heap) (g : Array GenState) (dr : Drawn) (tk : Nat) (os : OsState) (p : Pos) (k : Int) (t : Tok),
    topGo treeTable pw w 11 ann0 5 ⟨hp, g, dr, tk, os⟩ ⟨(pyHash (.int k t)).wrap K H gd lv, codeM, p, B0⟩ = some (⟨hp, g, dr, tk + 1, os⟩, ⟨(pyHashByItsType.reduced (rawHash k)).wrap K H gd lv, codeM, p, B0⟩))
    (fun w => by intros; rw [Fast.te15667345088766844465, Fast.te14364793385576792824, Fast.te10540108854288196387]; kernel_rfl) (fun w => by intros; rw [Fast.te15667345088766844465, Fast.te14364793385576792824, Fast.te10540108854288196387]; kernel_rfl) w
theorem reduced_raw (k : Int) : pyHashByItsType.reduced (rawHash k) = pure (hashInt k) := by
  have h := rawHash_range k
  unfold pyHashByItsType.reduced hashInt
  have c : (decide (-(2 ^ 63 : Int) ≤ rawHash k) && decide (rawHash k < 2 ^ 63)) = true := by
    rw [Bool.and_eq_true]; exact ⟨decide_eq_true h.1, decide_eq_true h.2⟩
  rw [if_pos c]
section
variable {w : World} {α β : Type} {s s₁ s' : Shared} {p p₁ p' : Pos} {a : α} {b : β} {n m : Nat}
theorem go_hash {k : Int} {t : Tok} : Go w 5 (pyHash (.int k t)) s p (hashInt k) { s with toks := s.toks + 1 } p := fun K H gd lv N r h => by
  obtain ⟨hp, g, dr, tk, os⟩ := s
  refine go_top (hash_go w K H gd lv hp g dr tk os p k t) ?_
  rw [reduced_raw]
  exact h
theorem places_nil {es : List DictEntry} {h : Int} (hf : ∀ e ∈ es, e.hash ≠ h) : placesWithHash es.toArray.size (fun i => es.toArray[i]?.map (·.hash)) h = [] := by
  unfold placesWithHash
  rw [List.filter_eq_nil_iff]
  intro i hi
  simp only [List.getElem?_toArray]
  cases q : es[i]? with
  | none => simp
  | some e =>
    simp only [Option.map_some]
    have := hf e (List.mem_of_getElem? q)
    simpa using this
theorem go_find {d : Addr} {k h : Int} {t : Tok} {es : List DictEntry} {c : Value} {dd : Option Addr} {ep : Nat} {sl : Array (Option Value)} (ho : s.heap.get? d = some ⟨c, dd, .dict es.toArray ep, sl⟩) (hf : ∀ e ∈ es, e.hash ≠ h) :
    Go w 1 (dictFind d (.int k t) h) s p none s p := by
  unfold dictFind
  refine go_holding ?_
  refine go_bind (n := 1) (m := 0) (a := es.toArray) (s₁ := s) (p₁ := p) ?_ ?_
  · unfold dictEntries
    exact go_bind (n := 1) (m := 0) (go_load ho) go_pure
  · dsimp only
    rw [places_nil hf]
    exact go_pure
end
noncomputable abbrev hp (pre : List Obj) (es : List DictEntry) (n : Nat) (post : List Obj) : Heap := ⟨(pre ++ dictO es n :: post).toArray, life0⟩
theorem hp_get (pre : List Obj) (es : List DictEntry) (n : Nat) (post : List Obj) : (hp pre es n post).get? pre.length = some (dictO es n) := by
  unfold Heap.get?
  have e : (pre ++ dictO es n :: post).toArray[pre.length]? = some (dictO es n) := by simp
  show (match (pre ++ dictO es n :: post).toArray[pre.length]? with | some ⟨_, _, .freed, _⟩ => none | o => o) = _
  rw [e]
  rfl
theorem modify_at (f : Obj → Obj) (x : Obj) (post : List Obj) : ∀ pre : List Obj, (pre ++ x :: post).modify pre.length f = pre ++ f x :: post
  | [] => by simp
  | a :: r => by
    have ih := modify_at f x post r
    simp only [List.cons_append, List.length_cons, List.modify_succ_cons, ih]
theorem hp_update (pre : List Obj) (es es' : List DictEntry) (n n' : Nat) (post : List Obj) (f : Obj → Obj) (hf : f (dictO es n) = dictO es' n') : (hp pre es n post).update pre.length f = hp pre es' n' post := by
  show Heap.mk ((pre ++ dictO es n :: post).toArray.modify pre.length f) life0 = _
  congr 1
  apply Array.ext'
  rw [Array.toList_modify]
  show (pre ++ dictO es n :: post).modify pre.length f = _
  rw [modify_at, hf]
section
variable {w : World} {g : Array GenState} {dr : Drawn} {tk : Nat} {os : OsState} {p : Pos} {pre post : List Obj} {es : List DictEntry} {n : Nat}
theorem go_push {e : DictEntry} {part : Option Value} (hd : 11 ≤ pre.length) (hl : es.length < 1000) :
    Go w 3 (updateDictKeys pre.length (·.push e) part) ⟨hp pre es n post, g, dr, tk, os⟩ p () ⟨hp pre (es ++ [e]) (n + 1) post, g, dr, tk, os⟩ p := by
  unfold updateDictKeys
  refine go_bind (n := 1) (m := 2) (go_load (hp_get ..)) ?_
  refine go_bind (n := 1) (m := 1) (go_update (hp_get ..) hd) ?_
  have e1 : Heap.update (hp pre es n post) pre.length (Obj.mapDictKeys (·.push e)) = hp pre (es ++ [e]) (n + 1) post := hp_update _ _ _ _ _ _ _ (by
    show ({ cls := .type "dict", data := .dict (es.toArray.push e) (n + 1) } : Obj) = _
    rw [List.push_toArray]
    rfl)
  show Go w 1 _ ⟨Heap.update (hp pre es n post) pre.length (Obj.mapDictKeys (·.push e)), g, dr, tk, os⟩ p () _ p
  rw [e1]
  unfold lookBehind
  refine go_bind (n := 1) (m := 0) (go_load (hp_get ..)) ?_
  have e2 : (dictO (es ++ [e]) (n + 1)).data.pastItsLine = none := by
    show (if (es ++ [e]).toArray.size > sizeLine + 1 then some "dict:memory" else none) = none
    rw [if_neg]
    rw [List.size_toArray, List.length_append]
    exact Nat.not_lt.mpr (Nat.le_trans hl (by decide))
  rw [e2]
  exact go_pure
theorem go_set {k : Int} {t : Tok} {v : Value} (hd : 11 ≤ pre.length) (hl : es.length < 1000) (hf : ∀ e ∈ es, e.hash ≠ hashInt k) :
    Go w 10 (dictSet pre.length (.int k t) v) ⟨hp pre es n post, g, dr, tk, os⟩ p () ⟨hp pre (es ++ [⟨hashInt k, .int k t, v⟩]) (n + 1) post, g, dr, tk + 1, os⟩ p := by
  unfold dictSet
  refine go_holding (go_bind (n := 5) (m := 5) go_hash ?_)
  unfold dictSetHashed
  refine go_holding (go_bind (n := 1) (m := 4) (go_find (hp_get ..) hf) ?_)
  exact go_bind (n := 1) (m := 3) go_rule (go_push hd hl)
end
end Mine
end
section
open PySem PySem.W PySem.Calls PyProof.Rows
namespace Mine
noncomputable def kS (k : Int) : Sem Value := mkInt k
noncomputable def vS (q : Pos) (x : Str) : Sem Value := do let v ← mkText x; standAt q; pure v
noncomputable def pairS (q : Pos) (c : Int × Str) : Sem Value × Sem Value := (kS c.1, vS q c.2)
noncomputable def entsAt : Nat → List (Int × Str) → List DictEntry
  | _, [] => []
  | t, c :: r => ⟨hashInt c.1, .int c.1 t, .str c.2 (t + 1)⟩ :: entsAt (t + 3) r
theorem entsAt_hash : ∀ (l : List (Int × Str)) (t : Nat), (entsAt t l).map DictEntry.hash = l.map fun c => hashInt c.1
  | [], _ => rfl
  | c :: r, t => by simp [entsAt, entsAt_hash r]
theorem entsAt_len : ∀ (l : List (Int × Str)) (t : Nat), (entsAt t l).length = l.length
  | [], _ => rfl
  | c :: r, t => by simp [entsAt, entsAt_len r]
section
variable {w : World} {g : Array GenState} {dr : Drawn} {tk : Nat} {os : OsState} {p q : Pos} {pre post : List Obj} {es : List DictEntry} {n : Nat} {s : Shared}
theorem go_kS {k : Int} : Go w 1 (kS k) s p (.int k s.toks) { s with toks := s.toks + 1 } p := by
  unfold Mine.kS mkInt
  exact go_bind (n := 1) (m := 0) go_fresh go_pure
theorem go_vS {x : Str} : Go w 2 (vS q x) s p (.str x s.toks) { s with toks := s.toks + 1 } q := by
  unfold Mine.vS mkText
  refine go_bind (n := 1) (m := 1) (go_bind (n := 1) (m := 0) go_fresh go_pure) ?_
  exact go_bind (n := 1) (m := 0) go_standAt go_pure
theorem go_pairs (hd : 11 ≤ pre.length) : ∀ (l : List (Int × Str)) (es : List DictEntry) (n tk : Nat), es.length + l.length < 1000 → (es.map DictEntry.hash ++ l.map fun c => hashInt c.1).Nodup →
    Go w (13 * l.length) (forIn (l.map (pairS q)) PUnit.unit fun (x : Sem Value × Sem Value) (r : PUnit) => do
      let kv ← x.1
      let vv ← holding [kv] x.2
      holding [kv, vv] (dictSet pre.length kv vv)
      pure (ForInStep.yield PUnit.unit)) ⟨hp pre es n post, g, dr, tk, os⟩ q PUnit.unit ⟨hp pre (es ++ entsAt tk l) (n + l.length) post, g, dr, tk + 3 * l.length, os⟩ q
  | [], es, n, tk, _, _ => by
    simp only [List.map_nil, List.forIn_nil, entsAt, List.append_nil, List.length_nil, Nat.mul_zero, Nat.add_zero]
    exact go_pure
  | c :: r, es, n, tk, hl, hn => by
    simp only [List.length_cons, List.map_cons] at hl hn
    have h1 : ∀ e ∈ es, DictEntry.hash e ≠ hashInt c.1 := fun e he => by
      rw [List.nodup_append] at hn
      exact hn.2.2 _ (List.mem_map_of_mem he) _ List.mem_cons_self
    have h2 : ((es ++ [(⟨hashInt c.1, .int c.1 tk, .str c.2 (tk + 1)⟩ : DictEntry)]).map DictEntry.hash ++ r.map fun c => hashInt c.1).Nodup := by
      rw [List.map_append, List.append_assoc]
      exact hn
    have ih := go_pairs hd r (es ++ [(⟨hashInt c.1, .int c.1 tk, .str c.2 (tk + 1)⟩ : DictEntry)]) (n + 1) (tk + 3) (by simp only [List.length_append, List.length_cons, List.length_nil]; lia) h2
    rw [List.map_cons, List.forIn_cons]
    refine go_cast (n := 13 + 13 * r.length) (by simp only [List.length_cons]; lia) ?_
    refine go_bind (a := ForInStep.yield PUnit.unit) (s₁ := ⟨hp pre (es ++ [(⟨hashInt c.1, .int c.1 tk, .str c.2 (tk + 1)⟩ : DictEntry)]) (n + 1) post, g, dr, tk + 3, os⟩) (p₁ := q) ?_ ?_
    · refine go_bind (n := 1) (m := 12) go_kS ?_
      refine go_bind (n := 2) (m := 10) (go_holding go_vS) ?_
      exact go_bind (n := 10) (m := 0) (go_holding (go_set hd (by lia) h1)) go_pure
    · simp only [entsAt, List.length_cons]
      have e1 : es ++ [⟨hashInt c.1, .int c.1 tk, .str c.2 (tk + 1)⟩] ++ entsAt (tk + 3) r = es ++ ⟨hashInt c.1, .int c.1 tk, .str c.2 (tk + 1)⟩ :: entsAt (tk + 3) r := by simp
      rw [e1, show n + 1 + r.length = n + (r.length + 1) by lia, show tk + 3 + 3 * r.length = tk + 3 * (r.length + 1) by lia] at ih
      exact ih
theorem go_sub {l : List (Int × Str)} (hd : 11 ≤ pre.length) (h15 : 15 < l.length) (hl : l.length < 1000) (hn : (l.map fun c => hashInt c.1).Nodup) :
    Go w (2 + 13 * l.length) (subDict (l.map (pairS q))) ⟨⟨pre.toArray, life0⟩, g, dr, tk, os⟩ q pre.length ⟨hp pre (entsAt tk l) l.length [], g, dr, tk + 3 * l.length, os⟩ q := by
  unfold subDict
  refine go_cast (n := 1 + (1 + 13 * l.length)) (by lia) ?_
  refine go_bind (n := 1) (m := 1 + 13 * l.length) (a := pre.length) (s₁ := ⟨hp pre [] 0 [], g, dr, tk, os⟩) (p₁ := q) ?_ ?_
  · have := go_alloc (w := w) (s := ⟨⟨pre.toArray, life0⟩, g, dr, tk, os⟩) (p := q) (o := { cls := .type "dict", data := .dict #[] })
    have e : (Heap.push ⟨pre.toArray, life0⟩ { cls := .type "dict", data := .dict #[] }) = hp pre [] 0 [] := by
      show Heap.mk (pre.toArray.push _) life0 = Heap.mk _ life0
      simp [dictO]
    rw [e] at this
    simpa using this
  · refine go_cast (n := 1 + 13 * l.length + 0) (by lia) ?_
    refine go_bind (a := ()) (s₁ := ⟨hp pre (entsAt tk l) l.length [], g, dr, tk + 3 * l.length, os⟩) (p₁ := q) (go_holding ?_) go_pure
    rw [if_neg (by rw [List.length_map]; lia)]
    refine go_bind (n := 1) go_rule ?_
    have := go_pairs (w := w) (g := g) (dr := dr) (os := os) (q := q) (post := []) hd l [] 0 tk (by simpa using hl) (by simpa using hn)
    simp only [List.nil_append, Nat.zero_add] at this
    exact go_bind (n := 13 * l.length) (m := 0) this go_pure
end
end Mine
end
section
open PySem PySem.W PySem.Calls PyProof.Rows
namespace Mine
theorem sub_dict : isSubtype (.type "dict") (.type "dict") = pure true := by rw [Fast.te16098473122060591676]; kernel_rfl
theorem look_iter : typeLookup (.type "dict") (Str.ofString "__iter__") = pure (some (.builtin "dict.__iter__")) := by rw [Fast.te1381439984260040727]; kernel_rfl
section
variable {w : World} {g : Array GenState} {dr : Drawn} {tk : Nat} {os : OsState} {p q : Pos} {pre post : List Obj} {es l : List DictEntry} {n k : Nat} {s : Shared}
theorem hp_last (pre post : List Obj) (es l : List DictEntry) (n k : Nat) : (hp pre es n (post ++ [dictO l k])).get? (pre.length + 1 + post.length) = some (dictO l k) := by
  have := hp_get (pre ++ dictO es n :: post) l k []
  have e : hp (pre ++ dictO es n :: post) l k [] = hp pre es n (post ++ [dictO l k]) := by
    show Heap.mk _ _ = Heap.mk _ _
    simp
  rw [e] at this
  have e2 : (pre ++ dictO es n :: post).length = pre.length + 1 + post.length := by simp only [List.length_append, List.length_cons]; lia
  rw [e2] at this
  exact this
theorem go_typeOf {a : Addr} {o : Obj} (ho : s.heap.get? a = some o) : Go w 1 (typeOf (.ref a)) s p o.cls s p := by
  unfold typeOf
  exact go_bind (n := 1) (m := 0) (go_load ho) go_pure
theorem go_put {e : DictEntry} (hd : 11 ≤ pre.length) (hl : es.length < 1000) (hk : ∃ i t, e.key = .int i t) (hf : ∀ e' ∈ es, DictEntry.hash e' ≠ e.hash) :
    Go w 4 (dictPut pre.length e.hash e.key e.val) ⟨hp pre es n post, g, dr, tk, os⟩ p () ⟨hp pre (es ++ [e]) (n + 1) post, g, dr, tk, os⟩ p := by
  obtain ⟨h, key, v⟩ := e
  obtain ⟨i, t, e⟩ := hk
  dsimp only at e hf ⊢
  subst e
  unfold dictPut
  exact go_bind (n := 1) (m := 3) (go_find (hp_get ..) hf) (go_push hd hl)
theorem go_mergeLoop (hd : 11 ≤ pre.length) (hl : es.length + l.length < 1000) (hn : (es.map DictEntry.hash ++ l.map DictEntry.hash).Nodup) (hk : ∀ e ∈ l, ∃ i t, DictEntry.key e = .int i t)
    (body : Nat → PUnit → Sem (ForInStep PUnit)) (hb : ∀ i e r, l[i]? = some e → ∀ es n, Go w 4 (dictPut pre.length e.hash e.key e.val) ⟨hp pre es n (post ++ [dictO l k]), g, dr, tk, os⟩ q () ⟨hp pre (es ++ [e]) (n + 1) (post ++ [dictO l k]), g, dr, tk, os⟩ q →
        Go w 6 (body i r) ⟨hp pre es n (post ++ [dictO l k]), g, dr, tk, os⟩ q (ForInStep.yield PUnit.unit) ⟨hp pre (es ++ [e]) (n + 1) (post ++ [dictO l k]), g, dr, tk, os⟩ q) :
    ∀ m i, i + m = l.length → Go w (6 * m) (forIn (List.range' i m) PUnit.unit body) ⟨hp pre (es ++ l.take i) (n + i) (post ++ [dictO l k]), g, dr, tk, os⟩ q PUnit.unit ⟨hp pre (es ++ l) (n + l.length) (post ++ [dictO l k]), g, dr, tk, os⟩ q
  | 0, i, hi => by
    have : i = l.length := by lia
    subst this
    rw [List.range'_zero, List.forIn_nil, List.take_length]
    exact go_pure
  | m + 1, i, hi => by
    have hlt : i < l.length := by lia
    obtain ⟨e, he⟩ : ∃ e, l[i]? = some e := ⟨l[i], List.getElem?_eq_getElem hlt⟩
    have ih := go_mergeLoop hd hl hn hk body hb m (i + 1) (by lia)
    rw [List.range'_succ, List.forIn_cons]
    refine go_cast (n := 6 + 6 * m) (by lia) ?_
    have et : es ++ l.take i ++ [e] = es ++ l.take (i + 1) := by
      rw [List.append_assoc]
      congr 1
      rw [List.take_add_one, he]; rfl
    rw [← et] at ih
    refine go_bind (hb i e _ he (es ++ l.take i) (n + i) (go_put hd ?_ (hk e (List.mem_of_getElem? he)) ?_)) ih
    · simp only [List.length_append, List.length_take]; lia
    · intro e' h'
      rcases List.mem_append.mp h' with h' | h'
      · rw [List.nodup_append] at hn
        exact hn.2.2 _ (List.mem_map_of_mem h') _ (List.mem_map_of_mem (List.mem_of_getElem? he))
      · have hn2 := (List.nodup_append.mp hn).2.1
        obtain ⟨j, hj, rfl⟩ := List.getElem_of_mem h'
        rw [List.length_take] at hj
        intro q'
        refine (List.pairwise_iff_getElem.mp hn2) j i (by rw [List.length_map]; lia) (by rw [List.length_map]; lia) (by lia) ?_
        rw [List.getElem_map, List.getElem_map]
        rw [List.getElem_take] at q'
        rw [q']
        congr 1
        exact (List.getElem?_eq_some_iff.mp he).2.symm
theorem go_mergeAll (hd : 11 ≤ pre.length) (hl : es.length + l.length < 1000) (hn : (es.map DictEntry.hash ++ l.map DictEntry.hash).Nodup) (hk : ∀ e ∈ l, ∃ i t, DictEntry.key e = .int i t)
    (body : Nat → PUnit → Sem (ForInStep PUnit)) (hb : ∀ i e r, l[i]? = some e → ∀ es n, Go w 4 (dictPut pre.length e.hash e.key e.val) ⟨hp pre es n (post ++ [dictO l k]), g, dr, tk, os⟩ q () ⟨hp pre (es ++ [e]) (n + 1) (post ++ [dictO l k]), g, dr, tk, os⟩ q →
        Go w 6 (body i r) ⟨hp pre es n (post ++ [dictO l k]), g, dr, tk, os⟩ q (ForInStep.yield PUnit.unit) ⟨hp pre (es ++ [e]) (n + 1) (post ++ [dictO l k]), g, dr, tk, os⟩ q) :
    Go w (6 * l.length) (forIn (List.range' 0 l.length) PUnit.unit body) ⟨hp pre es n (post ++ [dictO l k]), g, dr, tk, os⟩ q PUnit.unit ⟨hp pre (es ++ l) (n + l.length) (post ++ [dictO l k]), g, dr, tk, os⟩ q := by
  have := go_mergeLoop (n := n) hd hl hn hk body hb l.length 0 (by lia)
  rw [List.take_zero, List.append_nil] at this
  exact this
theorem go_merge (hd : 11 ≤ pre.length) (he : es ≠ []) (hl : es.length + l.length < 1000) (hn : (es.map DictEntry.hash ++ l.map DictEntry.hash).Nodup) (hk : ∀ e ∈ l, ∃ i t, DictEntry.key e = .int i t) :
    Go w (5 + 6 * l.length) (mergeMapping pre.length (.ref (pre.length + 1 + post.length)) false) ⟨hp pre es n (post ++ [dictO l k]), g, dr, tk, os⟩ q () ⟨hp pre (es ++ l) (n + l.length) (post ++ [dictO l k]), g, dr, tk, os⟩ q := by
  unfold mergeMapping
  refine go_cast (n := 1 + (1 + (1 + (1 + (1 + 6 * l.length))))) (by lia) ?_
  refine go_bind (n := 1) (a := true) (s₁ := ⟨hp pre es n (post ++ [dictO l k]), g, dr, tk, os⟩) (p₁ := q) ?_ ?_
  · unfold isInstance
    refine go_bind (n := 1) (m := 0) (go_typeOf (hp_last ..)) ?_
    show Go w 0 (isSubtype (.type "dict") (.type "dict")) _ _ _ _ _
    rw [sub_dict]
    exact go_pure
  rw [if_pos rfl]
  refine go_bind (n := 1) (a := some (.builtin "dict.__iter__")) (s₁ := ⟨hp pre es n (post ++ [dictO l k]), g, dr, tk, os⟩) (p₁ := q) ?_ ?_
  · unfold specialOf
    refine go_bind (n := 1) (m := 0) (go_typeOf (hp_last ..)) ?_
    show Go w 0 (typeLookup (.type "dict") (Str.ofString "__iter__")) _ _ _ _ _
    rw [look_iter]
    exact go_pure
  have hs : ¬ (pre.length + 1 + post.length == sysModules) = true := by
    rw [beq_iff_eq]; show ¬ pre.length + 1 + post.length = 1; lia
  have hent : ∀ part, Go w 1 (dictEntries (pre.length + 1 + post.length) part) ⟨hp pre es n (post ++ [dictO l k]), g, dr, tk, os⟩ q l.toArray ⟨hp pre es n (post ++ [dictO l k]), g, dr, tk, os⟩ q := fun part => by
    unfold dictEntries
    exact go_bind (n := 1) (m := 0) (go_load (hp_last ..)) go_pure
  have hep : ∀ es n part, Go w 1 (dictEpoch (pre.length + 1 + post.length) part) ⟨hp pre es n (post ++ [dictO l k]), g, dr, tk, os⟩ q k ⟨hp pre es n (post ++ [dictO l k]), g, dr, tk, os⟩ q := fun es n part => by
    unfold dictEpoch
    exact go_bind (n := 1) (m := 0) (go_load (hp_last ..)) go_pure
  refine go_cast (Nat.zero_add _) (go_bind (n := 0) go_pure ?_)
  rw [show (some (Value.builtin "dict.__iter__") == some (Value.builtin "dict.__iter__")) = true from beq_self_eq_true _]
  dsimp only
  rw [if_neg hs]
  refine go_bind (n := 1) (a := es.toArray) (s₁ := ⟨hp pre es n (post ++ [dictO l k]), g, dr, tk, os⟩) (p₁ := q) ?_ ?_
  · unfold dictEntries
    exact go_bind (n := 1) (m := 0) (go_load (hp_get ..)) go_pure
  have hne : ¬ es.toArray.isEmpty = true := by simpa using he
  rw [if_neg hne]
  refine go_bind (n := 1) (hent none) ?_
  refine go_bind (n := 1) (hep es n none) ?_
  refine go_cast (n := 6 * l.length + 0) (by lia) ?_
  refine go_bind (a := PUnit.unit) ?_ go_pure
  have hr : List.range l.toArray.size = List.range' 0 l.length := by rw [List.range_eq_range', List.size_toArray]
  rw [hr]
  refine go_mergeAll hd hl hn hk _ ?_
  · intro i e r hi es n hput
    refine go_bind (n := 1) (m := 5) (a := l.toArray) (s₁ := ⟨hp pre es n (post ++ [dictO l k]), g, dr, tk, os⟩) (p₁ := q) ?_ ?_
    · unfold dictEntries
      exact go_bind (n := 1) (m := 0) (go_load (hp_last ..)) go_pure
    have e1 : l.toArray[i]? = some e := by rw [List.getElem?_toArray]; exact hi
    rw [e1]
    dsimp only
    rw [if_neg Bool.false_ne_true]
    refine go_bind (n := 4) (m := 1) (go_holding hput) ?_
    refine go_bind (n := 1) (m := 0) (hep _ _ _) ?_
    rw [if_neg (by simp)]
    exact go_pure
end
end Mine
end
section
open PySem PySem.W PySem.Calls PyProof.Rows
namespace Mine
noncomputable def valsAt : Nat → List (Int × Str) → List (Value × Value)
  | _, [] => []
  | t, c :: r => (.int c.1 t, .str c.2 (t + 1)) :: valsAt (t + 2) r
noncomputable def entsS : Nat → List (Int × Str) → List DictEntry
  | _, [] => []
  | t, c :: r => ⟨hashInt c.1, .int c.1 t, .str c.2 (t + 1)⟩ :: entsS (t + 2) r
theorem entsS_hash : ∀ (l : List (Int × Str)) (t : Nat), (entsS t l).map DictEntry.hash = l.map fun c => hashInt c.1
  | [], _ => rfl
  | c :: r, t => by simp [entsS, entsS_hash r]
theorem entsS_len : ∀ (l : List (Int × Str)) (t : Nat), (entsS t l).length = l.length
  | [], _ => rfl
  | c :: r, t => by simp [entsS, entsS_len r]
theorem entsS_key : ∀ (l : List (Int × Str)) (t : Nat), ∀ e ∈ entsS t l, ∃ i u, DictEntry.key e = .int i u
  | [], _, _, h => nomatch h
  | c :: r, t, e, h => by
    rcases List.mem_cons.mp h with rfl | h
    · exact ⟨_, _, rfl⟩
    · exact entsS_key r _ e h
theorem entsAt_key : ∀ (l : List (Int × Str)) (t : Nat), ∀ e ∈ entsAt t l, ∃ i u, DictEntry.key e = .int i u
  | [], _, _, h => nomatch h
  | c :: r, t, e, h => by
    rcases List.mem_cons.mp h with rfl | h
    · exact ⟨_, _, rfl⟩
    · exact entsAt_key r _ e h
section
variable {w : World} {g : Array GenState} {dr : Drawn} {tk : Nat} {os : OsState} {p q : Pos} {pre post : List Obj} {es : List DictEntry} {n : Nat} {h : Heap}
theorem go_evalPairs : ∀ (l : List (Int × Str)) (tk : Nat), Go w (3 * l.length) (evalPairs (l.map (pairS q))) ⟨h, g, dr, tk, os⟩ q (valsAt tk l) ⟨h, g, dr, tk + 2 * l.length, os⟩ q
  | [], tk => go_pure
  | c :: r, tk => by
    have ih := go_evalPairs r (tk + 2)
    rw [List.map_cons]
    unfold evalPairs
    refine go_cast (n := 1 + (2 + (3 * r.length + 0))) (by simp only [List.length_cons]; lia) ?_
    refine go_bind (n := 1) go_kS (go_bind (n := 2) (go_holding go_vS) ?_)
    rw [show tk + 2 + 2 * r.length = tk + 2 * (c :: r).length by simp only [List.length_cons]; lia] at ih
    exact go_bind (go_holding ih) go_pure
theorem go_sets (hd : 11 ≤ pre.length) : ∀ (l : List (Int × Str)) (t : Nat) (es : List DictEntry) (n tk : Nat), es.length + l.length < 1000 → (es.map DictEntry.hash ++ l.map fun c => hashInt c.1).Nodup →
    Go w (10 * l.length) (forIn (valsAt t l) PUnit.unit fun (x : Value × Value) (r : PUnit) => do
      dictSet pre.length x.1 x.2
      pure (ForInStep.yield PUnit.unit)) ⟨hp pre es n post, g, dr, tk, os⟩ q PUnit.unit ⟨hp pre (es ++ entsS t l) (n + l.length) post, g, dr, tk + l.length, os⟩ q
  | [], t, es, n, tk, _, _ => by
    simp only [valsAt, List.forIn_nil, entsS, List.append_nil, List.length_nil, Nat.mul_zero, Nat.add_zero]
    exact go_pure
  | c :: r, t, es, n, tk, hl, hn => by
    simp only [List.length_cons, List.map_cons] at hl hn
    have h1 : ∀ e ∈ es, DictEntry.hash e ≠ hashInt c.1 := fun e he => by
      rw [List.nodup_append] at hn
      exact hn.2.2 _ (List.mem_map_of_mem he) _ List.mem_cons_self
    have h2 : ((es ++ [(⟨hashInt c.1, .int c.1 t, .str c.2 (t + 1)⟩ : DictEntry)]).map DictEntry.hash ++ r.map fun c => hashInt c.1).Nodup := by
      rw [List.map_append, List.append_assoc]
      exact hn
    have ih := go_sets hd r (t + 2) (es ++ [(⟨hashInt c.1, .int c.1 t, .str c.2 (t + 1)⟩ : DictEntry)]) (n + 1) (tk + 1) (by simp only [List.length_append, List.length_cons, List.length_nil]; lia) h2
    unfold valsAt
    rw [List.forIn_cons]
    refine go_cast (n := 10 + 10 * r.length) (by simp only [List.length_cons]; lia) ?_
    refine go_bind (a := ForInStep.yield PUnit.unit) (s₁ := ⟨hp pre (es ++ [(⟨hashInt c.1, .int c.1 t, .str c.2 (t + 1)⟩ : DictEntry)]) (n + 1) post, g, dr, tk + 1, os⟩) (p₁ := q) ?_ ?_
    · exact go_bind (n := 10) (m := 0) (go_set hd (by lia) h1) go_pure
    · simp only [entsS, List.length_cons]
      have e1 : es ++ [(⟨hashInt c.1, .int c.1 t, .str c.2 (t + 1)⟩ : DictEntry)] ++ entsS (t + 2) r = es ++ ⟨hashInt c.1, .int c.1 t, .str c.2 (t + 1)⟩ :: entsS (t + 2) r := by simp
      rw [e1, show n + 1 + r.length = n + (r.length + 1) by lia, show tk + 1 + r.length = tk + (r.length + 1) by lia] at ih
      exact ih
theorem go_subS {l : List (Int × Str)} (hd : 11 ≤ pre.length) (h15 : l.length ≤ 15) (hn : (l.map fun c => hashInt c.1).Nodup) :
    Go w (1 + 13 * l.length) (subDict (l.map (pairS q))) ⟨⟨pre.toArray, life0⟩, g, dr, tk, os⟩ q pre.length ⟨hp pre (entsS tk l) l.length [], g, dr, tk + 3 * l.length, os⟩ q := by
  unfold subDict
  refine go_bind (n := 1) (m := 13 * l.length) (a := pre.length) (s₁ := ⟨hp pre [] 0 [], g, dr, tk, os⟩) (p₁ := q) ?_ ?_
  · have := go_alloc (w := w) (s := ⟨⟨pre.toArray, life0⟩, g, dr, tk, os⟩) (p := q) (o := { cls := .type "dict", data := .dict #[] })
    have e : (Heap.push ⟨pre.toArray, life0⟩ { cls := .type "dict", data := .dict #[] }) = hp pre [] 0 [] := by
      show Heap.mk (pre.toArray.push _) life0 = Heap.mk _ life0
      simp [dictO]
    rw [e] at this
    simpa using this
  · refine go_cast (n := 13 * l.length + 0) (by lia) ?_
    refine go_bind (a := ()) (s₁ := ⟨hp pre (entsS tk l) l.length [], g, dr, tk + 3 * l.length, os⟩) (p₁ := q) (go_holding ?_) go_pure
    rw [if_pos (by rw [List.length_map]; lia)]
    refine go_cast (n := 3 * l.length + 10 * l.length) (by lia) ?_
    refine go_bind (go_evalPairs l tk) (go_holding ?_)
    have := go_sets (w := w) (g := g) (dr := dr) (os := os) (q := q) (post := []) hd l tk [] 0 (tk + 2 * l.length) (by simp only [List.length_nil]; lia) (by simpa using hn)
    simp only [List.nil_append, Nat.zero_add] at this
    rw [show tk + 2 * l.length + l.length = tk + 3 * l.length by lia] at this
    exact go_bind (n := 10 * l.length) (m := 0) this go_pure
end
end Mine
end
section
open PySem PySem.W PySem.Calls PyProof.Rows
namespace Mine
noncomputable def itemS (q : Pos) (c : Int × Str) : Option (Sem Value) × Sem Value := (some (kS c.1), vS q c.2)
noncomputable def allE : Nat → List (List (Int × Str)) → List DictEntry
  | _, [] => []
  | t, c :: r => entsAt t c ++ allE (t + 51) r
noncomputable def allO : Nat → List (List (Int × Str)) → List Obj
  | _, [] => []
  | t, c :: r => dictO (entsAt t c) 17 :: allO (t + 51) r
noncomputable abbrev DSt := Option Addr × List (Sem Value × Sem Value)
noncomputable abbrev DF := (Option (Sem Value) × Sem Value) → DSt → Sem (ForInStep DSt)
section
variable {w : World} {g : Array GenState} {dr : Drawn} {os : OsState} {q : Pos} {pre : List Obj}
theorem go_gather {f : DF} (hA : ∀ main run k v s p, run.length + 1 < 17 → Go w 0 (f (some k, v) (main, run)) s p (ForInStep.yield (main, run ++ [(k, v)])) s p)
    {rest : List (Option (Sem Value) × Sem Value)} {main : Option Addr} {N : Nat} {s s' : Shared} {p p' : Pos} {a : DSt} : ∀ (l : List (Int × Str)) (run : List (Sem Value × Sem Value)), run.length + l.length < 17 →
    Go w N (forIn rest (main, run ++ l.map (pairS q)) f) s p a s' p' → Go w N (forIn (l.map (itemS q) ++ rest) (main, run) f) s p a s' p'
  | [], run, _, h => by simpa using h
  | c :: r, run, hl, h => by
    simp only [List.length_cons] at hl
    rw [List.map_cons, List.cons_append, List.forIn_cons]
    refine go_cast (Nat.zero_add _) (go_bind (n := 0) (hA main run (kS c.1) (vS q c.2) s p (by lia)) ?_)
    refine go_gather hA r (run ++ [(kS c.1, vS q c.2)]) (by simp only [List.length_append, List.length_cons, List.length_nil]; lia) ?_
    rw [List.append_assoc]
    exact h
theorem go_chunk {f : DF} (hA : ∀ main run k v s p, run.length + 1 < 17 → Go w 0 (f (some k, v) (main, run)) s p (ForInStep.yield (main, run ++ [(k, v)])) s p)
    {rest : List (Option (Sem Value) × Sem Value)} {main : Option Addr} {M N : Nat} {s s₁ s' : Shared} {p p₁ p' : Pos} {a b : DSt} (l : List (Int × Str)) (hl : l.length = 17)
    (hf : ∀ k v run, run ++ [(k, v)] = l.map (pairS q) → Go w M (f (some k, v) (main, run)) s p (ForInStep.yield b) s₁ p₁) (h : Go w N (forIn rest b f) s₁ p₁ a s' p') :
    Go w (M + N) (forIn (l.map (itemS q) ++ rest) (main, []) f) s p a s' p' := by
  obtain ⟨l0, x, rfl⟩ : ∃ l0 x, l = l0 ++ [x] := ⟨l.dropLast, l.getLast (by intro e; subst e; cases hl), (List.dropLast_concat_getLast _).symm⟩
  rw [List.length_append, List.length_cons, List.length_nil] at hl
  rw [List.map_append, List.append_assoc]
  refine go_gather hA l0 [] (by simp only [List.length_nil]; lia) ?_
  rw [List.nil_append, List.map_cons, List.map_nil, List.cons_append, List.nil_append, List.forIn_cons]
  refine go_bind (hf _ _ _ ?_) h
  rw [List.map_append]
  rfl
theorem go_chunks {f : DF} (hd : 11 ≤ pre.length) (hA : ∀ main run k v s p, run.length + 1 < 17 → Go w 0 (f (some k, v) (main, run)) s p (ForInStep.yield (main, run ++ [(k, v)])) s p)
    (hC : ∀ k v run l s s₁ s₂ (N M : Nat) sub, run ++ [(k, v)] = l → l.length = 17 → Go w N (subDict l) s q sub s₁ q → Go w M (mergeMapping pre.length (.ref sub) false) s₁ q () s₂ q →
      Go w (N + M) (f (some k, v) (some pre.length, run)) s q (ForInStep.yield (some pre.length, [])) s₂ q)
    {rest : List (Option (Sem Value) × Sem Value)} {N : Nat} {a : DSt} {s' : Shared} {p' : Pos} : ∀ (Cs : List (List (Int × Str))) (es : List DictEntry) (n : Nat) (post : List Obj) (tk : Nat), es ≠ [] → (∀ c ∈ Cs, c.length = 17) → es.length + 17 * Cs.length < 1000 →
    (es.map DictEntry.hash ++ Cs.flatten.map fun c => hashInt c.1).Nodup →
    Go w N (forIn rest (some pre.length, []) f) ⟨hp pre (es ++ allE tk Cs) (n + 17 * Cs.length) (post ++ allO tk Cs), g, dr, tk + 51 * Cs.length, os⟩ q a s' p' →
    Go w (330 * Cs.length + N) (forIn (Cs.flatten.map (itemS q) ++ rest) (some pre.length, []) f) ⟨hp pre es n post, g, dr, tk, os⟩ q a s' p'
  | [], es, n, post, tk, _, _, _, _, h => by
    simp only [allE, allO, List.append_nil, List.length_nil, Nat.mul_zero, Nat.add_zero, Nat.zero_add, List.flatten_nil, List.map_nil, List.nil_append] at h ⊢
    exact h
  | c :: r, es, n, post, tk, he, hc, hl, hn, h => by
    have hc17 := hc c List.mem_cons_self
    simp only [List.length_cons] at hl
    rw [List.flatten_cons, List.map_append] at hn
    have hcn : (c.map fun c => hashInt c.1).Nodup := (List.nodup_append.mp (List.nodup_append.mp hn).2.1).1
    have hec : (es.map DictEntry.hash ++ (entsAt tk c).map DictEntry.hash).Nodup := by
      rw [entsAt_hash, ← List.append_assoc] at *
      exact (List.nodup_append.mp hn).1
    rw [List.flatten_cons, List.map_append, List.append_assoc]
    refine go_cast (n := 330 + (330 * r.length + N)) (by simp only [List.length_cons]; lia) ?_
    have hsub := go_sub (w := w) (g := g) (dr := dr) (os := os) (q := q) (tk := tk) (pre := pre ++ dictO es n :: post) (l := c) (by simp only [List.length_append, List.length_cons]; lia) (by lia) (by lia) hcn
    have e1 : hp (pre ++ dictO es n :: post) (entsAt tk c) c.length [] = hp pre es n (post ++ [dictO (entsAt tk c) 17]) := by
      show Heap.mk _ _ = Heap.mk _ _
      rw [hc17]
      simp
    have e2 : (pre ++ dictO es n :: post).length = pre.length + 1 + post.length := by simp only [List.length_append, List.length_cons]; lia
    rw [e1, e2] at hsub
    have hm := go_merge (w := w) (g := g) (dr := dr) (os := os) (q := q) (tk := tk + 3 * c.length) (pre := pre) (post := post) (es := es) (l := entsAt tk c) (n := n) (k := 17) hd he (by rw [entsAt_len]; lia) hec (entsAt_key c tk)
    refine go_chunk hA c hc17 (b := (some pre.length, [])) (s₁ := ⟨hp pre (es ++ entsAt tk c) (n + 17) (post ++ [dictO (entsAt tk c) 17]), g, dr, tk + 51, os⟩) (p₁ := q) (fun k v run e => ?_) ?_
    · rw [entsAt_len, hc17] at hm
      rw [hc17] at hsub
      exact hC k v run _ _ _ _ _ _ _ e (by rw [List.length_map]; exact hc17) hsub hm
    · refine go_chunks hd hA hC r (es ++ entsAt tk c) (n + 17) (post ++ [dictO (entsAt tk c) 17]) (tk + 51) (by simp [he]) (fun c' h' => hc c' (List.mem_cons_of_mem _ h')) (by rw [List.length_append, entsAt_len]; lia) (by rw [List.map_append, entsAt_hash, List.append_assoc]; exact hn) ?_
      simp only [allE, allO, List.length_cons] at h
      have e3 : n + 17 + 17 * r.length = n + 17 * (r.length + 1) := by lia
      have e4 : tk + 51 + 51 * r.length = tk + 51 * (r.length + 1) := by lia
      rw [e3, e4, List.append_assoc, List.append_assoc]
      exact h
end
end Mine
end
section
open PySem PySem.W PySem.Calls PyProof.Rows
namespace Mine
section
variable {w : World} {g : Array GenState} {dr : Drawn} {os : OsState} {q : Pos} {pre : List Obj} {tk : Nat}
theorem go_display (hd : 11 ≤ pre.length) (first : List (Int × Str)) (Cs : List (List (Int × Str))) (last : List (Int × Str)) (h1 : first.length = 17) (h2 : ∀ c ∈ Cs, c.length = 17) (h3 : last.length ≤ 15) (h4 : last ≠ [])
    (h5 : 17 + 17 * Cs.length + last.length < 1000) (hn : ((first ++ Cs.flatten ++ last).map fun c => hashInt c.1).Nodup) :
    Go w (2 + 13 * 17 + (330 * Cs.length + (6 + 19 * last.length))) (dictDisplay ((first ++ Cs.flatten ++ last).map (itemS q))) ⟨⟨pre.toArray, life0⟩, g, dr, tk, os⟩ q (.ref pre.length)
      ⟨hp pre (entsAt tk first ++ allE (tk + 51) Cs ++ entsS (tk + 51 + 51 * Cs.length) last) (17 + 17 * Cs.length + last.length) (allO (tk + 51) Cs ++ [dictO (entsS (tk + 51 + 51 * Cs.length) last) last.length]), g, dr, tk + 51 + 51 * Cs.length + 3 * last.length, os⟩ q := by
  unfold dictDisplay
  refine go_cast (n := (2 + 13 * 17 + (330 * Cs.length + 0)) + (6 + 19 * last.length)) (by lia) ?_
  rw [List.map_append, List.map_append, List.append_assoc]
  refine go_bind (a := ((some pre.length, last.map (pairS q)) : DSt)) (s₁ := ⟨hp pre (entsAt tk first ++ allE (tk + 51) Cs) (17 + 17 * Cs.length) (allO (tk + 51) Cs), g, dr, tk + 51 + 51 * Cs.length, os⟩) (p₁ := q) ?_ ?_
  · refine go_chunk ?hA first h1 (b := ((some pre.length, []) : DSt)) (s₁ := ⟨hp pre (entsAt tk first) 17 [], g, dr, tk + 51, os⟩) (p₁ := q) ?hB ?_
    case hA =>
      intro main run k v s p h
      have e : ((run ++ [(k, v)]).length == 17) = false := by
        rw [beq_eq_false_iff_ne, List.length_append, List.length_cons, List.length_nil]; lia
      dsimp only
      rw [e]
      exact go_pure
    case hB =>
      intro k v run e
      dsimp only
      rw [e]
      have hlen : ((first.map (pairS q)).length == 17) = true := by rw [List.length_map, h1]; rfl
      have hne : (first.map (pairS q)).isEmpty = false := by
        cases first with
        | nil => cases h1
        | cons => rfl
      rw [hlen, if_pos rfl, hne]
      simp only [Bool.false_eq_true, if_false]
      have hs := go_sub (w := w) (g := g) (dr := dr) (os := os) (q := q) (tk := tk) (pre := pre) (l := first) hd (by lia) (by lia) (by rw [List.append_assoc, List.map_append] at hn; exact (List.nodup_append.mp hn).1)
      rw [h1] at hs
      exact go_bind (n := 2 + 13 * 17) (m := 0) (go_bind (n := 2 + 13 * 17) (m := 0) hs go_pure) go_pure
    refine go_chunks hd ?hA ?hC Cs (entsAt tk first) 17 [] (tk + 51) ?h1 h2 ?h3 ?h4 ?h5
    case hA =>
      intro main run k v s p h
      have e : ((run ++ [(k, v)]).length == 17) = false := by
        rw [beq_eq_false_iff_ne, List.length_append, List.length_cons, List.length_nil]; lia
      dsimp only
      rw [e]
      exact go_pure
    case hC =>
      intro k v run l s s₁ s₂ N M sub e hl hsub hm
      dsimp only
      rw [e]
      have hlen : (l.length == 17) = true := by rw [hl]; rfl
      have hne : l.isEmpty = false := by
        cases l with
        | nil => cases hl
        | cons => rfl
      rw [hlen, if_pos rfl, hne]
      simp only [Bool.false_eq_true, if_false]
      exact go_bind (n := N + M) (m := 0) (go_bind (n := N) (go_holding hsub) (go_bind (n := M) (m := 0) (go_onRaise (go_holding hm)) go_pure)) go_pure
    case h1 =>
      intro e
      have := congrArg List.length e
      rw [entsAt_len, h1] at this
      cases this
    case h3 => rw [entsAt_len]; lia
    case h4 =>
      rw [entsAt_hash, ← List.map_append]
      rw [List.map_append] at hn
      exact (List.nodup_append.mp hn).1
    case h5 =>
      rw [List.nil_append]
      rw [← List.append_nil (List.map (itemS q) last)]
      refine go_gather ?hA2 last [] (by simp only [List.length_nil]; lia) ?_
      case hA2 =>
        intro main run k v s p h
        have e : ((run ++ [(k, v)]).length == 17) = false := by
          rw [beq_eq_false_iff_ne, List.length_append, List.length_cons, List.length_nil]; lia
        dsimp only
        rw [e]
        exact go_pure
      rw [List.nil_append, List.forIn_nil]
      exact go_pure
  · dsimp only
    have hne : (last.map (pairS q)).isEmpty = false := by
      cases last with
      | nil => exact absurd rfl h4
      | cons => rfl
    rw [hne]
    simp only [Bool.false_eq_true, if_false]
    have hln : (last.map fun c => hashInt c.1).Nodup := by
      rw [List.map_append] at hn
      exact (List.nodup_append.mp hn).2.1
    have hs := go_subS (w := w) (g := g) (dr := dr) (os := os) (q := q) (tk := tk + 51 + 51 * Cs.length) (pre := pre ++ dictO (entsAt tk first ++ allE (tk + 51) Cs) (17 + 17 * Cs.length) :: allO (tk + 51) Cs) (l := last)
      (by simp only [List.length_append, List.length_cons]; lia) h3 hln
    have allO_len : ∀ (Cs : List (List (Int × Str))) (t : Nat), (allO t Cs).length = Cs.length := by
      intro Cs
      induction Cs with
      | nil => intro t; rfl
      | cons c r ih => intro t; simp [allO, ih]
    have allE_hash : ∀ (Cs : List (List (Int × Str))) (t : Nat), (allE t Cs).map DictEntry.hash = Cs.flatten.map fun c => hashInt c.1 := by
      intro Cs
      induction Cs with
      | nil => intro t; rfl
      | cons c r ih => intro t; simp [allE, ih, entsAt_hash]
    have allE_len : (allE (tk + 51) Cs).length = 17 * Cs.length := by
      have := congrArg List.length (allE_hash Cs (tk + 51))
      rw [List.length_map, List.length_map] at this
      rw [this]
      clear this hs hln hn h5
      induction Cs with
      | nil => rfl
      | cons c r ih =>
        rw [List.flatten_cons, List.length_append, ih (fun c' h' => h2 c' (List.mem_cons_of_mem _ h')), h2 c List.mem_cons_self, List.length_cons]
        lia
    have e1 : hp (pre ++ dictO (entsAt tk first ++ allE (tk + 51) Cs) (17 + 17 * Cs.length) :: allO (tk + 51) Cs) (entsS (tk + 51 + 51 * Cs.length) last) last.length [] =
        hp pre (entsAt tk first ++ allE (tk + 51) Cs) (17 + 17 * Cs.length) (allO (tk + 51) Cs ++ [dictO (entsS (tk + 51 + 51 * Cs.length) last) last.length]) := by
      show Heap.mk _ _ = Heap.mk _ _
      simp
    have e2 : (pre ++ dictO (entsAt tk first ++ allE (tk + 51) Cs) (17 + 17 * Cs.length) :: allO (tk + 51) Cs).length = pre.length + 1 + (allO (tk + 51) Cs).length := by simp only [List.length_append, List.length_cons]; lia
    rw [e1, e2] at hs
    have hm := go_merge (w := w) (g := g) (dr := dr) (os := os) (q := q) (tk := tk + 51 + 51 * Cs.length + 3 * last.length) (pre := pre) (post := allO (tk + 51) Cs) (es := entsAt tk first ++ allE (tk + 51) Cs)
      (l := entsS (tk + 51 + 51 * Cs.length) last) (n := 17 + 17 * Cs.length) (k := last.length) hd (by
        intro e
        have := congrArg List.length e
        rw [List.length_append, entsAt_len, h1] at this
        simp only [List.length_nil] at this
        lia) (by rw [List.length_append, entsAt_len, entsS_len, allE_len]; lia) (by
        rw [List.map_append, entsAt_hash, allE_hash, entsS_hash, ← List.map_append, ← List.map_append]; exact hn) (entsS_key last _)
    rw [entsS_len] at hm
    refine go_cast (n := ((1 + 13 * last.length) + (5 + 6 * last.length)) + 0) (by lia) ?_
    refine go_bind (a := some pre.length) (s₁ := ⟨hp pre (entsAt tk first ++ allE (tk + 51) Cs ++ entsS (tk + 51 + 51 * Cs.length) last) (17 + 17 * Cs.length + last.length) (allO (tk + 51) Cs ++ [dictO (entsS (tk + 51 + 51 * Cs.length) last) last.length]), g, dr, tk + 51 + 51 * Cs.length + 3 * last.length, os⟩) (p₁ := q) ?_ go_pure
    exact go_bind (go_holding hs) (go_bind (n := 5 + 6 * last.length) (m := 0) (go_onRaise (go_holding hm)) go_pure)
end
end Mine
end
section
set_option maxHeartbeats 0
open PySem PySem.W PySem.Calls PyProof.Rows
namespace Mine
noncomputable def asc : List Int → Bool
  | [] => true
  | [_] => true
  | a :: b :: r => decide (a < b) && asc (b :: r)
theorem asc_lt : ∀ (l : List Int) (a : Int), asc (a :: l) = true → ∀ b ∈ l, a < b
  | [], _, _, _, h => nomatch h
  | c :: r, a, h, b, hb => by
    simp only [asc, Bool.and_eq_true, decide_eq_true_eq] at h
    rcases List.mem_cons.mp hb with rfl | hb
    · exact h.1
    · exact Int.lt_trans h.1 (asc_lt r c h.2 b hb)
theorem asc_nodup : ∀ (l : List Int), asc l = true → l.Nodup
  | [], _ => List.nodup_nil
  | a :: l, h => by
    refine List.nodup_cons.mpr ⟨fun hm => absurd (asc_lt l a h a hm) (Int.lt_irrefl a), asc_nodup l ?_⟩
    cases l with
    | nil => rfl
    | cons b r => simp only [asc, Bool.and_eq_true] at h; exact h.2
noncomputable def b3first : List (Int × Str) := b3pairs.take 17
noncomputable def b3mid : List (List (Int × Str)) := (List.range 37).map fun i => (b3pairs.drop (17 * (i + 1))).take 17
noncomputable def b3last : List (Int × Str) := b3pairs.drop 646
noncomputable def q17 : Pos := match nth top 17 with
  | .Assign _ v _ => v.pos
  | _ => pos0
noncomputable def p17 : Pos := match nth top 17 with
  | .Assign _ _ p => p
  | _ => pos0
noncomputable def ts17 : List PySem.Expr := match nth top 17 with
  | .Assign ts _ _ => ts
  | _ => []
theorem b3_parts : b3pairs = b3first ++ b3mid.flatten ++ b3last := by kernel_rfl
theorem b3_asc : asc (b3pairs.map fun c => hashInt c.1) = true := by kernel_rfl
theorem b3_h1 : b3first.length = 17 := by kernel_rfl
theorem b3_h2 : ∀ c ∈ b3mid, c.length = 17 := by
  have : b3mid.all (fun c => c.length == 17) = true := by kernel_rfl
  intro c hc
  exact beq_iff_eq.mp (List.all_eq_true.mp this c hc)
theorem b3_h3 : b3last.length = 4 := by kernel_rfl
theorem b3_mid : b3mid.length = 37 := by kernel_rfl
theorem exec17 : exec (nth top 17) env0 = (standAt p17 >>= fun _ => (standAt q17 >>= fun _ => dictDisplay (b3pairs.map (itemS q17))) >>= fun v => assignStores env0 v none ((assignEach ts17 env0).map (·.2))) := by kernel_rfl
end Mine
end
section
set_option maxHeartbeats 0
open PySem PySem.W PySem.Calls PyProof.Rows
namespace Mine
noncomputable def E17 : List DictEntry := entsAt 430 b3first ++ allE (430 + 51) b3mid ++ entsS (430 + 51 + 51 * b3mid.length) b3last
noncomputable def O17 : List Obj := allO (430 + 51) b3mid ++ [dictO (entsS (430 + 51 + 51 * b3mid.length) b3last) b3last.length]
noncomputable abbrev pre17 (w : World) : List Obj := (tD w.params).list 140
theorem pre17_len (w : World) : (pre17 w).length = 140 := by rw [pre17, BT.list, List.length_map, List.length_range]
theorem tail_go (w : World) : ∀ (K : Flow → Sem Fin) (H : Value → Sem Fin) (gd : Bool → Bool) (lv : List Value → List Value) (os : OsState),
    topGo treeTable pw w 11 ann0 7 ⟨hp (pre17 w) E17 650 O17, Array.mk [], boot_drawn, 2380, os⟩ ⟨(assignStores env0 (.ref 140) none ((assignEach ts17 env0).map (·.2))).wrap K H gd lv, codeM, q17, B0⟩ = some ((stE w os).abs, ⟨K .next, codeM, posE, B0⟩) := by
  intros
  rw [Fast.te15667345088766844465, Fast.te14364793385576792824, Fast.te2470068587113613483, Fast.te15628205474173192105]; kernel_rfl
end Mine
end
section
open PySem PySem.W PySem.Calls PyProof.Rows
namespace Mine
set_option maxHeartbeats 0
theorem seg1 (w : World) : (fun os => segRunT treeTable pw w 11 ann0 1 700 (stA w os) (piecesOf (top.take 15) env0 codeM pos0 B0)) = fun os => some (.next, stB w os, codeM, posB) := by
  rw [Fast.te10110043849684766642, Fast.te14364793385576792824]; kernel_rfl
theorem seg3 (w : World) : (fun os => segRunT treeTable pw w 11 ann0 1 40 (stC w os) (piecesOf [nth top 16] env0 codeM posC B0)) = fun os => some (.next, stD w os, codeM, posD) := by
  rw [Fast.te10110043849684766642, Fast.te14364793385576792824]; kernel_rfl
theorem seg5 (w : World) : (fun os => segRunT treeTable pw w 11 ann0 1 300 (stE w os) (piecesOf (top.drop 18) env0 codeM posE B0)) = fun os => some (.next, stF w os, codeM, posF) := by
  rw [Fast.te10110043849684766642, Fast.te14364793385576792824]; kernel_rfl
end Mine
end
section
open PySem PySem.W PySem.Calls PyProof.Rows
namespace Mine
set_option maxHeartbeats 0
theorem seg2 (w : World) : (fun os => segRunT treeTable pw w 11 ann0 1 1000 (stB w os) (piecesOf [nth top 15] env0 codeM posB B0)) = fun os => some (.next, stC w os, codeM, posC) :=
  byRow2 "special-get-raises" (P := fun w => (fun os => segRunT treeTable pw w 11 ann0 1 1000 (stB w os) (piecesOf [nth top 15] env0 codeM posB B0)) = fun os => some (.next, stC w os, codeM, posC))
    (fun w => by rw [Fast.te10110043849684766642, Fast.te14364793385576792824]; kernel_rfl) (fun w => by rw [Fast.te10110043849684766642, Fast.te14364793385576792824]; kernel_rfl) w
end Mine
end
section
open PySem PySem.W PySem.Calls PyProof.Rows
namespace Mine
set_option maxHeartbeats 0
theorem pre0 (w : World) : (fun os => topGo treeTable pw w 11 ann0 12 ⟨boot_heap w.params, Array.mk [], boot_drawn, boot_toks, os⟩ (topStub pw)) = fun os => some ((stA w os).abs, ⟨denote treeTable codeM, codeM, pos0, B0⟩) := by
  rw [Fast.te15667345088766844465, Fast.te14364793385576792824, Fast.te11892475500146522536]; kernel_rfl
theorem blk0 (w : World) : (fun os => segRun treeTable pw w 11 ann0 1 1 (stA w os).abs (blockOf (behindTheImports pw) env0 codeM pos0 B0)) = fun os => some (.next, (stA w os).abs, codeM, pos0) := by
  rw [Fast.te14374325043358763698, Fast.te14364793385576792824]; kernel_rfl
theorem fin0 (w : World) : (fun os => topRun treeTable pw w 11 ann0 2 (stF w os).abs ⟨doneF .next, codeM, posF, B0⟩) = fun os => some (stF w os).abs := by
  rw [Fast.te14082659384304107361, Fast.te14364793385576792824]; kernel_rfl
theorem body0 : behindTheImports pw = top.take 15 ++ ([nth top 15] ++ ([nth top 16] ++ ([nth top 17] ++ (top.drop 18 ++ [])))) := by kernel_rfl
theorem open0 : opening pw = plainProg pw.main.scope.names := by kernel_rfl
theorem fence0 : ∀ s, fenceModules? pw s = some s := fun s => by kernel_rfl
theorem size0 (w : World) : ((boot_heap w.params).isNs mainGlobals && (Array.mk [] : Array GenState).size == 0, (boot_heap w.params).objs.size, (boot_heap w.params).nsMap mainGlobals "__annotations__") = (true, 11, ann0) := by kernel_rfl
end Mine
end
section
open PySem PySem.W PySem.Calls PyProof.Rows
namespace Mine
noncomputable def q : Program := { pw with main := { pw.main with body := ([0, 2, 3, 5, 6, 7, 8, 9, 10, 11, 16, 18, 20, 21, 22, 23, 24, 25] : List Nat).map (nth top) } }
noncomputable abbrev loose : List PySem.Str := [Str.ofString "bisect_right", Str.ofString "b1_set", Str.ofString "b3_exceptions"]
noncomputable abbrev heapF (P : Params) : Heap := absHeap (tF P) 218 life0
noncomputable abbrev sF (w : World) (os : OsState) : Shared := ⟨heapF w.params, Array.mk [], boot_drawn, 2428, os⟩
noncomputable abbrev rr : RowW := PySem.Challenge.rw_wy0048_01.row.toRowW
noncomputable abbrev Xt0 : Shared → Bool := fun s => xlAt q [] s && recOk (RowW.records rr) s
set_option maxHeartbeats 0
theorem look1 (w : World) : (fun os => (staticsOk (importedModules pw.main.body) (boot_heap w.params) (heapF w.params) && namesBound pw (heapF w.params) && gensDone (sF w os) && laidKept (boot_heap w.params) (heapF w.params))) = fun _ => true := by kernel_rfl
theorem look2 (w : World) (os : OsState) : openSeen q loose (importedModules pw.main.body) Xt0 true (sF w os) = openGood q loose := by
  rw [Fast.te4187177175401517315]
  delta Fast.tw4187177175401517315 openGood
  dsimp only
  exact looks_pair (by kernel_rfl) (looks_pair (by kernel_rfl) (looks_pair (by kernel_rfl) (looks_pair (by kernel_rfl) (looks_pair (by kernel_rfl) (looks_pair (by kernel_rfl) (looks_pair (by kernel_rfl) (looks_pair (by kernel_rfl) (by kernel_rfl))))))))
noncomputable abbrev as2 : List Nat := 86 :: 93 :: 192 :: as
theorem keys2 (P : Params) : as2 = (((86, o86 P) :: (93, o93 P) :: (192, o192 P) :: K P : Frag)).map (·.1) := by kernel_rfl
noncomputable abbrev HH : Hook := kHook (fun P => (86, o86 P) :: (93, o93 P) :: (192, o192 P) :: K P) as2 keys2
theorem look3 (w : World) : (fun os => HH.obs (sF w os)) = fun _ => HH.val w := by kernel_rfl
end Mine
end
section
set_option maxHeartbeats 0
open PySem PySem.W PySem.Calls PyProof.Rows
namespace Mine
theorem go17 (w : World) (os : OsState) : Go w (1 + (1 + (2 + 13 * 17 + (330 * 37 + (6 + 19 * 4))) + 7)) (exec (nth top 17) env0) (stD w os).abs posD .next (stE w os).abs posE := by
  have hd := go_display (w := w) (g := Array.mk []) (dr := boot_drawn) (os := os) (q := q17) (pre := pre17 w) (tk := 430) (by rw [pre17_len]; decide) b3first b3mid b3last b3_h1 b3_h2 (by rw [b3_h3]; decide)
    (by intro e; have := b3_h3; rw [e] at this; cases this) (by rw [b3_mid, b3_h3]; decide) (by rw [← b3_parts]; exact asc_nodup _ b3_asc)
  rw [← b3_parts, pre17_len] at hd
  have eT : 430 + 51 + 51 * b3mid.length + 3 * b3last.length = 2380 := by rw [b3_mid, b3_h3]
  have eN : 17 + 17 * b3mid.length + b3last.length = 650 := by rw [b3_mid, b3_h3]
  rw [eT, eN, b3_mid, b3_h3] at hd
  have hO : (hp (pre17 w) (entsAt 430 b3first ++ allE (430 + 51) b3mid ++ entsS (430 + 51 + 51 * 37) b3last) 650 (allO (430 + 51) b3mid ++ [dictO (entsS (430 + 51 + 51 * 37) b3last) 4])) = hp (pre17 w) E17 650 O17 := by
    unfold E17 O17
    rw [b3_mid, b3_h3]
  rw [hO] at hd
  rw [exec17]
  refine go_bind (go_standAt) ?_
  show Go w _ _ ⟨⟨(pre17 w).toArray, life0⟩, Array.mk [], boot_drawn, 430, os⟩ _ _ _ _
  refine go_bind (a := .ref 140) (go_bind (n := 1) go_standAt hd) ?_
  intro K H gd lv N r h
  exact go_top (tail_go w K H gd lv os) h
theorem run0 (w : World) (os : OsState) : topRun treeTable pw w 11 ann0 (12 + (1 + (700 + (1000 + (40 + ((1 + (1 + (2 + 13 * 17 + (330 * 37 + (6 + 19 * 4))) + 7)) + (300 + 2))))))) ⟨boot_heap w.params, Array.mk [], boot_drawn, boot_toks, os⟩ (topStub pw) = some (stF w os).abs := by
  refine go_top (congrFun (pre0 w) os) ?_
  refine piece_block (congrFun (blk0 w) os) ?_
  rw [body0]
  refine piece_app (segRun_of (congrFun (seg1 w) os)) ?_
  refine piece_app (segRun_of (congrFun (seg2 w) os)) ?_
  refine piece_app (segRun_of (congrFun (seg3 w) os)) ?_
  show topRun _ _ _ _ _ _ _ ⟨(execs (nth top 17 :: (top.drop 18 ++ [])) env0).wrap doneF (leaveH env0) id id, _, _, _⟩ = _
  rw [execs_cons_wrap]
  refine go17 w os _ _ _ _ _ _ ?_
  refine piece_app (segRun_of (congrFun (seg5 w) os)) ?_
  exact piece_nil (congrFun (fin0 w) os)
noncomputable def NN : Nat := 28982
theorem left0 : LeftO pw q loose Xt0 HH.obs HH.val NN :=
  LeftO.of_pieces (H₀ := boot_heap) (H₁ := heapF) (gs₀ := Array.mk []) (gs₁ := Array.mk []) (d₀ := boot_drawn) (d₁ := boot_drawn) (k₀ := boot_toks) (k₁ := 2428) (m₀ := 11) (ann := ann0)
    (boot_open open0 (by kernel_rfl) fence0) size0 run0 (by kernel_rfl)
    (fun w => funext fun os => by
      have h1 := congrFun (look1 w) os
      have h3 := congrFun (look3 w) os
      exact Prod.ext h1 (Prod.ext (look2 w os) h3))
end Mine
end
section
open PySem PySem.W PySem.Calls PyProof.Rows
namespace Mine
noncomputable def Ext (h h' : Heap) : Prop := ∀ b o, h.get? b = some o → h'.get? b = some o
theorem Ext.refl (h : Heap) : Ext h h := fun _ _ e => e
theorem Ext.trans {a b c : Heap} (x : Ext a b) (y : Ext b c) : Ext a c := fun _ _ e => y _ _ (x _ _ e)
noncomputable abbrev TR (mg mb : PySem.Str → Option Value) (h : Heap) : Prop := TopRead q loose mg mb h
noncomputable abbrev KX (w : World) (h : Heap) : Prop := (K w.params).In h
section
variable {prog : Program} {w : World} {A : Around} {E : Value → Shared → Prop} {s : Shared} {Q : Value → Shared → Prop} {mg mb : PySem.Str → Option Value}
theorem enterE {K : Frag} {name qual : PySem.Str} {params : Arguments} {body body' : List Stmt} {scope scope' : Scope} {dV kV doc pm cdv ct oc : Value} {an od : Option Addr} {osl : Array (Option Value)} {f : Addr} {vals : List Value} {kw : List (PySem.Str × Value)} (binds : List (PySem.Str × Value))
    (X : K.In s.heap) (hlim : s.heap.NoLimit) (ho : K.lookup f = some ⟨oc, od, .func (fnOf name qual params body scope dV kV doc pm an cdv ct), osl⟩) (hcd : codeIn K cdv qual = true) (hroom : A.depth < recursionLimit)
    (hb : body = body') (hs : scope = scope')
    (hbind : BindsTo s (fnOf name qual params body scope dV kV doc pm an cdv ct) ⟨vals, kw⟩ binds) (hloc : ∀ y ∈ binds, scope'.names.lookup y.1 = some .local)
    (hcell : ∀ x ∈ scope'.names, x.2 ≠ .cell) (hco : scope'.isCoroutine = false) (hgen : scope'.isGenerator = false) (hk : scope'.kind = .function)
    (h : ∀ h₁ L, Fr s.heap L h₁ (fun y => binds.reverse.lookup y) → News s.heap L h₁ [] →
      wpAny (model prog w) (A.deeper (envX qual scope' L f cdv [])) (execs body' (envX qual scope' L f cdv []))
        (fun fl s' => Q (match fl with | .ret v => v | _ => .none) s') (fun _ _ => False) { s with heap := h₁, toks := s.toks + binds.length }) :
    wpAny (model prog w) A (call (.ref f) vals kw) Q E s := by
  subst hb hs
  refine wpAny_call ?_
  refine codeAny_call_def (fd := fnX name qual params body scope [] dV kV doc pm an cdv ct) (body := body) (binds := binds) hroom (X _ _ ho) rfl hlim (codeRec_of X hcd) rfl hbind hcell hloc (fun h₁ hns hk₁ => ?_) hco hgen hk
  exact wpAny_mono (h h₁ s.heap.objs.size ⟨hns, hk₁, Nat.le_refl _⟩ News.nil) (fun _ _ x => x) fun _ _ x => x.elim
end
end Mine
end
section
open PySem PySem.W PySem.Calls PyProof.Rows PyProof.Rows.LCg
namespace Mine
noncomputable def rest (h₀ h : Heap) (L : Addr) (Ds : List Addr) : List (Addr × Obj) := ownOf h₀ ((List.range h.objs.size).filter fun b => b != L && !Ds.contains b) h
theorem rest_news {h₀ h : Heap} {L : Addr} {Ds : List Addr} : News h₀ L h (rest h₀ h L Ds) := news_ownOf (by simp)
theorem mem_rest {h₀ h : Heap} {L b : Addr} {Ds : List Addr} {o : Obj} (hL : b ≠ L) (hD : b ∉ Ds) (hn : h₀.get? b = none) (e : h.get? b = some o) : (b, o) ∈ rest h₀ h L Ds :=
  mem_ownOf (List.mem_filter.mpr ⟨List.mem_range.mpr (Heap.lt_size e), by simp [hL, hD]⟩) hn e
theorem rest_ne {h₀ h : Heap} {L : Addr} {Ds : List Addr} : ∀ p ∈ rest h₀ h L Ds, p.1 ∉ Ds := fun p hp => by
  have := (List.mem_filter.mp (ownOf_sub p hp)).2
  simp at this
  exact this.2
theorem nApp {h₀ h : Heap} {L : Addr} {a b : List (Addr × Obj)} (x : News h₀ L h a) (y : News h₀ L h b) : News h₀ L h (a ++ b) := fun p hp => (List.mem_append.mp hp).elim (x p) (y p)
theorem nSub {h₀ h : Heap} {L : Addr} {a b : List (Addr × Obj)} (x : News h₀ L h b) (s : ∀ p ∈ a, p ∈ b) : News h₀ L h a := fun p hp => x p (s p hp)
theorem kept {h₀ h h' : Heap} {L : Addr} {Ds : List Addr} {m m' : Str → Option Value} {new : List (Addr × Obj)} (F' : Fr h₀ L h' m') (F : Fr h₀ L h m) (N' : News h₀ L h' (new ++ rest h₀ h L Ds)) {b : Addr} {o : Obj} (hL : b ≠ L) (hD : b ∉ Ds) (e : h.get? b = some o) : h'.get? b = some o := by
  cases hn : h₀.get? b with
  | some o₀ =>
    have := F.keep b o₀ hn
    rw [e] at this
    cases this
    exact F'.keep b o hn
  | none => exact (N' _ (List.mem_append_right _ (mem_rest hL hD hn e))).1
inductive TurnEnd (h₀ : Heap) (L : Addr) (m : Str → Option Value) (D : Addr) (Mo : List Addr) (tail : List (Addr × Obj)) (J : List Value → List (Addr × Obj) → List (Addr × Obj) → Prop) (s : Shared) : Prop
  | intro (ys : List Value) (mo new : List (Addr × Obj)) (F : Fr h₀ L s.heap m) (N : News h₀ L s.heap ((D, lst ys) :: (mo ++ (new ++ tail)))) (hmo : mo.map (·.1) = Mo) (hn : ∀ p ∈ new, p.1 ≠ D ∧ p.1 ∉ Mo ∧ ∀ q ∈ tail, p.1 ≠ q.1) (hJ : J ys mo new)
noncomputable def Same (s s' : Shared) : Prop := ∃ h tk, s' = { s with heap := h, toks := tk }
theorem Same.refl (s : Shared) : Same s s := ⟨_, _, rfl⟩
theorem Same.mk (s : Shared) (h : Heap) (tk : Nat) : Same s { s with heap := h, toks := tk } := ⟨_, _, rfl⟩
theorem Same.trans {a b c : Shared} (x : Same a b) (y : Same b c) : Same a c := by
  obtain ⟨h, tk, rfl⟩ := x
  obtain ⟨h', tk', rfl⟩ := y
  exact ⟨_, _, rfl⟩
section
variable {prog : Program} {w : World} {A : Around} {E : Value → Shared → Prop} {s : Shared} {h₀ : Heap} {L : Addr} {m : Str → Option Value} {env : Env}
noncomputable def turnForm (g : Comprehension) (it : Value) (cenv : Env) (emit : Sem Unit) (nxt : Sem Fin) : Sem Fin := do
  standAt g.iter.pos
  match ← pyNext it with
  | none => pure (.done .next)
  | some v =>
    letOwnedTupleGo g.target it v
    assign g.target cenv v
    let mut ok := true
    for c in g.ifs do
      if ok then ok ← isTrue c cenv (eval c cenv)
    if ok then emit
    nxt
noncomputable abbrev testsOf (ifs : List Expr) (cenv : Env) : Sem Bool := forIn ifs true fun c r => if r = true then do let ok ← isTrue c cenv (eval c cenv); pure (ForInStep.yield ok) else pure (ForInStep.yield r)
structure Feed (prog : Program) (w : World) (A : Around) (target : Expr) (I : Addr) (fp wr : List Addr) (n : Nat) (P Md : Nat → Value → Heap → Prop) (St : Nat → Heap → Prop) : Prop where
  turns : KTurns prog w A target I fp wr n P Md St
  self : ∀ i (s : Shared) (Q : Value → Shared → Prop) (E : Value → Shared → Prop), St i s.heap → Q (.ref I) s → wpAny (model prog w) A (pyIter (.ref I)) Q E s
  has : ∀ i h, St i h → ∀ b ∈ wr, ∃ o, h.get? b = some o
structure Lays (prog : Program) (w : World) (A : Around) (target : Expr) (cenv : Env) (Ow : List Addr) (P : Nat → Value → Heap → Prop) (Cst : Heap → Prop) (Aft : Nat → Value → List (Addr × Obj) → Prop) : Prop where
  frame : ∀ h h', Cst h → (∀ b ∈ Ow, ∀ o, h.get? b = some o → h'.get? b = some o) → Cst h'
  has : ∀ h, Cst h → ∀ b ∈ Ow, ∃ o, h.get? b = some o
  lay : ∀ i v (s : Shared) (Q : Unit → Shared → Prop) (E : Value → Shared → Prop), P i v s.heap → Cst s.heap →
    (∀ h' tk own, Cst h' → Aft i v own → (∀ p ∈ own, h'.get? p.1 = some p.2 ∧ p.1 ∈ Ow) → (∀ b o, b ∉ Ow → s.heap.get? b = some o → h'.get? b = some o) → Q () { s with heap := h', toks := tk }) →
    wpAny (model prog w) A (assign target cenv v) Q E s
inductive LoopI (h₀ : Heap) (L D : Addr) (m : Str → Option Value) (Ow Mo wr : List Addr) (n : Nat) (St : Nat → Heap → Prop) (Cst : Heap → Prop) (news : List (Addr × Obj)) (J : Nat → List Value → List (Addr × Obj) → List (Addr × Obj) → Prop) (s : Shared) (k : Nat) (s' : Shared) : Prop
  | intro (i : Nat) (ys : List Value) (mo made : List (Addr × Obj)) (hs : Same s s') (hi : i ≤ n) (hk : k = n + 1 - i) (hst : St i s'.heap) (hC : Cst s'.heap) (F : Fr h₀ L s'.heap m) (N : News h₀ L s'.heap ((D, lst ys) :: (mo ++ (made ++ news)))) (hmo : mo.map (·.1) = Mo) (hm : ∀ p ∈ made, p.1 ≠ D ∧ p.1 ∉ Ow ∧ p.1 ∉ wr ∧ p.1 ∉ Mo) (hJ : J i ys mo made)
    (hk' : ∀ b o, b ∉ wr → b ∉ Ow → b ∉ D :: Mo → b ≠ L → s.heap.get? b = some o → s'.heap.get? b = some o)
theorem loopG {elt : Expr} {gens : List Comprehension} {scope : Scope} {pos : Pos} {depth : Nat} {g : Comprehension} {emit : Sem Unit} {cenv : Env} {I D : Addr} {Ow Mo fp wr : List Addr} {n : Nat} {P Md : Nat → Value → Heap → Prop} {St : Nat → Heap → Prop} {R : Result → Shared → Prop} {news mo₀ : List (Addr × Obj)} {ys₀ : List Value}
    (hform : compTurn (.ListComp elt gens scope pos) depth (.ref I) (.ref D) cenv = turnForm g (.ref I) cenv emit (again (.compLoop (.ListComp elt gens scope pos) depth (.ref I) (.ref D) cenv)))
    (W : Feed prog w A g.target I fp wr n P Md St) {Cst : Heap → Prop} {Aft : Nat → Value → List (Addr × Obj) → Prop} (Y : Lays prog w A g.target cenv Ow P Cst Aft)
    (hDf : D ∉ fp) (hOf : ∀ b ∈ Ow, b ∉ fp) (hLf : L ∉ fp) (hDO : D ∉ Ow) (hLO : L ∉ Ow) (hO : ∀ b ∈ Ow, h₀.get? b = none) (hwr : ∀ b ∈ wr, h₀.get? b = none ∧ ∀ p ∈ news, p.1 ≠ b)
    (hO' : ∀ p ∈ news, p.1 ∉ Ow) (hDn : ∀ p ∈ news, p.1 ≠ D)
    (hMf : ∀ b ∈ Mo, b ∉ fp ∧ b ∉ Ow ∧ b ≠ D ∧ ∀ p ∈ news, p.1 ≠ b) (hmo : mo₀.map (·.1) = Mo)
    (hst : St 0 s.heap) (hC : Cst s.heap) (F : Fr h₀ L s.heap m) (N : News h₀ L s.heap ((D, lst ys₀) :: (mo₀ ++ news)))
    (J : Nat → List Value → List (Addr × Obj) → List (Addr × Obj) → Prop) (hJ : J 0 ys₀ mo₀ [])
    (turn : ∀ i v ys mo made tail own (s₁ : Shared) (E' : Value → Shared → Prop), i < n → J i ys mo made → Aft i v own → Same s s₁ → Fr h₀ L s₁.heap m → News h₀ L s₁.heap ((D, lst ys) :: (mo ++ (own ++ (news ++ tail)))) → (∀ p ∈ made, p ∈ tail) →
      (∀ p ∈ own ++ (news ++ tail), p.1 ≠ D ∧ p.1 ∉ Mo) → mo.map (·.1) = Mo →
      wpAny (model prog w) A (testsOf g.ifs cenv) (fun ok s₃ => if ok = true then
        wpAny (model prog w) A emit (fun _ s₄ => Same s s₄ ∧ TurnEnd h₀ L m D Mo tail (fun ys' mo' new => J (i + 1) ys' mo' (new ++ made)) s₄) E' s₃
        else Same s s₃ ∧ TurnEnd h₀ L m D Mo tail (fun ys' mo' new => J (i + 1) ys' mo' (new ++ made)) s₃) E' s₁)
    (fin : ∀ h' tk ys mo made, J n ys mo made → Fr h₀ L h' m → News h₀ L h' ((D, lst ys) :: (mo ++ (made ++ news))) → mo.map (·.1) = Mo → (∀ p ∈ made, p.1 ≠ D ∧ p.1 ∉ Ow ∧ p.1 ∉ Mo) → Cst h' →
      (∀ b o, b ∉ wr → b ∉ Ow → b ∉ D :: Mo → b ≠ L → s.heap.get? b = some o → h'.get? b = some o) → R (.ok .next) { s with heap := h', toks := tk }) :
    codeAny (model prog w) A (.compLoop (.ListComp elt gens scope pos) depth (.ref I) (.ref D) cenv) R s := by
  have hD := N (D, lst ys₀) List.mem_cons_self
  have hDw : D ∉ wr := fun x => hDf (W.turns.sub _ x)
  have hLw : L ∉ wr := fun x => hLf (W.turns.sub _ x)
  have hOw : ∀ b ∈ Ow, b ∉ wr := fun b hb x => hOf b hb (W.turns.sub _ x)
  have hMw : ∀ b ∈ Mo, b ∉ wr := fun b hb x => (hMf b hb).1 (W.turns.sub _ x)
  have base_wr : ∀ b o, h₀.get? b = some o → b ∉ wr := fun b o e hb => by rw [(hwr b hb).1] at e; cases e
  have base_Ow : ∀ b o, h₀.get? b = some o → b ∉ Ow := fun b o e hb => by rw [hO b hb] at e; cases e
  have inMo : ∀ {mo : List (Addr × Obj)}, mo.map (·.1) = Mo → ∀ p ∈ mo, p.1 ∈ Mo := fun e p hp => e ▸ List.mem_map_of_mem (f := fun x : Addr × Obj => x.1) hp
  refine codeAny_loop rfl (LoopI h₀ L D m Ow Mo wr n St Cst news J s) ?_ (n + 1)
    ⟨0, ys₀, mo₀, [], .refl s, Nat.zero_le _, rfl, hst, hC, F, N, hmo, fun _ h => (nomatch h), hJ, fun _ _ _ _ _ _ e => e⟩
  rintro k s' ⟨i, ys, mo, made, hs, hi, rfl, hst', hC', F', N', hmo', hm', hJ', hk'⟩
  show wpAny _ A ((compTurn (.ListComp elt gens scope pos) depth (.ref I) (.ref D) cenv).onRaise (fun x => do noteFrame x cenv; theTreesLotGoes x)) _ _ s'
  refine wpAny_noted ?_
  rw [hform]
  unfold turnForm
  refine wpAny_bind (wpAny_standAt (wpAny_bind ?_))
  by_cases hlt : i < n
  · refine W.turns.item i _ _ _ hlt hst' fun v h₁ tk₁ hMd hk₁ => ?_
    refine wpAny_bind (W.turns.go i v _ _ _ hMd fun h₂ hP hst₂ hk₂ => ?_)
    refine wpAny_bind (Y.lay i v _ _ _ hP (Y.frame _ _ hC' fun b hb o e => hk₂ b o (hOw b hb) (hk₁ b o (hOw b hb) e)) fun h₃ tk₃ own hC₃ hA hown hk₃ => ?_)
    have up : ∀ b o, b ∉ wr → b ∉ Ow → s'.heap.get? b = some o → h₃.get? b = some o := fun b o h1 h2 e => hk₃ b o h2 (hk₂ b o h1 (hk₁ b o h1 e))
    have hst₃ : St (i + 1) h₃ := W.turns.frame _ _ _ hst₂ fun b hb o e => hk₃ b o (fun x => hOf b x hb) e
    have F₃ : Fr h₀ L h₃ m := ⟨F'.ns.at' fun o e => up L o hLw hLO e, fun b o e => up b o (base_wr b o e) (base_Ow b o e) (F'.keep b o e), F'.above⟩
    have hD₃ : h₃.get? D = some (lst ys) := up D _ hDw hDO (N' (D, lst ys) List.mem_cons_self).1
    have Nrest : News h₀ L h₃ (rest h₀ h₃ L (D :: Mo)) := rest_news
    have Nown : News h₀ L h₃ own := fun p hp => ⟨(hown p hp).1, fun x => hLO (x ▸ (hown p hp).2), hO _ (hown p hp).2⟩
    have Nmo : News h₀ L h₃ mo := fun p hp => by
      have z := N' p (List.mem_cons_of_mem _ (List.mem_append_left _ hp))
      have hM := inMo hmo' p hp
      exact ⟨up _ _ (hMw _ hM) (hMf _ hM).2.1 z.1, z.2⟩
    have Nnews : News h₀ L h₃ news := fun p hp => by
      have z := N' p (List.mem_cons_of_mem _ (List.mem_append_right _ (List.mem_append_right _ hp)))
      exact ⟨up _ _ (fun x => (hwr _ x).2 p hp rfl) (hO' p hp) z.1, z.2⟩
    have Nmade : News h₀ L h₃ made := fun p hp => by
      have z := N' p (List.mem_cons_of_mem _ (List.mem_append_right _ (List.mem_append_left _ hp)))
      exact ⟨up _ _ (hm' p hp).2.2.1 (hm' p hp).2.1 z.1, z.2⟩
    have N₃ : News h₀ L h₃ ((D, lst ys) :: (mo ++ (own ++ (news ++ rest h₀ h₃ L (D :: Mo))))) := fun p hp => by
      rcases List.mem_cons.mp hp with rfl | hp
      · exact ⟨hD₃, hD.2⟩
      · exact (nApp Nmo (nApp Nown (nApp Nnews Nrest))) p hp
    have hmade : ∀ p ∈ made, p ∈ rest h₀ h₃ L (D :: Mo) := fun p hp => mem_rest (Nmade p hp).2.1 (fun x => (List.mem_cons.mp x).elim (hm' p hp).1 (hm' p hp).2.2.2) (Nmade p hp).2.2 (Nmade p hp).1
    have hs₃ : Same s { s' with heap := h₃, toks := tk₃ } := hs.trans (.mk s' _ _)
    have ending : ∀ s₄ : Shared, Same s s₄ → TurnEnd h₀ L m D Mo (rest h₀ h₃ L (D :: Mo)) (fun ys' mo' new => J (i + 1) ys' mo' (new ++ made)) s₄ →
        ∃ k, k < n + 1 - i ∧ LoopI h₀ L D m Ow Mo wr n St Cst news J s k s₄ := by
      rintro s₄ hs₄ ⟨ys', mo', new, F₄, N₄, hmo₄, hnew, hJ₄⟩
      have N₄' : News h₀ L s₄.heap (new ++ rest h₀ h₃ L (D :: Mo)) := nSub N₄ fun p hp => List.mem_cons_of_mem _ (List.mem_append_right _ hp)
      have keep : ∀ b o, b ≠ L → b ∉ D :: Mo → h₃.get? b = some o → s₄.heap.get? b = some o := fun b o h1 h2 e => kept F₄ F₃ N₄' h1 h2 e
      have notDM : ∀ {b}, b ∉ fp → b ∉ fp := fun h => h
      refine ⟨n + 1 - (i + 1), by lia, i + 1, ys', mo', new ++ made, hs₄, hlt, rfl, W.turns.frame _ _ _ hst₃ fun b hb o e => keep b o (fun x => hLf (x ▸ hb)) (fun x => (List.mem_cons.mp x).elim (fun x => hDf (x ▸ hb)) fun x => (hMf b x).1 hb) e,
        Y.frame _ _ hC₃ fun b hb o e => keep b o (fun x => hLO (x ▸ hb)) (fun x => (List.mem_cons.mp x).elim (fun x => hDO (x ▸ hb)) fun x => (hMf b x).2.1 hb) e, F₄, fun p hp => ?_, hmo₄, fun p hp => ?_, hJ₄,
        fun b o h1 h2 h3 h4 e => keep b o h4 h3 (up b o h1 h2 (hk' b o h1 h2 h3 h4 e))⟩
      · rcases List.mem_cons.mp hp with rfl | hp
        · exact N₄ _ List.mem_cons_self
        · rcases List.mem_append.mp hp with hp | hp
          · exact N₄ p (List.mem_cons_of_mem _ (List.mem_append_left _ hp))
          · rcases List.mem_append.mp hp with hp | hp
            · rcases List.mem_append.mp hp with hp | hp
              · exact N₄' p (List.mem_append_left _ hp)
              · exact N₄' p (List.mem_append_right _ (hmade p hp))
            · exact ⟨keep _ _ (Nnews p hp).2.1 (fun x => (List.mem_cons.mp x).elim (hDn p hp) fun x => (hMf _ x).2.2.2 p hp rfl) (Nnews p hp).1, (Nnews p hp).2⟩
      · rcases List.mem_append.mp hp with hp | hp
        · have hnDM : p.1 ∉ D :: Mo := fun x => (List.mem_cons.mp x).elim (hnew p hp).1 (hnew p hp).2.1
          refine ⟨(hnew p hp).1, fun x => ?_, fun x => ?_, (hnew p hp).2.1⟩
          · obtain ⟨o, e⟩ := Y.has _ hC₃ _ x
            exact (hnew p hp).2.2 _ (mem_rest (fun z => hLO (z ▸ x)) hnDM (hO _ x) e) rfl
          · obtain ⟨o, e⟩ := W.has _ _ hst₃ _ x
            exact (hnew p hp).2.2 _ (mem_rest (fun z => hLw (z ▸ x)) hnDM (hwr _ x).1 e) rfl
        · exact hm' p hp
    refine wpAny_bind (wpAny_mono (turn i v ys mo made _ own { s' with heap := h₃, toks := tk₃ } _ hlt hJ' hA hs₃ F₃ N₃ hmade ?_ hmo') (fun ok s₃ h₃' => ?_) fun _ _ e => e)
    · intro p hp
      rcases List.mem_append.mp hp with hp | hp
      · exact ⟨fun x => hDO (x ▸ (hown p hp).2), fun x => (hMf _ x).2.1 (hown p hp).2⟩
      · rcases List.mem_append.mp hp with hp | hp
        · exact ⟨hDn p hp, fun x => (hMf _ x).2.2.2 p hp rfl⟩
        · exact ⟨fun x => rest_ne p hp (x ▸ List.mem_cons_self), fun x => rest_ne p hp (List.mem_cons_of_mem _ x)⟩
    · cases ok with
      | false =>
        exact wpAny_pure ⟨rfl, ending s₃ h₃'.1 h₃'.2⟩
      | true =>
        exact wpAny_bind (wpAny_mono h₃' (fun _ s₄ h₄ => wpAny_pure ⟨rfl, ending s₄ h₄.1 h₄.2⟩) fun _ _ e => e)
  · obtain rfl : i = n := Nat.le_antisymm hi (Nat.not_lt.mp hlt)
    refine W.turns.done _ _ _ hst' fun h₁ tk₁ hk₁ => wpAny_pure ?_
    obtain ⟨g, tk, rfl⟩ := hs
    exact fin h₁ tk₁ ys mo made hJ' ⟨F'.ns.at' fun o e => hk₁ L o hLw e, fun b o e => hk₁ b o (base_wr b o e) (F'.keep b o e), F'.above⟩
      (fun p hp => ⟨hk₁ _ _ (by
        rcases List.mem_cons.mp hp with rfl | hp
        · exact hDw
        · rcases List.mem_append.mp hp with hp | hp
          · exact hMw _ (inMo hmo' p hp)
          · rcases List.mem_append.mp hp with hp | hp
            · exact (hm' p hp).2.2.1
            · exact fun x => (hwr _ x).2 p hp rfl) (N' p hp).1, (N' p hp).2⟩) hmo' (fun p hp => ⟨(hm' p hp).1, (hm' p hp).2.1, (hm' p hp).2.2.2⟩) (Y.frame _ _ hC' fun b hb o e => hk₁ b o (hOw b hb) e)
      fun b o h1 h2 h3 h4 e => hk₁ b o h1 (hk' b o h1 h2 h3 h4 e)
end
end Mine
namespace Mine
section
variable {prog : Program} {w : World} {A : Around} {E : Value → Shared → Prop} {s : Shared} {h₀ : Heap} {L : Addr} {m : Str → Option Value} {env : Env}
theorem newEnv_comp {scope : Scope} {globals : Addr} {cl : List (Str × Addr)} {qual : Str} {Q : Env → Shared → Prop}
    (h : Q (newEnv scope s.heap.objs.size globals (cellsFrom (s.heap.objs.size + 1) scope.names cl) qual none .none (some env) builtinsNs)
      { s with heap := pushCells (s.heap.push { cls := .type "dict", data := .dict #[] }) scope.names }) :
    wpAny (model prog w) A (newFunctionEnv scope globals cl [] qual none .none (some env)) Q E s := by
  simp only [newFunctionEnv, Option.isSome_some, if_true]
  refine wpAny_bind (wpAny_alloc ?_)
  refine wpAny_bind (wpAny_layCells _ (fun name kind cells => by cases hkc : kind == NameKind.cell <;> simp [hkc]) _ _ _ _ ?_)
  rw [show ({ s with heap := s.heap.push { cls := .type "dict", data := .dict #[] } } : Shared).heap.objs.size = s.heap.objs.size + 1 from Heap.size_push ..]
  rw [List.forIn_nil]
  exact wpAny_bind (wpAny_pure (wpAny_pure h))
noncomputable def Starts (prog : Program) (w : World) (A : Around) (target : Expr) (xv : Value) (s₁ : Shared) (own fx : List Addr) (n : Nat) (P : Nat → Value → Heap → Prop) : Prop :=
  ∀ (Q : Value → Shared → Prop) (E : Value → Shared → Prop),
    (∀ I fp wr Md St h, Feed prog w A target I fp wr n P Md St → St 0 h → (∀ b o, s₁.heap.get? b = some o → h.get? b = some o) → (∀ b ∈ fp, b < h.objs.size ∧ ∀ m, ¬ h.Ns b m) → (∀ b ∈ wr, b ∈ own ∨ s₁.heap.get? b = none) → (∀ b ∈ fp, b ∈ fx ∨ b ∈ own ∨ s₁.heap.get? b = none) → Q (.ref I) { s₁ with heap := h }) →
    wpAny (model prog w) A (pyIter xv) Q E s₁
theorem not_ns_list {h : Heap} {l : Addr} {its : Array Value} (x : h.IsList l its) : ∀ m, ¬ h.Ns l m := by
  rintro m ⟨o, es, ep, e, hd, _⟩
  obtain ⟨o', e', _, n, hd'⟩ := x
  rw [e] at e'
  cases e'
  rw [hd] at hd'
  cases hd'
theorem not_ns_of {h : Heap} {a : Addr} {o : Obj} (e : h.get? a = some o) (hd : ∀ es ep, o.data ≠ .dict es ep) : ∀ m, ¬ h.Ns a m := by
  rintro m ⟨o', es, ep, e', hd', _⟩
  rw [e] at e'
  cases e'
  exact hd _ _ hd'
theorem feed_ofWalks {target : Expr} {I : Addr} {fp wr : List Addr} {n : Nat} {P : Nat → Value → Prop} {St : Nat → Heap → Prop} (W : Walks prog w A I fp wr n P St) (hgo : ∀ v, letOwnedTupleGo target (.ref I) v = pure () ∨ ∀ i (s : Shared) (Q : Unit → Shared → Prop) (E : Value → Shared → Prop), St i s.heap → Q () s → wpAny (model prog w) A (letOwnedTupleGo target (.ref I) v) Q E s)
    (has : ∀ i h, St i h → ∀ b ∈ wr, ∃ o, h.get? b = some o) : Feed prog w A target I fp wr n (fun i v _ => P i v) (fun i v h => P i v ∧ St (i + 1) h) St :=
  ⟨.ofWalks W fun i v s Q E st hQ => (hgo v).elim (fun e => wpAny_of_eq e hQ) fun f => f i s Q E st hQ, W.self, has⟩
theorem go_name {x : Str} {px : Pos} (it v : Value) : letOwnedTupleGo (.Name x px) it v = pure () := rfl
theorem starts_list {x : Str} {px : Pos} {l : Addr} {its : Array Value} (hh : A.handled = none) (hl : s.heap.IsList l its) :
    Starts prog w A (.Name x px) (.ref l) s [] [l] its.size (fun i v _ => its[i]? = some v) := by
  intro Q E hQ
  have hlt : l < s.heap.objs.size := by obtain ⟨_, e, _⟩ := hl; exact Heap.lt_size e
  refine wpAny_pyIter_list hl ?_
  have up : ∀ b o, s.heap.get? b = some o → (s.heap.push { cls := .type "list_iterator", data := .fields #[.ref l, .int 0 0] }).get? b = some o := fun b o e => Heap.get?_push_of_some _ e
  have hit : (s.heap.push { cls := .type "list_iterator", data := .fields #[.ref l, .int 0 0] }).IsListIter s.heap.objs.size l 0 := ⟨_, Heap.get?_push_size _ rfl, rfl, rfl⟩
  refine hQ _ _ _ _ _ _ (feed_ofWalks (Walks.list hh s.heap.objs.size l (Nat.ne_of_lt hlt) its) (fun v => .inl (go_name _ _)) (fun i h st b hb => ?_)) ⟨hit, hl.push _⟩ up (fun b hb => ?_) (fun b hb => ?_) fun b hb => ?_
  · rw [List.mem_singleton.mp hb]
    obtain ⟨o, e, _⟩ := st.1
    exact ⟨o, e⟩
  · rcases List.mem_cons.mp hb with rfl | hb
    · exact ⟨by rw [Heap.size_push]; exact Nat.lt_succ_self _, not_ns_of (Heap.get?_push_size _ rfl) (by intro _ _ e; cases e)⟩
    · rw [List.mem_singleton.mp hb]
      exact ⟨by rw [Heap.size_push]; exact Nat.lt_succ_of_lt hlt, not_ns_list (hl.push _)⟩
  · rw [List.mem_singleton.mp hb]
    exact .inr (Heap.get?_none_of_le (Nat.le_refl _))
  · rcases List.mem_cons.mp hb with rfl | hb
    · exact .inr (.inr (Heap.get?_none_of_le (Nat.le_refl _)))
    · exact .inl hb
theorem starts_range {x : Str} {px : Pos} {r : Addr} {a b : Int} {t u v : Tok} {n : Nat} (hh : A.handled = none) (hr : IsRange s.heap r a b 1 t u v) (hsm : Builtin.Range.small a b 1 = true) (hn : Builtin.Range.rangeSize a b 1 = ((n : Nat) : Int)) :
    Starts prog w A (.Name x px) (.ref r) s [] [] n (fun i v _ => ∃ t, v = .int (a + (i : Int)) t) := by
  intro Q E hQ
  refine wpAny_pyIter_range hr hsm ?_
  have hg : (s.heap.push { cls := .type "range_iterator", data := .fields #[rawInt a, rawInt (Builtin.Range.rangeSize a b 1), rawInt 1] }).get? s.heap.objs.size = some _ := Heap.get?_push_size _ rfl
  refine hQ _ _ _ _ _ _ (feed_ofWalks (range_walks hh a n) (fun v => .inl (go_name _ _)) (fun i h st b hb => ?_)) (by show IsRangeIter _ _ _ _ _; rw [hn]; simpa using Heap.get?_push_size _ rfl) (fun _ _ e => Heap.get?_push_of_some _ e) (fun b hb => ?_) (fun b hb => ?_) fun b hb => ?_
  · rw [List.mem_singleton.mp hb]; exact ⟨_, st⟩
  · rw [List.mem_singleton.mp hb]
    exact ⟨by rw [Heap.size_push]; exact Nat.lt_succ_self _, not_ns_of (Heap.get?_push_size _ rfl) (by intro _ _ e; cases e)⟩
  · rw [List.mem_singleton.mp hb]
    exact .inr (Heap.get?_none_of_le (Nat.le_refl _))
  · rw [List.mem_singleton.mp hb]
    exact .inr (.inr (Heap.get?_none_of_le (Nat.le_refl _)))
theorem starts_enum {elts : List Expr} {k : Nat} {pos : Pos} {e it l : Addr} {its : Array Value} {old : Value} (hh : A.handled = none) (he : IsEnum s.heap e it 0 old) (hit : s.heap.IsListIter it l 0) (hl : s.heap.IsList l its) (hei : e ≠ it) :
    Starts prog w A (.Tuple elts k pos) (.ref e) s [e, it] [l] its.size (fun i v h => ∃ T vals, v = .ref T ∧ (∃ t x, its[i]? = some x ∧ vals = #[.int i t, x]) ∧ h.IsTuple T vals) := by
  intro Q E hQ
  have hne : l ≠ e ∧ l ≠ it := by
    obtain ⟨o, x, hc, n, hd⟩ := hl
    constructor
    · rintro rfl
      rw [he] at x
      cases x
      cases hd
    · rintro rfl
      obtain ⟨o', x', hc', hd'⟩ := hit
      rw [x] at x'
      cases x'
      rw [hd] at hd'
      cases hd'
  refine wpAny_pyIter_enum he ?_
  have W := (WalksT.enumerate (prog := prog) (w := w) hh e it l hei hne.1 hne.2 its).toU
  refine hQ _ _ _ _ _ _ ⟨.ofWalksU W, W.self, fun i h st b hb => ?_⟩ ⟨⟨old, he⟩, hit, hl⟩ (fun _ _ e => e) (fun b hb => ?_) (fun b hb => .inl hb) fun b hb => ?_
  · obtain ⟨⟨old, he⟩, ⟨o', x', _⟩, hl⟩ := st
    rcases List.mem_cons.mp hb with rfl | hb
    · exact ⟨_, he⟩
    · rw [List.mem_singleton.mp hb]; exact ⟨_, x'⟩
  · rcases List.mem_cons.mp hb with rfl | hb
    · exact ⟨Heap.lt_size he, not_ns_of he (by intro _ _ e; cases e)⟩
    · rcases List.mem_cons.mp hb with rfl | hb
      · obtain ⟨o, x, hc, hd⟩ := hit
        exact ⟨Heap.lt_size x, not_ns_of x (by intro _ _ e; rw [hd] at e; cases e)⟩
      · rw [List.mem_singleton.mp hb]
        obtain ⟨o, x, hc, n, hd⟩ := id hl
        exact ⟨Heap.lt_size x, not_ns_list hl⟩
  · rcases List.mem_cons.mp hb with rfl | hb
    · exact .inr (.inl (by simp))
    · rcases List.mem_cons.mp hb with rfl | hb
      · exact .inr (.inl (by simp))
      · exact .inl hb
theorem starts_str {x : Str} {px : Pos} {z : Str} {t : Tok} (hh : A.handled = none) :
    Starts prog w A (.Name x px) (.str z t) s [] [] z.cps.size (fun i v _ => SignAt z i v) := by
  intro Q E hQ
  cases ha : z.cps.all (· < 128)
  · refine wpAny_pyIter_wide ha ?_
    refine hQ _ _ _ _ _ _ (feed_ofWalks (Walks.strWide hh _ z t) (fun v => .inl (go_name _ _)) (fun i h st b hb => ?_)) ⟨_, Heap.get?_push_size _ rfl, rfl, rfl⟩ (fun _ _ e => Heap.get?_push_of_some _ e) (fun b hb => ?_) (fun b hb => ?_) fun b hb => ?_
    · rw [List.mem_singleton.mp hb]; obtain ⟨o, e, _⟩ := st; exact ⟨_, e⟩
    · rw [List.mem_singleton.mp hb]
      exact ⟨by rw [Heap.size_push]; exact Nat.lt_succ_self _, not_ns_of (Heap.get?_push_size _ rfl) (by intro _ _ e; cases e)⟩
    · rw [List.mem_singleton.mp hb]
      exact .inr (Heap.get?_none_of_le (Nat.le_refl _))
    · rw [List.mem_singleton.mp hb]
      exact .inr (.inr (Heap.get?_none_of_le (Nat.le_refl _)))
  · refine wpAny_pyIter_ascii ha ?_
    refine hQ _ _ _ _ _ _ (feed_ofWalks (Walks.strAscii hh _ z t) (fun v => .inl (go_name _ _)) (fun i h st b hb => ?_)) ⟨_, Heap.get?_push_size _ rfl, rfl, rfl⟩ (fun _ _ e => Heap.get?_push_of_some _ e) (fun b hb => ?_) (fun b hb => ?_) fun b hb => ?_
    · rw [List.mem_singleton.mp hb]; obtain ⟨o, e, _⟩ := st; exact ⟨_, e⟩
    · rw [List.mem_singleton.mp hb]
      exact ⟨by rw [Heap.size_push]; exact Nat.lt_succ_self _, not_ns_of (Heap.get?_push_size _ rfl) (by intro _ _ e; cases e)⟩
    · rw [List.mem_singleton.mp hb]
      exact .inr (Heap.get?_none_of_le (Nat.le_refl _))
    · rw [List.mem_singleton.mp hb]
      exact .inr (.inr (Heap.get?_none_of_le (Nat.le_refl _)))
end
end Mine
namespace Mine
section
variable {prog : Program} {w : World} {A : Around} {E : Value → Shared → Prop} {s : Shared} {h₀ : Heap} {L : Addr} {m : Str → Option Value} {env : Env}
noncomputable abbrev cenvOf (scope : Scope) (cl : List (Str × Addr)) (C : Addr) (env : Env) : Env := compEnvC scope (cellsFrom (C + 1) scope.names cl) C env
structure Kind (prog : Program) (w : World) (A : Around) (target : Expr) (scope : Scope) (cl : List (Str × Addr)) (env : Env) (P : Nat → Value → Heap → Prop) where
  Ow : Addr → List Addr
  Cst : Addr → Heap → Prop
  Aft : Addr → Nat → Value → List (Addr × Obj) → Prop
  lays : ∀ C, Lays prog w A target (cenvOf scope cl C env) (Ow C) P (Cst C) (Aft C)
  above : ∀ C, ∀ b ∈ Ow C, C ≤ b
  self : ∀ C, C ∈ Ow C
  start : ∀ h : Heap, Cst h.objs.size (pushCells (h.push { cls := .type "dict", data := .dict #[] }) scope.names)
  ns : ∀ C h, Cst C h → ∃ m', h.Ns C m'
noncomputable def kindName (x : Str) (px : Pos) (scope : Scope) (cl : List (Str × Addr)) (env : Env) (P : Nat → Value → Heap → Prop) (hkind : scope.kind = .function) (hx : scope.names.lookup x = some .local) :
    Kind prog w A (.Name x px) scope cl env P where
  Ow := fun C => [C]
  Cst := fun C h => ∃ m', h.Ns C m'
  Aft := fun C i v own => ∃ oC m', own = [(C, oC)] ∧ NsObj oC m' ∧ m' x = some v ∧ ∃ h, P i v h
  lays := fun C => {
    frame := fun h h' ⟨m', hn⟩ hk => ⟨m', hn.at' fun o e => hk C (by simp) o e⟩
    has := fun h ⟨m', hn⟩ b hb => by rw [List.mem_singleton.mp hb]; obtain ⟨o, _, _, e, _⟩ := hn; exact ⟨o, e⟩
    lay := fun i v s Q E hP ⟨m', hn⟩ hQ => by
      refine wpAny_assign_Name (wpAny_storeName_local (lookup_relabel_local hx) hn (fun h' hn' hs' => ?_) (by simp [compEnvC, relabel, hkind]))
      obtain ⟨oC, e, hoC⟩ := ns_obj hn'
      refine hQ h' _ [(C, oC)] ⟨_, hn'⟩ ⟨oC, _, rfl, hoC, by simp, _, hP⟩ (fun p hp => ?_) fun b o hb e => hs'.extBut b o (fun h => hb (by simp [h, compEnvC])) e
      rw [List.mem_singleton.mp hp]
      exact ⟨e, by simp⟩ }
  above := fun C b hb => by rw [List.mem_singleton.mp hb]; exact Nat.le_refl _
  self := fun C => by simp
  start := fun h => ⟨_, (Heap.Ns.new h (.type "dict")).keeps (pushCells_keeps _ _)⟩
  ns := fun C h x => x
noncomputable def PairAt (P : Nat → Value → Value → Prop) (i : Nat) (v : Value) (h : Heap) : Prop := ∃ T a b, v = .ref T ∧ h.IsTuple T #[a, b] ∧ P i a b
noncomputable def kindPair (x y : Str) (px py tp : Pos) (tk : Nat) (scope : Scope) (cl : List (Str × Addr)) (env : Env) (P : Nat → Value → Value → Prop) (hh : A.handled = none) (hkind : scope.kind = .function) (hx : scope.names.lookup x = some .local) (hy : scope.names.lookup y = some .local) (hxy : x ≠ y) :
    Kind prog w A (.Tuple [.Name x px, .Name y py] tk tp) scope cl env (PairAt P) where
  Ow := fun C => [C]
  Cst := fun C h => ∃ m', h.Ns C m'
  Aft := fun C i _ own => ∃ oC m' a b, own = [(C, oC)] ∧ NsObj oC m' ∧ m' x = some a ∧ m' y = some b ∧ P i a b
  lays := fun C => {
    frame := fun h h' ⟨m', hn⟩ hk => ⟨m', hn.at' fun o e => hk C (by simp) o e⟩
    has := fun h ⟨m', hn⟩ b hb => by rw [List.mem_singleton.mp hb]; obtain ⟨o, _, _, e, _⟩ := hn; exact ⟨o, e⟩
    lay := fun i v s Q E ⟨T, a, b, hv, hT, hP⟩ ⟨m', hn⟩ hQ => by
      subst hv
      refine kcp_assign hh hT (lookup_relabel_local hx) (lookup_relabel_local hy) (by simp [compEnvC, relabel, hkind]) hn fun h' tk hn' hk' => ?_
      obtain ⟨oC, e, hoC⟩ := ns_obj hn'
      refine hQ h' _ [(C, oC)] ⟨_, hn'⟩ ⟨oC, _, a, b, rfl, hoC, by simp [hxy], by simp, hP⟩ (fun p hp => ?_) fun b o hb e => hk' b o (fun h => hb (by simp [h, compEnvC])) e
      rw [List.mem_singleton.mp hp]
      exact ⟨e, by simp⟩ }
  above := fun C b hb => by rw [List.mem_singleton.mp hb]; exact Nat.le_refl _
  self := fun C => by simp
  start := fun h => ⟨_, (Heap.Ns.new h (.type "dict")).keeps (pushCells_keeps _ _)⟩
  ns := fun C h x => x
theorem lookup_relabel_cell : ∀ {names : List (Str × NameKind)} {x : Str}, names.lookup x = some .cell →
    (names.map fun (n, k) => if (k == NameKind.free && env.scope.kind == .function && env.kindOf n == some .cell) then (n, NameKind.cell) else (n, k)).lookup x = some .cell
  | [], _, h => by simp at h
  | (n, k) :: r, x, h => by
    have ih := @lookup_relabel_cell r x
    show List.lookup x ((if (k == NameKind.free && env.scope.kind == .function && env.kindOf n == some .cell) = true then (n, NameKind.cell) else (n, k)) :: _) = _
    cases hx : x == n with
    | true =>
      simp only [List.lookup_cons, hx] at h
      cases h
      simp [List.lookup_cons, hx]
    | false =>
      simp only [List.lookup_cons, hx] at h
      by_cases hc : (k == NameKind.free && env.scope.kind == .function && env.kindOf n == some .cell) = true
      · rw [if_pos hc]; simp only [List.lookup_cons, hx]; exact ih h
      · rw [if_neg hc]; simp only [List.lookup_cons, hx]; exact ih h
noncomputable def kindCell (x : Str) (px : Pos) (scope : Scope) (cl : List (Str × Addr)) (env : Env) (P : Nat → Value → Heap → Prop) (hkind : scope.kind = .function) (hx : scope.names.lookup x = some .cell)
    (hone : ∀ C, cellsFrom (C + 1) scope.names cl = (x, C + 1) :: cl) (hpush : ∀ h, pushCells h scope.names = h.push { cls := .type "cell", data := .cell none }) :
    Kind prog w A (.Name x px) scope cl env P where
  Ow := fun C => [C, C + 1]
  Cst := fun C h => (∃ m', h.Ns C m') ∧ ∃ u, h.IsCell (C + 1) u
  Aft := fun C i v own => ∃ oC oc m', own = [(C + 1, oc), (C, oC)] ∧ NsObj oC m' ∧ oc.data = .cell (some v) ∧ ∃ h, P i v h
  lays := fun C => {
    frame := fun h h' ⟨⟨m', hn⟩, u, o, e, hd⟩ hk => ⟨⟨m', hn.at' fun o e => hk C (by simp) o e⟩, u, o, hk (C + 1) (by simp) o e, hd⟩
    has := fun h ⟨⟨m', hn⟩, u, oc, ec, _⟩ b hb => by
      obtain ⟨o, _, _, e, _⟩ := hn
      rcases List.mem_cons.mp hb with rfl | hb
      · exact ⟨o, e⟩
      · rw [List.mem_singleton.mp hb]; exact ⟨oc, ec⟩
    lay := fun i v s Q E hP ⟨⟨m', hn⟩, u, hc⟩ hQ => by
      refine wpAny_assign_Name (wpAny_storeName_cell (env := cenvOf scope cl C env) (name := x) (c := C + 1) (by simp [compEnvC, relabel, hkind]) (lookup_relabel_cell hx) (by show List.lookup x (cellsFrom (C + 1) scope.names cl) = _; rw [hone]; simp) hc fun h' hv hs => ?_)
      have hn' : h'.Ns C m' := hn.sameBut hs (Nat.ne_of_lt (Nat.lt_succ_self C))
      obtain ⟨oC, e, hoC⟩ := ns_obj hn'
      obtain ⟨oc, ec, hoc⟩ := id hv
      refine hQ h' s.toks [(C + 1, oc), (C, oC)] ⟨⟨_, hn'⟩, _, hv⟩ ⟨oC, oc, m', rfl, hoC, hoc, _, hP⟩ (fun p hp => ?_) fun b o hb e => hs.extBut b o (fun h => hb (by simp [h])) e
      rcases List.mem_cons.mp hp with rfl | hp
      · exact ⟨ec, by simp⟩
      · rw [List.mem_singleton.mp hp]; exact ⟨e, by simp⟩ }
  above := fun C b hb => by
    rcases List.mem_cons.mp hb with rfl | hb
    · exact Nat.le_refl _
    · rw [List.mem_singleton.mp hb]; exact Nat.le_succ _
  self := fun C => by simp
  start := fun h => by
    rw [hpush]
    refine ⟨⟨_, (Heap.Ns.new h (.type "dict")).keeps fun b o e => Heap.get?_push_of_some _ e⟩, none, { cls := .type "cell", data := .cell none }, ?_, rfl⟩
    have := Heap.get?_push_size (h.push { cls := .type "dict", data := .dict #[] }) (o := { cls := .type "cell", data := .cell none }) rfl
    rwa [Heap.size_push] at this
  ns := fun C h x => x.1
theorem blockG {elt target iter : Expr} {ifs : List Expr} {rest₁ : List Comprehension} {scope : Scope} {pos : Pos} {cl : List (Str × Addr)} {I : Addr} {Mo fp wr : List Addr} {n : Nat} {P Md : Nat → Value → Heap → Prop} {St : Nat → Heap → Prop} {news mo₀ : List (Addr × Obj)} {emit : Addr → Addr → Sem Unit} {RR : Value → Addr → Result → Shared → Prop}
    (hform : ∀ D C, compTurn (.ListComp elt (⟨target, iter, ifs, 0⟩ :: rest₁) scope pos) 0 (.ref I) (.ref D) (cenvOf scope cl C env) =
      turnForm ⟨target, iter, ifs, 0⟩ (.ref I) (cenvOf scope cl C env) (emit D C) (again (.compLoop (.ListComp elt (⟨target, iter, ifs, 0⟩ :: rest₁) scope pos) 0 (.ref I) (.ref D) (cenvOf scope cl C env))))
    (W : Feed prog w A target I fp wr n P Md St) (Kd : Kind prog w A target scope cl env P)
    (hst : St 0 s.heap) (hfp : ∀ b ∈ fp, b < s.heap.objs.size) (hLf : L ∉ fp) (hwr : ∀ b ∈ wr, h₀.get? b = none ∧ ∀ p ∈ news, p.1 ≠ b)
    (hMf : ∀ b ∈ Mo, b ∉ fp ∧ ∀ p ∈ news, p.1 ≠ b) (hmo : mo₀.map (·.1) = Mo)
    (F : Fr h₀ L s.heap m) (N : News h₀ L s.heap (mo₀ ++ news))
    (J : Nat → List Value → List (Addr × Obj) → List (Addr × Obj) → Prop) (hJ : J 0 [] mo₀ [])
    (turn : ∀ D C i v ys mo made tail own (s₁ : Shared) (E' : Value → Shared → Prop), i < n → J i ys mo made → Kd.Aft C i v own → Same s s₁ → Fr h₀ L s₁.heap m → News h₀ L s₁.heap ((D, lst ys) :: (mo ++ (own ++ (news ++ tail)))) → (∀ p ∈ made, p ∈ tail) →
      (∀ p ∈ own ++ (news ++ tail), p.1 ≠ D ∧ p.1 ∉ Mo) → mo.map (·.1) = Mo → (∀ p ∈ mo, p.1 ≠ D) →
      wpAny (model prog w) A (testsOf ifs (cenvOf scope cl C env)) (fun ok s₃ => if ok = true then
        wpAny (model prog w) A (emit D C) (fun _ s₄ => Same s s₄ ∧ TurnEnd h₀ L m D Mo tail (fun ys' mo' new => J (i + 1) ys' mo' (new ++ made)) s₄) E' s₃
        else Same s s₃ ∧ TurnEnd h₀ L m D Mo tail (fun ys' mo' new => J (i + 1) ys' mo' (new ++ made)) s₃) E' s₁)
    (fin : ∀ D C h' m' tk ys mo made, @LT.lt Nat _ L D → J n ys mo made → Fr h₀ L h' m → News h₀ L h' ((D, lst ys) :: (mo ++ (made ++ news))) → mo.map (·.1) = Mo → (∀ p ∈ mo ++ (made ++ news), p.1 ≠ D) → (∀ p ∈ (D, lst ys) :: (mo ++ (made ++ news)), p.1 ≠ C) → h₀.get? C = none → C ≠ L → h'.Ns C m' → RR (.ref D) C (.ok .next) { s with heap := h', toks := tk }) :
    wpAny (model prog w) A (newList []) (fun acc s₃ => wpAny (model prog w) A (newFunctionEnv scope env.globals cl [] env.qual none .none (some env)) (fun cenv s₄ =>
      codeAny (model prog w) A (.compStart (.ListComp elt (⟨target, iter, ifs, 0⟩ :: rest₁) scope pos) 0 (.ref I) acc { cenv with scope := relabel scope env }) (RR acc cenv.locals) s₄) E s₃) E s := by
  refine wpAny_newObj_type (newEnv_comp ?_)
  have hL : L < s.heap.objs.size := F.ns.lt
  have hDC : (s.heap.push (lst [])).objs.size = s.heap.objs.size + 1 := Heap.size_push ..
  have old : ∀ b o, s.heap.get? b = some o → (pushCells ((s.heap.push (lst [])).push { cls := .type "dict", data := .dict #[] }) scope.names).get? b = some o := fun b o e => pushCells_keeps _ _ _ _ (Heap.get?_push_of_some _ (Heap.get?_push_of_some _ e))
  have fresh : ∀ a, s.heap.objs.size ≤ a → s.heap.get? a = none := fun a ha => Heap.get?_none_of_le ha
  have fresh₀ : ∀ a, s.heap.objs.size ≤ a → h₀.get? a = none := fun a ha => by
    cases e : h₀.get? a with
    | none => rfl
    | some o' => have := F.keep a o' e; rw [fresh a ha] at this; cases this
  have hOw : ∀ b ∈ Kd.Ow (s.heap.push (lst [])).objs.size, s.heap.objs.size < b := fun b hb => by
    have := Kd.above _ b hb
    rw [hDC] at this
    exact this
  have hnews : ∀ p ∈ mo₀ ++ news, p.1 < s.heap.objs.size := fun p hp => Heap.lt_size (N p hp).1
  have hMs : ∀ b ∈ Mo, b < s.heap.objs.size := fun b hb => by
    rw [← hmo] at hb
    obtain ⟨p, hp, rfl⟩ := List.mem_map.mp hb
    exact hnews p (List.mem_append_left _ hp)
  have inMo : ∀ {mo : List (Addr × Obj)}, mo.map (·.1) = Mo → ∀ p ∈ mo, p.1 ∈ Mo := fun e p hp => e ▸ List.mem_map_of_mem (f := fun x : Addr × Obj => x.1) hp
  have hCself := Kd.self (s.heap.push (lst [])).objs.size
  show codeAny _ _ (.compStart _ 0 (.ref I) (.ref s.heap.objs.size) (cenvOf scope cl (s.heap.push (lst [])).objs.size env)) _ _
  refine codeAny_compStart_list (R := RR (.ref s.heap.objs.size) (s.heap.push (lst [])).objs.size) ?_ (W.self 0 _ _ _ (W.turns.frame _ _ _ hst fun b _ o e => old b o e) ?_)
  all_goals
    refine loopG (hform _ _) W (Kd.lays _) (fun x => Nat.lt_irrefl _ (hfp _ x)) (fun b hb x => Nat.lt_asymm (hOw b hb) (hfp b x)) hLf (fun x => Nat.lt_irrefl _ (hOw _ x)) (fun x => Nat.lt_asymm hL (hOw _ x)) (fun b hb => fresh₀ b (Nat.le_of_lt (hOw b hb))) hwr
      (fun p hp x => Nat.lt_asymm (hnews p (List.mem_append_right _ hp)) (hOw _ x)) (fun p hp => Nat.ne_of_lt (hnews p (List.mem_append_right _ hp))) (fun b hb => ⟨(hMf b hb).1, fun x => Nat.lt_asymm (hMs b hb) (hOw _ x), Nat.ne_of_lt (hMs b hb), (hMf b hb).2⟩) hmo
      (W.turns.frame _ _ _ hst fun b _ o e => old b o e) (Kd.start _) (F.keeps old) (fun p hp => ?_) J hJ
      (fun i v ys mo made tail own s₁ E' a b c d e f g k l => turn _ _ i v ys mo made tail own s₁ E' a b c d e f g k l fun p hp => Nat.ne_of_lt (hMs _ (inMo l p hp))) fun h' tk ys mo made hJ' F' N' hmo' hm hC' hk => ?_
    · rcases List.mem_cons.mp hp with rfl | hp
      · exact ⟨pushCells_keeps _ _ _ _ (Heap.get?_push_of_some _ (Heap.get?_push_size _ rfl)), Nat.ne_of_gt hL, fresh₀ _ (Nat.le_refl _)⟩
      · exact ⟨old _ _ (N p hp).1, (N p hp).2⟩
    · obtain ⟨m', hm'⟩ := Kd.ns _ _ hC'
      refine fin _ _ h' m' tk ys mo made hL hJ' F' N' hmo' (fun p hp => ?_) (fun p hp => ?_) (fresh₀ _ (Nat.le_of_lt (hOw _ hCself))) (fun x => Nat.lt_asymm hL (x ▸ hOw _ hCself)) hm'
      · rcases List.mem_append.mp hp with hp | hp
        · exact Nat.ne_of_lt (hMs _ (inMo hmo' p hp))
        · rcases List.mem_append.mp hp with hp | hp
          · exact (hm p hp).1
          · exact Nat.ne_of_lt (hnews p (List.mem_append_right _ hp))
      · rcases List.mem_cons.mp hp with rfl | hp
        · exact Nat.ne_of_lt (hOw _ hCself)
        · rcases List.mem_append.mp hp with hp | hp
          · exact Nat.ne_of_lt (Nat.lt_trans (hMs _ (inMo hmo' p hp)) (hOw _ hCself))
          · rcases List.mem_append.mp hp with hp | hp
            · exact fun x => (hm p hp).2.1 (x ▸ hCself)
            · exact Nat.ne_of_lt (Nat.lt_trans (hnews p (List.mem_append_right _ hp)) (hOw _ hCself))
end
end Mine
namespace Mine
section
variable {prog : Program} {w : World} {A : Around} {E : Value → Shared → Prop} {s : Shared} {h₀ : Heap} {L : Addr} {m : Str → Option Value} {env : Env}
noncomputable def emitElt (elt : Expr) (D : Addr) (cenv : Env) : Sem Unit := do let _ ← call (.builtin "list.append") [.ref D, ← eval elt cenv]
inductive EltEnd (h₀ : Heap) (L : Addr) (m : Str → Option Value) (s : Shared) (D : Addr) (Mo : List Addr) (ys : List Value) (tail : List (Addr × Obj)) (J : List Value → List (Addr × Obj) → List (Addr × Obj) → Prop) (y : Value) (s' : Shared) : Prop
  | intro (hs : Same s s') (mo new : List (Addr × Obj)) (F : Fr h₀ L s'.heap m) (N : News h₀ L s'.heap ((D, lst ys) :: (mo ++ (new ++ tail)))) (hmo : mo.map (·.1) = Mo) (hn : ∀ p ∈ new, p.1 ≠ D ∧ p.1 ∉ Mo ∧ ∀ q ∈ tail, p.1 ≠ q.1) (hJ : J (ys ++ [y]) mo new)
inductive SkipEnd (h₀ : Heap) (L : Addr) (m : Str → Option Value) (s : Shared) (D : Addr) (Mo : List Addr) (ys : List Value) (tail : List (Addr × Obj)) (J : List Value → List (Addr × Obj) → List (Addr × Obj) → Prop) (s' : Shared) : Prop
  | intro (hs : Same s s') (mo : List (Addr × Obj)) (F : Fr h₀ L s'.heap m) (N : News h₀ L s'.heap ((D, lst ys) :: (mo ++ tail))) (hmo : mo.map (·.1) = Mo) (hJ : J ys mo [])
theorem EltEnd.plain {D : Addr} {ys : List Value} {tail nw : List (Addr × Obj)} {J : List Value → List (Addr × Obj) → List (Addr × Obj) → Prop} {y : Value} {s₁ s' : Shared} (hs : Same s s₁) (hs' : Same s₁ s') (F : Fr h₀ L s'.heap m) (N : News h₀ L s'.heap nw)
    (sub : ∀ p ∈ (D, lst ys) :: tail, p ∈ nw) (hJ : J (ys ++ [y]) [] []) : EltEnd h₀ L m s D [] ys tail J y s' :=
  ⟨hs.trans hs', [], [], F, nSub N sub, rfl, fun _ h => (nomatch h), hJ⟩
theorem SkipEnd.mk {D : Addr} {ys : List Value} {tail nw : List (Addr × Obj)} {J : List Value → List (Addr × Obj) → List (Addr × Obj) → Prop} {s₁ s' : Shared} (hs : Same s s₁) (hs' : Same s₁ s') (F : Fr h₀ L s'.heap m) (N : News h₀ L s'.heap nw)
    (sub : ∀ p ∈ (D, lst ys) :: tail, p ∈ nw) (hJ : J ys [] []) : SkipEnd h₀ L m s D [] ys tail J s' :=
  ⟨hs.trans hs', [], F, nSub N sub, rfl, hJ⟩
noncomputable def Turns1 (prog : Program) (w : World) (A : Around) (h₀ : Heap) (L : Addr) (m : Str → Option Value) (s : Shared) (elt : Expr) (ifs : List Expr) (cenv : Addr → Env) (Aft : Addr → Nat → Value → List (Addr × Obj) → Prop) (n : Nat) (Mo : List Addr) (news : List (Addr × Obj))
    (J : Nat → List Value → List (Addr × Obj) → List (Addr × Obj) → Prop) : Prop :=
  ∀ D C i v ys mo made tail own (s₁ : Shared) (E' : Value → Shared → Prop), i < n → J i ys mo made → Aft C i v own → Same s s₁ → Fr h₀ L s₁.heap m → News h₀ L s₁.heap ((D, lst ys) :: (mo ++ (own ++ (news ++ tail)))) → (∀ p ∈ made, p ∈ tail) →
      (∀ p ∈ own ++ (news ++ tail), p.1 ≠ D ∧ p.1 ∉ Mo) → mo.map (·.1) = Mo → (∀ p ∈ mo, p.1 ≠ D) →
      wpAny (model prog w) A (testsOf ifs (cenv C)) (fun ok s₃ => if ok = true then
        wpAny (model prog w) A (eval elt (cenv C)) (EltEnd h₀ L m s D Mo ys tail (fun ys' mo' new => J (i + 1) ys' mo' (new ++ made))) E' s₃
        else SkipEnd h₀ L m s D Mo ys tail (fun ys' mo' new => J (i + 1) ys' mo' (new ++ made)) s₃) E' s₁
noncomputable def Fin1 (h₀ : Heap) (L : Addr) (m : Str → Option Value) (Mo : List Addr) (Q : Value → Shared → Prop) (s : Shared) (J : List Value → List (Addr × Obj) → List (Addr × Obj) → Prop) (news : List (Addr × Obj)) : Prop :=
  ∀ D h' tk ys mo made, @LT.lt Nat _ L D → J ys mo made → Fr h₀ L h' m → News h₀ L h' ((D, lst ys) :: (mo ++ (made ++ news))) → mo.map (·.1) = Mo → (∀ p ∈ mo ++ (made ++ news), p.1 ≠ D) → Q (.ref D) { s with heap := h', toks := tk }
noncomputable def FinA (h₀ : Heap) (L : Addr) (m : Str → Option Value) (Mo : List Addr) (y : Str) (Q : Flow → Shared → Prop) (s : Shared) (J : List Value → List (Addr × Obj) → List (Addr × Obj) → Prop) (news : List (Addr × Obj)) : Prop :=
  ∀ D h' tk ys mo made, @LT.lt Nat _ L D → J ys mo made → Fr h₀ L h' (fun z => if z = y then some (.ref D) else m z) → News h₀ L h' ((D, lst ys) :: (mo ++ (made ++ news))) → mo.map (·.1) = Mo → (∀ p ∈ mo ++ (made ++ news), p.1 ≠ D) → Q .next { s with heap := h', toks := tk }
inductive Src1 (prog : Program) (w : World) (A : Around) (h₀ : Heap) (L : Addr) (m : Str → Option Value) (elt target : Expr) (ifs : List Expr) (scope : Scope) (cl : List (Str × Addr)) (env : Env) (Mo : List Addr) (Fin : Shared → (List Value → List (Addr × Obj) → List (Addr × Obj) → Prop) → List (Addr × Obj) → Prop) (xv : Value) (s : Shared) : Prop
  | intro (own : List Addr) (n : Nat) (P : Nat → Value → Heap → Prop) (mo₀ news : List (Addr × Obj)) (J : Nat → List Value → List (Addr × Obj) → List (Addr × Obj) → Prop) (Kd : Kind prog w A target scope cl env P) (fx : List Addr)
    (hst : Starts prog w A target xv s own fx n P) (F : Fr h₀ L s.heap m) (N : News h₀ L s.heap (mo₀ ++ news)) (hmo : mo₀.map (·.1) = Mo) (hMo : ∀ b ∈ Mo, b ∉ fx ∧ b ∉ own ∧ ∀ p ∈ news, p.1 ≠ b) (hown : ∀ b ∈ own, h₀.get? b = none ∧ ∀ p ∈ news, p.1 ≠ b) (hJ : J 0 [] mo₀ []) (hlen : ∀ i ys mo made, J i ys mo made → ys.length ≤ sizeLine)
    (turn : Turns1 prog w A h₀ L m s elt ifs (fun C => cenvOf scope cl C env) Kd.Aft n Mo news J) (fin : Fin s (J n) news)
theorem EltEnd.to {s₂ : Shared} {D : Addr} {Mo : List Addr} {ys : List Value} {tail : List (Addr × Obj)} {J : List Value → List (Addr × Obj) → List (Addr × Obj) → Prop} {y : Value} {s' : Shared} (hS : Same s s' → Same s₂ s') : EltEnd h₀ L m s D Mo ys tail J y s' → EltEnd h₀ L m s₂ D Mo ys tail J y s'
  | ⟨hs, mo, new, F, N, hmo, hn, hJ⟩ => ⟨hS hs, mo, new, F, N, hmo, hn, hJ⟩
theorem emit_wp {elt : Expr} {cenv : Env} {D : Addr} {Mo : List Addr} {ys : List Value} {tail : List (Addr × Obj)} {J : List Value → List (Addr × Obj) → List (Addr × Obj) → Prop} {s₀ : Shared} (hlen : ys.length ≤ sizeLine)
    (htail : ∀ p ∈ tail, p.1 ≠ D) (hMo : D ∉ Mo)
    (h : wpAny (model prog w) A (eval elt cenv) (EltEnd h₀ L m s₀ D Mo ys tail J) E s) :
    wpAny (model prog w) A (emitElt elt D cenv) (fun _ s₄ => Same s₀ s₄ ∧ TurnEnd h₀ L m D Mo tail J s₄) E s := by
  unfold emitElt
  refine wpAny_bind (wpAny_mono h (fun y s₄ h₄ => ?_) fun _ _ e => e)
  obtain ⟨hs, mo, new, F, N, hmo, hn, hJ⟩ := h₄
  have hD := N (D, lst ys) List.mem_cons_self
  refine wpAny_bind (append_at (hsz := by rw [List.size_toArray]; exact hlen) hD.1 fun h₅ hs₅ hD₅ => wpAny_pure ⟨?_, ys ++ [y], mo, new, F.change hs₅ hD.2.1 hD.2.2, fun p hp => ?_, hmo, hn, hJ⟩)
  · obtain ⟨g, tk, rfl⟩ := hs
    exact ⟨h₅, _, rfl⟩
  · rcases List.mem_cons.mp hp with rfl | hp
    · exact ⟨hD₅.trans (congrArg some (lst_snoc ys y)), hD.2⟩
    · have hne : p.1 ≠ D := by
        rcases List.mem_append.mp hp with x | x
        · exact fun e => hMo (e ▸ hmo ▸ List.mem_map_of_mem (f := fun x : Addr × Obj => x.1) x)
        · exact (List.mem_append.mp x).elim (fun x => (hn p x).1) (htail p)
      exact ⟨hs₅.extBut _ _ hne (N p (List.mem_cons_of_mem _ hp)).1, (N p (List.mem_cons_of_mem _ hp)).2⟩
theorem comp1_block {elt target iter : Expr} {ifs : List Expr} {scope : Scope} {pos : Pos} {cl : List (Str × Addr)} {Mo : List Addr} {Fin : Shared → (List Value → List (Addr × Obj) → List (Addr × Obj) → Prop) → List (Addr × Obj) → Prop} {RR : Value → Addr → Result → Shared → Prop} {xv : Value}
    (h : Src1 prog w A h₀ L m elt target ifs scope cl env Mo Fin xv s)
    (hR : ∀ J news, Fin s J news → ∀ D C h' m' tk ys mo made, @LT.lt Nat _ L D → J ys mo made → Fr h₀ L h' m → News h₀ L h' ((D, lst ys) :: (mo ++ (made ++ news))) → mo.map (·.1) = Mo → (∀ p ∈ mo ++ (made ++ news), p.1 ≠ D) → (∀ p ∈ (D, lst ys) :: (mo ++ (made ++ news)), p.1 ≠ C) → h₀.get? C = none → C ≠ L → h'.Ns C m' →
      RR (.ref D) C (.ok .next) { s with heap := h', toks := tk }) :
    wpAny (model prog w) A (pyIter xv) (fun it s₂ => wpAny (model prog w) A (newList []) (fun acc s₃ => wpAny (model prog w) A (newFunctionEnv scope env.globals cl [] env.qual none .none (some env)) (fun cenv s₄ =>
      codeAny (model prog w) A (.compStart (.ListComp elt [⟨target, iter, ifs, 0⟩] scope pos) 0 it acc { cenv with scope := relabel scope env }) (RR acc cenv.locals) s₄) E s₃) E s₂) E s := by
  obtain ⟨own, n, P, mo₀, news, J, Kd, fx, hst, F, N, hmo, hMo, hown, hJ, hlen, turn, fin⟩ := h
  refine hst _ _ fun I fp wr Md St h W st hk hfp hwr hfx => ?_
  have wr₀ : ∀ b ∈ wr, h₀.get? b = none ∧ ∀ p ∈ news, p.1 ≠ b := fun b hb => by
    rcases hwr b hb with x | x
    · exact hown b x
    · refine ⟨?_, fun p hp => ?_⟩
      · cases e : h₀.get? b with
        | none => rfl
        | some o => rw [F.keep b o e] at x; cases x
      · rintro rfl
        rw [(N p (List.mem_append_right _ hp)).1] at x
        cases x
  have Mfp : ∀ b ∈ Mo, b ∉ fp := fun b hb x => by
    rcases hfx b x with y | y | y
    · exact (hMo b hb).1 y
    · exact (hMo b hb).2.1 y
    · rw [← hmo] at hb
      obtain ⟨p, hp, rfl⟩ := List.mem_map.mp hb
      rw [(N p (List.mem_append_left _ hp)).1] at y
      cases y
  refine blockG (s := { s with heap := h }) (emit := fun D C => emitElt elt D (cenvOf scope cl C env)) (news := news) (fun D C => by rw [compTurn_list]; rfl) W Kd st (fun b hb => (hfp b hb).1) (fun x => (hfp L x).2 m (F.keeps hk).ns) wr₀ (fun b hb => ⟨Mfp b hb, (hMo b hb).2.2⟩) hmo (F.keeps hk) (N.grown hk) J hJ
    (fun D C i v ys mo made tail own s₁ E' a b c d e f g k l q => wpAny_mono (turn D C i v ys mo made tail own s₁ E' a b c d e f g k l q) (fun ok s₃ h₃ => ?_) fun _ _ y => y) (fun D C h' m' tk ys mo made hLD j F' N' o0 o1 o2 o3 o4 o5 => ?_)
  · cases ok with
    | false =>
      obtain ⟨h1, mo', h2, h3, h4, h5⟩ := h₃
      exact ⟨h1, ys, mo', [], h2, h3, h4, fun _ x => (nomatch x), h5⟩
    | true => exact emit_wp (hlen _ _ _ _ b) (fun p hp => (k p (List.mem_append_right _ (List.mem_append_right _ hp))).1) (fun x => by
        rw [← l] at x
        obtain ⟨p, hp, e⟩ := List.mem_map.mp x
        exact q p hp e) (wpAny_mono (show wpAny (model prog w) A (eval elt (cenvOf scope cl C env)) _ E' s₃ from h₃) (fun _ _ x => EltEnd.to (s := s) (fun ⟨g, tk, e⟩ => ⟨g, tk, e⟩) x) fun _ _ e => e)
  · exact hR _ _ fin D C h' m' tk ys mo made hLD j F' N' o0 o1 o2 o3 o4 o5
theorem comp1 {elt target iter : Expr} {ifs : List Expr} {scope : Scope} {pos : Pos} {cl : List (Str × Addr)} {Mo : List Addr} {Q : Value → Shared → Prop} (_F₀ : Fr h₀ L s.heap m)
    (hclos : closureFor scope env = pure cl) (hkind : scope.kind = .function) (hnames : ∀ y ∈ scope.names, y.2 = .local → scope.names.lookup y.1 = some .local)
    (h : wpAny (model prog w) A (eval iter env) (Src1 prog w A h₀ L m elt target ifs scope cl env Mo (Fin1 h₀ L m Mo Q)) E s)
    (hs : ∀ x, foldedSetIterable iter env x = pure x := by intro _; rfl) :
    wpAny (model prog w) A (eval (.ListComp elt [⟨target, iter, ifs, 0⟩] scope pos) env) Q E s := by
  rw [eval_ListComp]
  refine wpAny_comprehension_free (use := none) rfl hs hclos hkind hnames (wpAny_mono h (fun xv s₁ h₁ => ?_) fun _ _ e => e)
  refine comp1_block (RR := fun acc C => compPost (model prog w) A E none Q acc C) h₁ fun J news fin D C h' m' tk ys mo made hLD j F' N' o0 o1 o2 o3 o4 o5 => ?_
  exact ⟨m', o5, fun h'' hs'' => fin D h'' tk ys mo made hLD j (F'.change hs'' o4 o3) (fun p hp => ⟨hs''.extBut _ _ (o2 p hp) (N' p hp).1, (N' p hp).2⟩) o0 o1⟩
theorem assign1 {elt target iter : Expr} {ifs : List Expr} {scope : Scope} {y : Str} {py : Pos} {pos spos : Pos} {cl : List (Str × Addr)} {Mo : List Addr} {Q : Flow → Shared → Prop} (_F₀ : Fr h₀ L s.heap m)
    (hLe : env.locals = L)
    (hsw : swapsWith (.ListComp elt [⟨target, iter, ifs, 0⟩] scope pos) (some (.Name y py)) spos.line env = pure true)
    (hclos : closureFor scope env = pure cl) (hkind : scope.kind = .function) (hnames : ∀ y ∈ scope.names, y.2 = .local → scope.names.lookup y.1 = some .local)
    (hy : env.kindOf y = some .local) (hp : (env.scope.kind == .class || (env.scope.kind == .module && env.locals != env.globals)) = false)
    (h : wpAny (model prog w) A (eval iter env) (Src1 prog w A h₀ L m elt target ifs scope cl env Mo (FinA h₀ L m Mo y Q)) E s)
    (hs : ∀ x, foldedSetIterable iter env x = pure x := by intro _; rfl) :
    wpAny (model prog w) A (exec (.Assign [.Name y py] (.ListComp elt [⟨target, iter, ifs, 0⟩] scope pos) spos) env) Q E s := by
  subst hLe
  rw [exec_Assign_Name_used _ _ _ _ hsw]
  refine wpAny_bind (wpAny_standAt (wpAny_bind ?_))
  show wpAny _ A (do let _ ← comprehension (.ListComp elt [⟨target, iter, ifs, 0⟩] scope pos) scope env _ (newList []) false (eval iter env) (some (assign (.Name y py) env))) _ _ s
  refine wpAny_bind (wpAny_mono (wpAny_comprehension_free (use := some (assign (.Name y py) env)) (Q := fun _ s' => Q .next s') rfl hs hclos hkind hnames
    (wpAny_mono h (fun xv s₁ h₁ => ?_) fun _ _ e => e)) (fun _ s' hq => wpAny_pure (wpAny_pure hq)) fun _ _ e => e)
  refine comp1_block (RR := fun acc C => compPost (model prog w) A E (some (assign (.Name y py) env)) (fun _ s' => Q .next s') acc C) h₁ fun J news fin D C h' m' tk ys mo made hLD j F' N' o0 o1 o2 o3 o4 o5 => ?_
  show wpAny _ A (assign (.Name y py) env (.ref D)) _ _ _
  refine wpAny_assign_Name (wpAny_storeName_local hy F'.ns (fun h₂ hn₂ hs₂ => ?_) hp)
  have hL₀ : h₀.get? env.locals = none := Heap.get?_none_of_le F'.above
  have F₂ : Fr h₀ env.locals h₂ (fun z => if z = y then some (.ref D) else m z) := ⟨hn₂, fun b o e => hs₂.extBut b o (fun q => by rw [q, hL₀] at e; cases e) (F'.keep b o e), F'.above⟩
  exact ⟨m', o5.sameBut hs₂ o4, fun h'' hs'' => fin D h'' _ ys mo made hLD j (F₂.change hs'' o4 o3) (fun p hp => ⟨hs''.extBut _ _ (o2 p hp) (hs₂.extBut _ _ (N' p hp).2.1 (N' p hp).1), (N' p hp).2⟩) o0 o1⟩
end
end Mine
namespace Mine
section
variable {prog : Program} {w : World} {A : Around} {E : Value → Shared → Prop} {s : Shared} {h₀ : Heap} {L : Addr} {m : Str → Option Value} {env : Env}
inductive ForEnd (h₀ : Heap) (L : Addr) (s : Shared) (Mo : List Addr) (tail : List (Addr × Obj)) (J : (Str → Option Value) → List (Addr × Obj) → List (Addr × Obj) → Prop) (Q : Flow → Shared → Prop) : Flow → Shared → Prop
  | next (s' : Shared) (hs : Same s s') (m' : Str → Option Value) (mo new : List (Addr × Obj)) (F : Fr h₀ L s'.heap m') (N : News h₀ L s'.heap (mo ++ (new ++ tail))) (hmo : mo.map (·.1) = Mo) (hn : ∀ p ∈ new, p.1 ∉ Mo ∧ ∀ q ∈ tail, p.1 ≠ q.1) (hJ : J m' mo new) : ForEnd h₀ L s Mo tail J Q .next s'
  | ret (v : Value) (s' : Shared) (h : Q (.ret v) s') : ForEnd h₀ L s Mo tail J Q (.ret v) s'
theorem ForEnd.go {Mo : List Addr} {tail nw mo : List (Addr × Obj)} {J : (Str → Option Value) → List (Addr × Obj) → List (Addr × Obj) → Prop} {Q : Flow → Shared → Prop} {m' : Str → Option Value} {s₁ s' : Shared} (hs : Same s s₁) (hs' : Same s₁ s') (F : Fr h₀ L s'.heap m') (N : News h₀ L s'.heap nw)
    (sub : ∀ p ∈ mo ++ tail, p ∈ nw) (hmo : mo.map (·.1) = Mo) (hJ : J m' mo []) : ForEnd h₀ L s Mo tail J Q .next s' :=
  .next _ (hs.trans hs') m' mo [] F (nSub N sub) hmo (fun _ h => (nomatch h)) hJ
noncomputable def TurnsF (prog : Program) (w : World) (A : Around) (h₀ : Heap) (L : Addr) (s : Shared) (target : Expr) (body : List Stmt) (env : Env) (P : Nat → Value → Heap → Prop) (n : Nat) (Mo : List Addr) (news : List (Addr × Obj)) (Q : Flow → Shared → Prop)
    (J : Nat → (Str → Option Value) → List (Addr × Obj) → List (Addr × Obj) → Prop) : Prop :=
  ∀ i v m₁ mo made tail (s₁ : Shared) (E' : Value → Shared → Prop), i < n → J i m₁ mo made → P i v s₁.heap → Same s s₁ → Fr h₀ L s₁.heap m₁ → News h₀ L s₁.heap (mo ++ (news ++ tail)) → (∀ p ∈ made, p ∈ tail) → (∀ p ∈ news ++ tail, p.1 ∉ Mo) → mo.map (·.1) = Mo →
    wpAny (model prog w) A (assign target env v) (fun _ s₂ => wpAny (model prog w) A (execs body env) (ForEnd h₀ L s Mo tail (fun m' mo' new => J (i + 1) m' mo' (new ++ made)) Q) E' s₂) E' s₁
inductive SrcF (prog : Program) (w : World) (A : Around) (h₀ : Heap) (L : Addr) (target : Expr) (body : List Stmt) (env : Env) (Q : Flow → Shared → Prop) (xv : Value) (s : Shared) : Prop
  | intro (own fx : List Addr) (n : Nat) (P : Nat → Value → Heap → Prop) (Mo : List Addr) (mo₀ news : List (Addr × Obj)) (m : Str → Option Value) (J : Nat → (Str → Option Value) → List (Addr × Obj) → List (Addr × Obj) → Prop)
    (hst : Starts prog w A target xv s own fx n P) (F : Fr h₀ L s.heap m) (N : News h₀ L s.heap (mo₀ ++ news)) (hmo : mo₀.map (·.1) = Mo) (hMo : ∀ b ∈ Mo, b ∉ fx ∧ b ∉ own ∧ ∀ p ∈ news, p.1 ≠ b) (hown : ∀ b ∈ own, h₀.get? b = none ∧ ∀ p ∈ news, p.1 ≠ b) (hJ : J 0 m mo₀ [])
    (turn : TurnsF prog w A h₀ L s target body env P n Mo news Q J)
    (fin : ∀ h' tk m' mo made, J n m' mo made → Fr h₀ L h' m' → News h₀ L h' (mo ++ (made ++ news)) → mo.map (·.1) = Mo → (∀ p ∈ made ++ news, p.1 ∉ Mo) → Q .next { s with heap := h', toks := tk })
inductive LoopF (h₀ : Heap) (L : Addr) (Mo wr : List Addr) (n : Nat) (St : Nat → Heap → Prop) (news : List (Addr × Obj)) (J : Nat → (Str → Option Value) → List (Addr × Obj) → List (Addr × Obj) → Prop) (s₁ : Shared) (k : Nat) (s' : Shared) : Prop
  | intro (i : Nat) (m' : Str → Option Value) (mo made : List (Addr × Obj)) (hs : Same s₁ s') (hi : i ≤ n) (hk : k = n + 1 - i) (hst : St i s'.heap) (F : Fr h₀ L s'.heap m') (N : News h₀ L s'.heap (mo ++ (made ++ news))) (hmo : mo.map (·.1) = Mo) (hm : ∀ p ∈ made, p.1 ∉ wr ∧ p.1 ∉ Mo) (hJ : J i m' mo made)
theorem forG {target iter : Expr} {body : List Stmt} {pos : Pos} {Q : Flow → Shared → Prop}
    (hLe : env.locals = L)
    (h : wpAny (model prog w) A (eval iter env) (SrcF prog w A h₀ L target body env Q) (fun _ _ => False) s)
    (hs : ∀ x, foldedSetIterable iter env x = pure x := by intro _; rfl) :
    wpAny (model prog w) A (exec (.For target iter body [] pos) env) Q (fun _ _ => False) s := by
  subst hLe
  refine wpAny_For (wpAny_mono h (fun xv s₁ h₁ => ?_) fun _ _ e => e) hs
  obtain ⟨own, fx, n, P, Mo, mo₀, news, m, J, hst, F, N, hmo, hMo, hown, hJ, turn, fin⟩ := h₁
  refine hst _ _ fun I fp wr Md St h W st hk hfp hwr hfx => ?_
  have wr₀ : ∀ b ∈ wr, h₀.get? b = none ∧ ∀ p ∈ news, p.1 ≠ b := fun b hb => by
    rcases hwr b hb with x | x
    · exact hown b x
    · refine ⟨?_, fun p hp => ?_⟩
      · cases e : h₀.get? b with
        | none => rfl
        | some o => rw [F.keep b o e] at x; cases x
      · rintro rfl
        rw [(N p (List.mem_append_right _ hp)).1] at x
        cases x
  have Mfp : ∀ b ∈ Mo, b ∉ fp := fun b hb x => by
    rcases hfx b x with y | y | y
    · exact (hMo b hb).1 y
    · exact (hMo b hb).2.1 y
    · rw [← hmo] at hb
      obtain ⟨p, hp, rfl⟩ := List.mem_map.mp hb
      rw [(N p (List.mem_append_left _ hp)).1] at y
      cases y
  have hLf : env.locals ∉ fp := fun x => (hfp _ x).2 m (F.keeps hk).ns
  have hLw : env.locals ∉ wr := fun x => hLf (W.turns.sub _ x)
  have hMw : ∀ b ∈ Mo, b ∉ wr := fun b hb x => Mfp b hb (W.turns.sub _ x)
  have base_wr : ∀ b o, h₀.get? b = some o → b ∉ wr := fun b o e hb => by rw [(wr₀ b hb).1] at e; cases e
  have inMo : ∀ {mo : List (Addr × Obj)}, mo.map (·.1) = Mo → ∀ p ∈ mo, p.1 ∈ Mo := fun e p hp => e ▸ List.mem_map_of_mem (f := fun x : Addr × Obj => x.1) hp
  refine codeAny_forLoop_any (LoopF h₀ env.locals Mo wr n St news J s₁) ?_ (n + 1)
    ⟨0, m, mo₀, [], ⟨h, s₁.toks, rfl⟩, Nat.zero_le _, rfl, st, F.keeps hk, N.grown hk, hmo, fun _ h => (nomatch h), hJ⟩
  rintro k s' ⟨i, m', mo, made, hs', hi, rfl, hst', F', N', hmo', hm', hJ'⟩
  have next : ∀ h₁ : Heap, (∀ b o, b ∉ wr → s'.heap.get? b = some o → h₁.get? b = some o) → Fr h₀ env.locals h₁ m' ∧ News h₀ env.locals h₁ (mo ++ (made ++ news)) := fun h₁ hk₁ =>
    ⟨⟨F'.ns.at' fun o e => hk₁ _ o hLw e, fun b o e => hk₁ b o (base_wr b o e) (F'.keep b o e), F'.above⟩, fun p hp => ⟨hk₁ _ _ (by
      rcases List.mem_append.mp hp with hp | hp
      · exact hMw _ (inMo hmo' p hp)
      · rcases List.mem_append.mp hp with hp | hp
        · exact (hm' p hp).1
        · exact fun x => (wr₀ _ x).2 p hp rfl) (N' p hp).1, (N' p hp).2⟩⟩
  by_cases hlt : i < n
  · refine W.turns.item i _ _ _ hlt hst' fun v h₁ tk₁ hMd hk₁ => ?_
    refine W.turns.go i v _ _ _ hMd fun h₂ hP hst₂ hk₂ => ?_
    obtain ⟨F₂, N₂⟩ := next h₂ fun b o hb x => hk₂ b o hb (hk₁ b o hb x)
    have Nrest : News h₀ env.locals h₂ (rest h₀ h₂ env.locals Mo) := rest_news
    have Nnews : News h₀ env.locals h₂ news := fun p hp => N₂ p (List.mem_append_right _ (List.mem_append_right _ hp))
    have N₃ : News h₀ env.locals h₂ (mo ++ (news ++ rest h₀ h₂ env.locals Mo)) := nApp (fun p hp => N₂ p (List.mem_append_left _ hp)) (nApp Nnews Nrest)
    have hmade : ∀ p ∈ made, p ∈ rest h₀ h₂ env.locals Mo := fun p hp => by
      have z := N₂ p (List.mem_append_right _ (List.mem_append_left _ hp))
      exact mem_rest z.2.1 (hm' p hp).2 z.2.2 z.1
    have hap : ∀ p ∈ news ++ rest h₀ h₂ env.locals Mo, p.1 ∉ Mo := fun p hp => by
      rcases List.mem_append.mp hp with hp | hp
      · exact fun x => (hMo _ x).2.2 p hp rfl
      · exact rest_ne p hp
    refine wpAny_mono (turn i v m' mo made _ { s' with heap := h₂, toks := tk₁ } _ hlt hJ' hP (hs'.trans (.mk s' _ _)) F₂ N₃ hmade hap hmo') (fun _ s₂ h₂' => wpAny_mono h₂' (fun f s₃ h₃ => ?_) fun _ _ e => e) fun _ _ e => e
    cases h₃ with
    | ret v _ h₃ => exact h₃
    | next _ hs₃ m₃ mo₃ new F₄ N₄ hmo₄ hnew hJ₄ =>
      have N₄' : News h₀ env.locals s₃.heap (new ++ rest h₀ h₂ env.locals Mo) := nSub N₄ fun p hp => List.mem_append_right _ hp
      have keep : ∀ b o, b ≠ env.locals → b ∉ Mo → h₂.get? b = some o → s₃.heap.get? b = some o := fun b o h1 h2 e => kept F₄ F₂ N₄' h1 h2 e
      refine ⟨n + 1 - (i + 1), by lia, i + 1, m₃, mo₃, new ++ made, hs₃, hlt, rfl, W.turns.frame _ _ _ hst₂ fun b hb o e => keep b o (fun x => hLf (x ▸ hb)) (fun x => Mfp b x hb) e, F₄, fun p hp => ?_, hmo₄, fun p hp => ?_, hJ₄⟩
      · rcases List.mem_append.mp hp with hp | hp
        · exact N₄ p (List.mem_append_left _ hp)
        · rcases List.mem_append.mp hp with hp | hp
          · rcases List.mem_append.mp hp with hp | hp
            · exact N₄' p (List.mem_append_left _ hp)
            · exact N₄' p (List.mem_append_right _ (hmade p hp))
          · exact ⟨keep _ _ (Nnews p hp).2.1 (fun x => (hMo _ x).2.2 p hp rfl) (Nnews p hp).1, (Nnews p hp).2⟩
      · rcases List.mem_append.mp hp with hp | hp
        · refine ⟨fun x => ?_, (hnew p hp).1⟩
          obtain ⟨o, e⟩ := W.has _ _ hst₂ _ x
          exact (hnew p hp).2 _ (mem_rest (fun z => hLw (z ▸ x)) (hnew p hp).1 (wr₀ _ x).1 e) rfl
        · exact hm' p hp
  · obtain rfl : i = n := Nat.le_antisymm hi (Nat.not_lt.mp hlt)
    refine W.turns.done _ _ _ hst' fun h₁ tk₁ hk₁ => wpAny_execs_nil ?_
    obtain ⟨F₁, N₁⟩ := next h₁ hk₁
    obtain ⟨g, tk, rfl⟩ := hs'
    refine fin h₁ tk₁ m' mo made hJ' F₁ N₁ hmo' fun p hp => ?_
    rcases List.mem_append.mp hp with hp | hp
    · exact (hm' p hp).2
    · exact fun x => (hMo _ x).2.2 p hp rfl
theorem starts_rev {x : Str} {px : Pos} {it l : Addr} {its : Array Value} (hh : A.handled = none) (hit : s.heap.IsRevIter it l ((its.size : Int) - 1)) (hl : s.heap.IsList l its) (hne : l ≠ it) :
    Starts prog w A (.Name x px) (.ref it) s [it] [l] its.size (fun i v _ => its[its.size - 1 - i]? = some v) := by
  intro Q E hQ
  have W := Walks.listRev (prog := prog) (w := w) hh it l hne its
  have st : 0 ≤ its.size ∧ s.heap.IsRevIter it l ((its.size : Int) - 1 - ((0 : Nat) : Int)) ∧ s.heap.IsList l its := ⟨Nat.zero_le _, by simpa using hit, hl⟩
  refine W.self 0 _ _ _ st ?_
  refine hQ _ _ _ _ _ _ (feed_ofWalks W (fun v => .inl (go_name _ _)) (fun i h st b hb => ?_)) st (fun _ _ e => e) (fun b hb => ?_) (fun b hb => .inl hb) fun b hb => ?_
  · rw [List.mem_singleton.mp hb]
    obtain ⟨o, e, _⟩ := st.2.1
    exact ⟨o, e⟩
  · rcases List.mem_cons.mp hb with rfl | hb
    · obtain ⟨o, e, hc, hd⟩ := hit
      exact ⟨Heap.lt_size e, not_ns_of e (by intro _ _ q; rw [hd] at q; cases q)⟩
    · rw [List.mem_singleton.mp hb]
      obtain ⟨o, e, _⟩ := id hl
      exact ⟨Heap.lt_size e, not_ns_list hl⟩
  · rcases List.mem_cons.mp hb with rfl | hb
    · exact .inr (.inl (by simp))
    · exact .inl hb
end
end Mine
namespace Mine
theorem sub_pre {α : Type} (pre : List α) (d c : α) (n t : List α) : ∀ p ∈ d :: t, p ∈ pre ++ d :: c :: (n ++ t) := fun _ hp => List.mem_append_right _ ((List.mem_cons.mp hp).elim (fun e => e ▸ List.mem_cons_self) fun h => List.mem_cons_of_mem _ (List.mem_cons_of_mem _ (List.mem_append_right _ h)))
theorem sub_pre2 {α : Type} (pre : List α) (d c c' : α) (n t : List α) : ∀ p ∈ d :: t, p ∈ pre ++ d :: c :: c' :: (n ++ t) := fun _ hp => List.mem_append_right _ ((List.mem_cons.mp hp).elim (fun e => e ▸ List.mem_cons_self) fun h => List.mem_cons_of_mem _ (List.mem_cons_of_mem _ (List.mem_cons_of_mem _ (List.mem_append_right _ h))))
section
variable {prog : Program} {w : World} {A : Around} {E : Value → Shared → Prop} {s : Shared} {h₀ : Heap} {L : Addr} {m : Str → Option Value} {env : Env}
noncomputable def GoesOn (h₀ : Heap) (L : Addr) (m : Str → Option Value) (s₁ : Shared) (D : Addr) (ys : List Value) (tail : List (Addr × Obj)) (J : List Value → Prop) (Qe : Value → Shared → Prop) : Prop :=
  ∀ y h' tk nw, Fr h₀ L h' m → News h₀ L h' nw → (∀ p ∈ (D, lst ys) :: tail, p ∈ nw) → J (ys ++ [y]) → Qe y { s₁ with heap := h', toks := tk }
noncomputable def Skips (h₀ : Heap) (L : Addr) (m : Str → Option Value) (s₁ : Shared) (D : Addr) (ys : List Value) (tail : List (Addr × Obj)) (J : List Value → Prop) (Qs : Shared → Prop) : Prop :=
  ∀ h' tk nw, Fr h₀ L h' m → News h₀ L h' nw → (∀ p ∈ (D, lst ys) :: tail, p ∈ nw) → J ys → Qs { s₁ with heap := h', toks := tk }
noncomputable def FinP (h₀ : Heap) (L : Addr) (m : Str → Option Value) (Q : Value → Shared → Prop) (s : Shared) (J : List Value → Prop) (news : List (Addr × Obj)) : Prop :=
  ∀ D h' tk ys, @LT.lt Nat _ L D → Fr h₀ L h' m → News h₀ L h' ((D, lst ys) :: news) → (∀ p ∈ news, p.1 ≠ D) → J ys → Q (.ref D) { s with heap := h', toks := tk }
noncomputable def FinAP (h₀ : Heap) (L : Addr) (m : Str → Option Value) (y : Str) (Q : Flow → Shared → Prop) (s : Shared) (J : List Value → Prop) (news : List (Addr × Obj)) : Prop :=
  ∀ D h' tk ys, @LT.lt Nat _ L D → Fr h₀ L h' (fun z => if z = y then some (.ref D) else m z) → News h₀ L h' ((D, lst ys) :: news) → (∀ p ∈ news, p.1 ≠ D) → J ys → Q .next { s with heap := h', toks := tk }
noncomputable def TurnsN (prog : Program) (w : World) (A : Around) (h₀ : Heap) (L : Addr) (m : Str → Option Value) (elt : Expr) (x : Str) (cenv : Addr → Env) (n : Nat) (P : Nat → Value → Heap → Prop) (news : List (Addr × Obj)) (J : Nat → List Value → Prop) : Prop :=
  ∀ D C oC mC i v h ys tail (s₁ : Shared) (E' : Value → Shared → Prop) (Qe : Value → Shared → Prop), i < n → NsObj oC mC → mC x = some v → Fr h₀ L s₁.heap m → News h₀ L s₁.heap ((D, lst ys) :: (C, oC) :: (news ++ tail)) → (∀ p ∈ (C, oC) :: (news ++ tail), p.1 ≠ D) →
    GoesOn h₀ L m s₁ D ys tail (J (i + 1)) Qe → P i v h → J i ys → wpAny (model prog w) A (eval elt (cenv C)) Qe E' s₁
noncomputable def TurnsT (prog : Program) (w : World) (A : Around) (h₀ : Heap) (L : Addr) (m : Str → Option Value) (elt test : Expr) (x : Str) (cenv : Addr → Env) (n : Nat) (P : Nat → Value → Heap → Prop) (news : List (Addr × Obj)) (J : Nat → List Value → Prop) : Prop :=
  ∀ D C oC mC i v h ys tail (s₁ : Shared) (E' : Value → Shared → Prop) (Qe : Value → Shared → Prop) (Qs : Shared → Prop), i < n → NsObj oC mC → mC x = some v → Fr h₀ L s₁.heap m → News h₀ L s₁.heap ((D, lst ys) :: (C, oC) :: (news ++ tail)) → (∀ p ∈ (C, oC) :: (news ++ tail), p.1 ≠ D) →
    GoesOn h₀ L m s₁ D ys tail (J (i + 1)) Qe → Skips h₀ L m s₁ D ys tail (J (i + 1)) Qs → P i v h → J i ys →
    wpAny (model prog w) A (isTrue test (cenv C) (eval test (cenv C))) (fun ok s₃ => if ok = true then wpAny (model prog w) A (eval elt (cenv C)) Qe E' s₃ else Qs s₃) E' s₁
noncomputable def TurnsP (prog : Program) (w : World) (A : Around) (h₀ : Heap) (L : Addr) (m : Str → Option Value) (elt : Expr) (x y : Str) (cenv : Addr → Env) (n : Nat) (P : Nat → Value → Value → Prop) (news : List (Addr × Obj)) (J : Nat → List Value → Prop) : Prop :=
  ∀ D C oC mC i a b ys tail (s₁ : Shared) (E' : Value → Shared → Prop) (Qe : Value → Shared → Prop), i < n → NsObj oC mC → mC x = some a → mC y = some b → Fr h₀ L s₁.heap m → News h₀ L s₁.heap ((D, lst ys) :: (C, oC) :: (news ++ tail)) → (∀ p ∈ (C, oC) :: (news ++ tail), p.1 ≠ D) →
    GoesOn h₀ L m s₁ D ys tail (J (i + 1)) Qe → P i a b → J i ys → wpAny (model prog w) A (eval elt (cenv C)) Qe E' s₁
noncomputable def TurnsPT (prog : Program) (w : World) (A : Around) (h₀ : Heap) (L : Addr) (m : Str → Option Value) (elt test : Expr) (x y : Str) (cenv : Addr → Env) (n : Nat) (P : Nat → Value → Value → Prop) (news : List (Addr × Obj)) (J : Nat → List Value → Prop) : Prop :=
  ∀ D C oC mC i a b ys tail (s₁ : Shared) (E' : Value → Shared → Prop) (Qe : Value → Shared → Prop) (Qs : Shared → Prop), i < n → NsObj oC mC → mC x = some a → mC y = some b → Fr h₀ L s₁.heap m → News h₀ L s₁.heap ((D, lst ys) :: (C, oC) :: (news ++ tail)) → (∀ p ∈ (C, oC) :: (news ++ tail), p.1 ≠ D) →
    GoesOn h₀ L m s₁ D ys tail (J (i + 1)) Qe → Skips h₀ L m s₁ D ys tail (J (i + 1)) Qs → P i a b → J i ys →
    wpAny (model prog w) A (isTrue test (cenv C) (eval test (cenv C))) (fun ok s₃ => if ok = true then wpAny (model prog w) A (eval elt (cenv C)) Qe E' s₃ else Qs s₃) E' s₁
noncomputable def TurnsC (prog : Program) (w : World) (A : Around) (h₀ : Heap) (L : Addr) (m : Str → Option Value) (elt : Expr) (cenv : Addr → Env) (n : Nat) (P : Nat → Value → Heap → Prop) (news : List (Addr × Obj)) (J : Nat → List Value → Prop) : Prop :=
  ∀ D C oC oc mC i v h ys tail (s₁ : Shared) (E' : Value → Shared → Prop) (Qe : Value → Shared → Prop), i < n → NsObj oC mC → oc.data = .cell (some v) → Fr h₀ L s₁.heap m → News h₀ L s₁.heap ((D, lst ys) :: (C + 1, oc) :: (C, oC) :: (news ++ tail)) → (∀ p ∈ (C + 1, oc) :: (C, oC) :: (news ++ tail), p.1 ≠ D) →
    GoesOn h₀ L m s₁ D ys tail (J (i + 1)) Qe → P i v h → J i ys → wpAny (model prog w) A (eval elt (cenv C)) Qe E' s₁
noncomputable def TurnsCT (prog : Program) (w : World) (A : Around) (h₀ : Heap) (L : Addr) (m : Str → Option Value) (elt test : Expr) (cenv : Addr → Env) (n : Nat) (P : Nat → Value → Heap → Prop) (news : List (Addr × Obj)) (J : Nat → List Value → Prop) : Prop :=
  ∀ D C oC oc mC i v h ys tail (s₁ : Shared) (E' : Value → Shared → Prop) (Qe : Value → Shared → Prop) (Qs : Shared → Prop), i < n → NsObj oC mC → oc.data = .cell (some v) → Fr h₀ L s₁.heap m → News h₀ L s₁.heap ((D, lst ys) :: (C + 1, oc) :: (C, oC) :: (news ++ tail)) → (∀ p ∈ (C + 1, oc) :: (C, oC) :: (news ++ tail), p.1 ≠ D) →
    GoesOn h₀ L m s₁ D ys tail (J (i + 1)) Qe → Skips h₀ L m s₁ D ys tail (J (i + 1)) Qs → P i v h → J i ys →
    wpAny (model prog w) A (isTrue test (cenv C) (eval test (cenv C))) (fun ok s₃ => if ok = true then wpAny (model prog w) A (eval elt (cenv C)) Qe E' s₃ else Qs s₃) E' s₁
inductive SrcP (prog : Program) (w : World) (A : Around) (h₀ : Heap) (L : Addr) (m : Str → Option Value) (target : Expr) {T : Type} (PT : T → Nat → Value → Heap → Prop) (Turns : Nat → T → List (Addr × Obj) → (Nat → List Value → Prop) → Prop) (Fin : Shared → (List Value → Prop) → List (Addr × Obj) → Prop) (xv : Value) (s : Shared) : Prop
  | intro (own : List Addr) (n : Nat) (P : T) (news : List (Addr × Obj)) (J : Nat → List Value → Prop) (fx : List Addr)
    (hst : Starts prog w A target xv s own fx n (PT P)) (F : Fr h₀ L s.heap m) (N : News h₀ L s.heap news) (hown : ∀ b ∈ own, h₀.get? b = none ∧ ∀ p ∈ news, p.1 ≠ b) (hJ : J 0 []) (hlen : ∀ i ys, J i ys → ys.length ≤ sizeLine)
    (turn : Turns n P news J) (fin : Fin s (J n) news)
theorem srcP {elt target : Expr} {ifs : List Expr} {scope : Scope} {cl : List (Str × Addr)} {T : Type} {PT : T → Nat → Value → Heap → Prop} {Turns : Nat → T → List (Addr × Obj) → (Nat → List Value → Prop) → Prop} {FinS : Shared → (List Value → Prop) → List (Addr × Obj) → Prop}
    {FinG : Shared → (List Value → List (Addr × Obj) → List (Addr × Obj) → Prop) → List (Addr × Obj) → Prop} {xv : Value}
    (Kd : ∀ P, Kind prog w A target scope cl env (PT P))
    (ht : ∀ n P news J, Turns n P news J → ∀ D C i v ys tail own (s₁ : Shared) (E' : Value → Shared → Prop) (Qe : Value → Shared → Prop) (Qs : Shared → Prop), i < n → Fr h₀ L s₁.heap m → News h₀ L s₁.heap ((D, lst ys) :: (own ++ (news ++ tail))) → (∀ p ∈ own ++ (news ++ tail), p.1 ≠ D) →
      GoesOn h₀ L m s₁ D ys tail (J (i + 1)) Qe → Skips h₀ L m s₁ D ys tail (J (i + 1)) Qs → (Kd P).Aft C i v own → J i ys →
      wpAny (model prog w) A (testsOf ifs (cenvOf scope cl C env)) (fun ok s₃ => if ok = true then wpAny (model prog w) A (eval elt (cenvOf scope cl C env)) Qe E' s₃ else Qs s₃) E' s₁)
    (hf : ∀ (s' : Shared) (J : List Value → Prop) news, FinS s' J news → FinG s' (fun ys mo made => (mo = [] ∧ made = []) ∧ J ys) news)
    (h : SrcP prog w A h₀ L m target PT Turns FinS xv s) : Src1 prog w A h₀ L m elt target ifs scope cl env [] FinG xv s := by
  obtain ⟨own, n, P, news, J, fx, hst, F, N, hown, hJ, hlen, turn, fin⟩ := h
  refine ⟨own, n, PT P, [], news, fun i ys mo made => (mo = [] ∧ made = []) ∧ J i ys, Kd P, fx, hst, F, N, rfl, (fun _ h => nomatch h), hown, ⟨⟨rfl, rfl⟩, hJ⟩, (fun i ys _ _ h => hlen i ys h.2), ?_, hf _ _ _ fin⟩
  intro D C i v ys mo made tail own' s₁ E' hi hj hA hs F₁ N₁ _ hap _ _
  obtain ⟨⟨rfl, rfl⟩, hj⟩ := hj
  exact ht n P news J turn D C i v ys tail own' s₁ E' _ _ hi F₁ N₁ (fun p hp => (hap p hp).1) (fun y h' tk nw F' N' sub j => .plain hs ⟨h', tk, rfl⟩ F' N' sub ⟨⟨rfl, rfl⟩, j⟩)
    (fun h' tk nw F' N' sub j => .mk hs ⟨h', tk, rfl⟩ F' N' sub ⟨⟨rfl, rfl⟩, j⟩) hA hj
theorem finP {Q : Value → Shared → Prop} (s' : Shared) (J : List Value → Prop) (news : List (Addr × Obj)) (f : FinP h₀ L m Q s' J news) : Fin1 h₀ L m [] Q s' (fun ys mo made => (mo = [] ∧ made = []) ∧ J ys) news := by
  intro D h' tk ys mo made hLD hj F' N' _ hap
  obtain ⟨⟨rfl, rfl⟩, hj⟩ := hj
  exact f D h' tk ys hLD F' N' hap hj
theorem finAP {y : Str} {Q : Flow → Shared → Prop} (s' : Shared) (J : List Value → Prop) (news : List (Addr × Obj)) (f : FinAP h₀ L m y Q s' J news) : FinA h₀ L m [] y Q s' (fun ys mo made => (mo = [] ∧ made = []) ∧ J ys) news := by
  intro D h' tk ys mo made hLD hj F' N' _ hap
  obtain ⟨⟨rfl, rfl⟩, hj⟩ := hj
  exact f D h' tk ys hLD F' N' hap hj
end
end Mine
namespace Mine
section
variable {prog : Program} {w : World} {A : Around} {E : Value → Shared → Prop} {s : Shared} {h₀ : Heap} {L : Addr} {m : Str → Option Value} {env : Env} {elt iter : Expr} {scope : Scope} {pos : Pos} {cl : List (Str × Addr)}
theorem compOfN {x : Str} {px : Pos} {Q : Value → Shared → Prop} (F₀ : Fr h₀ L s.heap m) (hclos : closureFor scope env = pure cl) (hkind : scope.kind = .function) (hnames : ∀ y ∈ scope.names, y.2 = .local → scope.names.lookup y.1 = some .local)
    (hx : scope.names.lookup x = some .local)
    (h : wpAny (model prog w) A (eval iter env) (SrcP prog w A h₀ L m (.Name x px) (fun P => P) (fun n P news J => TurnsN prog w A h₀ L m elt x (fun C => cenvOf scope cl C env) n P news J) (FinP h₀ L m Q)) E s)
    (hs : ∀ x, foldedSetIterable iter env x = pure x := by intro _; rfl) :
    wpAny (model prog w) A (eval (.ListComp elt [⟨(.Name x px), iter, [], 0⟩] scope pos) env) Q E s :=
  comp1 (Mo := []) F₀ hclos hkind hnames (wpAny_mono h (fun xv s₁ h₁ => srcP (fun P => kindName x px scope cl env P hkind hx) (fun n P news J turn D C i v ys tail own s₁ E' Qe Qs hi F₁ N₁ hap hq hq' hA hj => by
    obtain ⟨oC, mC, rfl, hC, hv, h, hp⟩ := hA
    exact wpAny_tests_nil ((show (if true = true then _ else _) from turn D C oC mC i v h ys tail s₁ E' Qe hi hC hv F₁ N₁ hap hq hp hj))) finP h₁) fun _ _ e => e) hs
theorem assignOfN {x : Str} {px : Pos} {z : Str} {pz spos : Pos} {Q : Flow → Shared → Prop} (F₀ : Fr h₀ L s.heap m) (hLe : env.locals = L)
    (hsw : swapsWith (.ListComp elt [⟨(.Name x px), iter, [], 0⟩] scope pos) (some (.Name z pz)) spos.line env = pure true)
    (hclos : closureFor scope env = pure cl) (hkind : scope.kind = .function) (hnames : ∀ y ∈ scope.names, y.2 = .local → scope.names.lookup y.1 = some .local)
    (hz : env.kindOf z = some .local) (hp : (env.scope.kind == .class || (env.scope.kind == .module && env.locals != env.globals)) = false)
    (hx : scope.names.lookup x = some .local)
    (h : wpAny (model prog w) A (eval iter env) (SrcP prog w A h₀ L m (.Name x px) (fun P => P) (fun n P news J => TurnsN prog w A h₀ L m elt x (fun C => cenvOf scope cl C env) n P news J) (FinAP h₀ L m z Q)) E s)
    (hs : ∀ x, foldedSetIterable iter env x = pure x := by intro _; rfl) :
    wpAny (model prog w) A (exec (.Assign [.Name z pz] (.ListComp elt [⟨(.Name x px), iter, [], 0⟩] scope pos) spos) env) Q E s :=
  assign1 (Mo := []) F₀ hLe hsw hclos hkind hnames hz hp (wpAny_mono h (fun xv s₁ h₁ => srcP (fun P => kindName x px scope cl env P hkind hx) (fun n P news J turn D C i v ys tail own s₁ E' Qe Qs hi F₁ N₁ hap hq hq' hA hj => by
    obtain ⟨oC, mC, rfl, hC, hv, h, hp⟩ := hA
    exact wpAny_tests_nil ((show (if true = true then _ else _) from turn D C oC mC i v h ys tail s₁ E' Qe hi hC hv F₁ N₁ hap hq hp hj))) finAP h₁) fun _ _ e => e) hs
theorem compOfT {x : Str} {px : Pos} {test : Expr} {Q : Value → Shared → Prop} (F₀ : Fr h₀ L s.heap m) (hclos : closureFor scope env = pure cl) (hkind : scope.kind = .function) (hnames : ∀ y ∈ scope.names, y.2 = .local → scope.names.lookup y.1 = some .local)
    (hx : scope.names.lookup x = some .local)
    (h : wpAny (model prog w) A (eval iter env) (SrcP prog w A h₀ L m (.Name x px) (fun P => P) (fun n P news J => TurnsT prog w A h₀ L m elt test x (fun C => cenvOf scope cl C env) n P news J) (FinP h₀ L m Q)) E s)
    (hs : ∀ x, foldedSetIterable iter env x = pure x := by intro _; rfl) :
    wpAny (model prog w) A (eval (.ListComp elt [⟨(.Name x px), iter, [test], 0⟩] scope pos) env) Q E s :=
  comp1 (Mo := []) F₀ hclos hkind hnames (wpAny_mono h (fun xv s₁ h₁ => srcP (fun P => kindName x px scope cl env P hkind hx) (fun n P news J turn D C i v ys tail own s₁ E' Qe Qs hi F₁ N₁ hap hq hq' hA hj => by
    obtain ⟨oC, mC, rfl, hC, hv, h, hp⟩ := hA
    exact wpAny_tests_one ((turn D C oC mC i v h ys tail s₁ E' Qe Qs hi hC hv F₁ N₁ hap hq hq' hp hj))) finP h₁) fun _ _ e => e) hs
theorem compOfP {x y : Str} {px py tp : Pos} {tk : Nat} {Q : Value → Shared → Prop} (F₀ : Fr h₀ L s.heap m) (hclos : closureFor scope env = pure cl) (hkind : scope.kind = .function) (hnames : ∀ y ∈ scope.names, y.2 = .local → scope.names.lookup y.1 = some .local)
    (hh : A.handled = none) (hx : scope.names.lookup x = some .local) (hy : scope.names.lookup y = some .local) (hxy : x ≠ y)
    (h : wpAny (model prog w) A (eval iter env) (SrcP prog w A h₀ L m (.Tuple [.Name x px, .Name y py] tk tp) PairAt (fun n P news J => TurnsP prog w A h₀ L m elt x y (fun C => cenvOf scope cl C env) n P news J) (FinP h₀ L m Q)) E s)
    (hs : ∀ x, foldedSetIterable iter env x = pure x := by intro _; rfl) :
    wpAny (model prog w) A (eval (.ListComp elt [⟨(.Tuple [.Name x px, .Name y py] tk tp), iter, [], 0⟩] scope pos) env) Q E s :=
  comp1 (Mo := []) F₀ hclos hkind hnames (wpAny_mono h (fun xv s₁ h₁ => srcP (fun P => kindPair x y px py tp tk scope cl env P hh hkind hx hy hxy) (fun n P news J turn D C i v ys tail own s₁ E' Qe Qs hi F₁ N₁ hap hq hq' hA hj => by
    obtain ⟨oC, mC, a, b, rfl, hC, ha, hb, hp⟩ := hA
    exact wpAny_tests_nil ((show (if true = true then _ else _) from turn D C oC mC i a b ys tail s₁ E' Qe hi hC ha hb F₁ N₁ hap hq hp hj))) finP h₁) fun _ _ e => e) hs
theorem assignOfP {x y : Str} {px py tp : Pos} {tk : Nat} {z : Str} {pz spos : Pos} {Q : Flow → Shared → Prop} (F₀ : Fr h₀ L s.heap m) (hLe : env.locals = L)
    (hsw : swapsWith (.ListComp elt [⟨(.Tuple [.Name x px, .Name y py] tk tp), iter, [], 0⟩] scope pos) (some (.Name z pz)) spos.line env = pure true)
    (hclos : closureFor scope env = pure cl) (hkind : scope.kind = .function) (hnames : ∀ y ∈ scope.names, y.2 = .local → scope.names.lookup y.1 = some .local)
    (hz : env.kindOf z = some .local) (hp : (env.scope.kind == .class || (env.scope.kind == .module && env.locals != env.globals)) = false)
    (hh : A.handled = none) (hx : scope.names.lookup x = some .local) (hy : scope.names.lookup y = some .local) (hxy : x ≠ y)
    (h : wpAny (model prog w) A (eval iter env) (SrcP prog w A h₀ L m (.Tuple [.Name x px, .Name y py] tk tp) PairAt (fun n P news J => TurnsP prog w A h₀ L m elt x y (fun C => cenvOf scope cl C env) n P news J) (FinAP h₀ L m z Q)) E s)
    (hs : ∀ x, foldedSetIterable iter env x = pure x := by intro _; rfl) :
    wpAny (model prog w) A (exec (.Assign [.Name z pz] (.ListComp elt [⟨(.Tuple [.Name x px, .Name y py] tk tp), iter, [], 0⟩] scope pos) spos) env) Q E s :=
  assign1 (Mo := []) F₀ hLe hsw hclos hkind hnames hz hp (wpAny_mono h (fun xv s₁ h₁ => srcP (fun P => kindPair x y px py tp tk scope cl env P hh hkind hx hy hxy) (fun n P news J turn D C i v ys tail own s₁ E' Qe Qs hi F₁ N₁ hap hq hq' hA hj => by
    obtain ⟨oC, mC, a, b, rfl, hC, ha, hb, hp⟩ := hA
    exact wpAny_tests_nil ((show (if true = true then _ else _) from turn D C oC mC i a b ys tail s₁ E' Qe hi hC ha hb F₁ N₁ hap hq hp hj))) finAP h₁) fun _ _ e => e) hs
theorem compOfPT {x y : Str} {px py tp : Pos} {tk : Nat} {test : Expr} {Q : Value → Shared → Prop} (F₀ : Fr h₀ L s.heap m) (hclos : closureFor scope env = pure cl) (hkind : scope.kind = .function) (hnames : ∀ y ∈ scope.names, y.2 = .local → scope.names.lookup y.1 = some .local)
    (hh : A.handled = none) (hx : scope.names.lookup x = some .local) (hy : scope.names.lookup y = some .local) (hxy : x ≠ y)
    (h : wpAny (model prog w) A (eval iter env) (SrcP prog w A h₀ L m (.Tuple [.Name x px, .Name y py] tk tp) PairAt (fun n P news J => TurnsPT prog w A h₀ L m elt test x y (fun C => cenvOf scope cl C env) n P news J) (FinP h₀ L m Q)) E s)
    (hs : ∀ x, foldedSetIterable iter env x = pure x := by intro _; rfl) :
    wpAny (model prog w) A (eval (.ListComp elt [⟨(.Tuple [.Name x px, .Name y py] tk tp), iter, [test], 0⟩] scope pos) env) Q E s :=
  comp1 (Mo := []) F₀ hclos hkind hnames (wpAny_mono h (fun xv s₁ h₁ => srcP (fun P => kindPair x y px py tp tk scope cl env P hh hkind hx hy hxy) (fun n P news J turn D C i v ys tail own s₁ E' Qe Qs hi F₁ N₁ hap hq hq' hA hj => by
    obtain ⟨oC, mC, a, b, rfl, hC, ha, hb, hp⟩ := hA
    exact wpAny_tests_one ((turn D C oC mC i a b ys tail s₁ E' Qe Qs hi hC ha hb F₁ N₁ hap hq hq' hp hj))) finP h₁) fun _ _ e => e) hs
theorem compOfC {x : Str} {px : Pos} {Q : Value → Shared → Prop} (F₀ : Fr h₀ L s.heap m) (hclos : closureFor scope env = pure cl) (hkind : scope.kind = .function) (hnames : ∀ y ∈ scope.names, y.2 = .local → scope.names.lookup y.1 = some .local)
    (hx : scope.names.lookup x = some .cell) (hone : ∀ C, cellsFrom (C + 1) scope.names cl = (x, C + 1) :: cl) (hpush : ∀ h, pushCells h scope.names = h.push { cls := .type "cell", data := .cell none })
    (h : wpAny (model prog w) A (eval iter env) (SrcP prog w A h₀ L m (.Name x px) (fun P => P) (fun n P news J => TurnsC prog w A h₀ L m elt (fun C => cenvOf scope cl C env) n P news J) (FinP h₀ L m Q)) E s)
    (hs : ∀ x, foldedSetIterable iter env x = pure x := by intro _; rfl) :
    wpAny (model prog w) A (eval (.ListComp elt [⟨(.Name x px), iter, [], 0⟩] scope pos) env) Q E s :=
  comp1 (Mo := []) F₀ hclos hkind hnames (wpAny_mono h (fun xv s₁ h₁ => srcP (fun P => kindCell x px scope cl env P hkind hx hone hpush) (fun n P news J turn D C i v ys tail own s₁ E' Qe Qs hi F₁ N₁ hap hq hq' hA hj => by
    obtain ⟨oC, oc, mC, rfl, hC, hv, h, hp⟩ := hA
    exact wpAny_tests_nil ((show (if true = true then _ else _) from turn D C oC oc mC i v h ys tail s₁ E' Qe hi hC hv F₁ N₁ hap hq hp hj))) finP h₁) fun _ _ e => e) hs
theorem assignOfCT {x : Str} {px : Pos} {test : Expr} {z : Str} {pz spos : Pos} {Q : Flow → Shared → Prop} (F₀ : Fr h₀ L s.heap m) (hLe : env.locals = L)
    (hsw : swapsWith (.ListComp elt [⟨(.Name x px), iter, [test], 0⟩] scope pos) (some (.Name z pz)) spos.line env = pure true)
    (hclos : closureFor scope env = pure cl) (hkind : scope.kind = .function) (hnames : ∀ y ∈ scope.names, y.2 = .local → scope.names.lookup y.1 = some .local)
    (hz : env.kindOf z = some .local) (hp : (env.scope.kind == .class || (env.scope.kind == .module && env.locals != env.globals)) = false)
    (hx : scope.names.lookup x = some .cell) (hone : ∀ C, cellsFrom (C + 1) scope.names cl = (x, C + 1) :: cl) (hpush : ∀ h, pushCells h scope.names = h.push { cls := .type "cell", data := .cell none })
    (h : wpAny (model prog w) A (eval iter env) (SrcP prog w A h₀ L m (.Name x px) (fun P => P) (fun n P news J => TurnsCT prog w A h₀ L m elt test (fun C => cenvOf scope cl C env) n P news J) (FinAP h₀ L m z Q)) E s)
    (hs : ∀ x, foldedSetIterable iter env x = pure x := by intro _; rfl) :
    wpAny (model prog w) A (exec (.Assign [.Name z pz] (.ListComp elt [⟨(.Name x px), iter, [test], 0⟩] scope pos) spos) env) Q E s :=
  assign1 (Mo := []) F₀ hLe hsw hclos hkind hnames hz hp (wpAny_mono h (fun xv s₁ h₁ => srcP (fun P => kindCell x px scope cl env P hkind hx hone hpush) (fun n P news J turn D C i v ys tail own s₁ E' Qe Qs hi F₁ N₁ hap hq hq' hA hj => by
    obtain ⟨oC, oc, mC, rfl, hC, hv, h, hp⟩ := hA
    exact wpAny_tests_one ((turn D C oC oc mC i v h ys tail s₁ E' Qe Qs hi hC hv F₁ N₁ hap hq hq' hp hj))) finAP h₁) fun _ _ e => e) hs
end
end Mine
namespace Mine
theorem allP_cons {α : Type} {P : α → Prop} {a : α} {r : List α} (h : P a) (hr : ∀ p ∈ r, P p) : ∀ p ∈ a :: r, P p := fun p hp => by
  rcases List.mem_cons.mp hp with rfl | hp
  · exact h
  · exact hr p hp
theorem all_cons {a : Addr × Obj} {r : List (Addr × Obj)} {d : Addr} (h : a.1 ≠ d) (hr : ∀ p ∈ r, p.1 ≠ d) : ∀ p ∈ a :: r, p.1 ≠ d := fun p hp => by
  rcases List.mem_cons.mp hp with rfl | hp
  · exact h
  · exact hr p hp
theorem sub_cons {a : Addr × Obj} {r n : List (Addr × Obj)} (h : a ∈ n) (hr : ∀ p ∈ r, p ∈ n) : ∀ p ∈ a :: r, p ∈ n := fun p hp => by
  rcases List.mem_cons.mp hp with rfl | hp
  · exact h
  · exact hr p hp
theorem mem_allLt {d : Addr} {l : List (Addr × Obj)} (h : AllLt d l) : ∀ p ∈ l, p.1 < d := by
  induction l with
  | nil => intro p hp; cases hp
  | cons a r ih =>
    intro p hp
    rcases List.mem_cons.mp hp with rfl | hp
    · exact h.1
    · exact ih h.2 p hp
noncomputable def pickL {α : Type} (l : List α) (k : Nat) : List Nat → List α
  | [] => l.drop k
  | i :: is => match l.drop i with
    | [] => pickL l k is
    | x :: _ => x :: pickL l k is
theorem pickL_sub {α : Type} (l : List α) (k : Nat) : ∀ is : List Nat, ∀ p ∈ pickL l k is, p ∈ l
  | [], p, h => List.mem_of_mem_drop h
  | i :: is, p, h => by
    unfold pickL at h
    split at h
    · exact pickL_sub l k is p h
    · rename_i x t e
      rcases List.mem_cons.mp h with rfl | h
      · exact List.mem_of_mem_drop (e ▸ List.mem_cons_self)
      · exact pickL_sub l k is p h
noncomputable def pickE {α : Type} (l : List α) : List Nat → List α
  | [] => []
  | i :: is => match l.drop i with
    | [] => pickE l is
    | x :: _ => x :: pickE l is
theorem pickE_sub {α : Type} (l : List α) : ∀ is : List Nat, ∀ p ∈ pickE l is, p ∈ l
  | i :: is, p, h => by
    unfold pickE at h
    split at h
    · exact pickE_sub l is p h
    · rename_i x t e
      rcases List.mem_cons.mp h with rfl | h
      · exact List.mem_of_mem_drop (e ▸ List.mem_cons_self)
      · exact pickE_sub l is p h
theorem nPickE {h₀ h : Heap} {L : Addr} {l : List (Addr × Obj)} (N : News h₀ L h l) (is : List Nat) : News h₀ L h (pickE l is) := nSub N (pickE_sub l is)
theorem nPick {h₀ h : Heap} {L : Addr} {l : List (Addr × Obj)} (N : News h₀ L h l) (is : List Nat) (k : Nat) : News h₀ L h (pickL l k is) := nSub N (pickL_sub l k is)
theorem inPick {α : Type} {l : List α} (is : List Nat) (k : Nat) {P : α → Prop} (h : ∀ p ∈ l, P p) : ∀ p ∈ pickL l k is, P p := fun p hp => h p (pickL_sub l k is p hp)
theorem room {a b j k : Nat} (h : a + k < b) (hjk : j ≤ k := by decide) : a + j < b := Nat.lt_of_le_of_lt (Nat.add_le_add_left hjk a) h
theorem ne_lt {a b : Nat} (h : a < b) : a ≠ b := Nat.ne_of_lt h
theorem ne_gt {a b : Nat} (h : b < a) : a ≠ b := Nat.ne_of_gt h
end Mine
namespace Mine
section
variable {prog : Program} {w : World} {A : Around} {E : Value → Shared → Prop} {s : Shared} {h₀ : Heap} {L : Addr} {env : Env}
theorem cutQ {M : Model} {α : Type} {st : Sem α} {Q : α → Shared → Prop} (P : (α → Shared → Prop) → Prop) (h1 : ∀ Q', P Q' → wpAny M A st Q' E s) (h2 : P Q) : wpAny M A st Q E s := h1 Q h2
inductive SrcFP (prog : Program) (w : World) (A : Around) (h₀ : Heap) (L : Addr) (target : Expr) (body : List Stmt) (env : Env) (Q : Flow → Shared → Prop) (xv : Value) (s : Shared) : Prop
  | intro (own fx : List Addr) (n : Nat) (P : Nat → Value → Heap → Prop) (news : List (Addr × Obj)) (m : Str → Option Value) (J : Nat → (Str → Option Value) → Prop)
    (hst : Starts prog w A target xv s own fx n P) (F : Fr h₀ L s.heap m) (N : News h₀ L s.heap news) (hown : ∀ b ∈ own, h₀.get? b = none ∧ ∀ p ∈ news, p.1 ≠ b) (hJ : J 0 m)
    (turn : ∀ i v m₁ tail (s₁ : Shared) (E' : Value → Shared → Prop) (Q' : Flow → Shared → Prop), i < n → Fr h₀ L s₁.heap m₁ → News h₀ L s₁.heap (news ++ tail) →
      (∀ h' tk m' nw, Fr h₀ L h' m' → News h₀ L h' nw → (∀ p ∈ tail, p ∈ nw) → J (i + 1) m' → Q' .next { s₁ with heap := h', toks := tk }) → (∀ v s', Q (.ret v) s' → Q' (.ret v) s') → Same s s₁ → P i v s₁.heap → J i m₁ →
      wpAny (model prog w) A (assign target env v) (fun _ s₂ => wpAny (model prog w) A (execs body env) Q' E' s₂) E' s₁)
    (fin : ∀ h' tk m', Fr h₀ L h' m' → News h₀ L h' news → J n m' → Q .next { s with heap := h', toks := tk })
theorem forP {target iter : Expr} {body : List Stmt} {pos : Pos} {Q : Flow → Shared → Prop} (hLe : env.locals = L)
    (h : wpAny (model prog w) A (eval iter env) (SrcFP prog w A h₀ L target body env Q) (fun _ _ => False) s)
    (hs : ∀ x, foldedSetIterable iter env x = pure x := by intro _; rfl) :
    wpAny (model prog w) A (exec (.For target iter body [] pos) env) Q (fun _ _ => False) s := by
  refine forG (h₀ := h₀) (L := L) hLe (wpAny_mono h (fun xv s' h' => ?_) fun _ _ e => e) hs
  obtain ⟨own, fx, n, P, news, m, J, hst, F, N, hown, hJ, turn, fin⟩ := h'
  refine ⟨own, fx, n, P, [], [], news, m, fun i m mo made => (mo = [] ∧ made = []) ∧ J i m, hst, F, N, rfl, (fun _ h => nomatch h), hown, ⟨⟨rfl, rfl⟩, hJ⟩, ?_, ?_⟩
  · intro i v m₁ mo made tail s₁ E' hi hj hv hs F₁ N₁ _ _ _
    obtain ⟨⟨rfl, rfl⟩, hj⟩ := hj
    exact turn i v m₁ tail s₁ E' _ hi F₁ N₁ (fun h' tk m' nw F' N' sub j => ForEnd.go (mo := []) hs ⟨h', tk, rfl⟩ F' N' sub rfl ⟨⟨rfl, rfl⟩, j⟩) (fun v s' q => .ret v s' q) hs hv hj
  · intro h' tk m' mo made hj F' N' _ _
    obtain ⟨⟨rfl, rfl⟩, hj⟩ := hj
    exact fin h' tk m' F' N' hj
inductive SrcFM (prog : Program) (w : World) (A : Around) (h₀ : Heap) (L : Addr) (target : Expr) (body : List Stmt) (env : Env) (Q : Flow → Shared → Prop) (xv : Value) (s : Shared) : Prop
  | intro (own fx : List Addr) (n : Nat) (P : Nat → Value → Heap → Prop) (Mo : List Addr) (mo₀ news : List (Addr × Obj)) (m : Str → Option Value) (J : Nat → (Str → Option Value) → List (Addr × Obj) → Prop)
    (hst : Starts prog w A target xv s own fx n P) (F : Fr h₀ L s.heap m) (N : News h₀ L s.heap (mo₀ ++ news)) (hmo : mo₀.map (·.1) = Mo) (hMo : ∀ b ∈ Mo, b ∉ fx ∧ b ∉ own ∧ ∀ p ∈ news, p.1 ≠ b) (hown : ∀ b ∈ own, h₀.get? b = none ∧ ∀ p ∈ news, p.1 ≠ b) (hJ : J 0 m mo₀)
    (turn : ∀ i v m₁ mo tail (s₁ : Shared) (E' : Value → Shared → Prop) (Q' : Flow → Shared → Prop), i < n → Fr h₀ L s₁.heap m₁ → News h₀ L s₁.heap (mo ++ (news ++ tail)) → (∀ p ∈ news ++ tail, p.1 ∉ Mo) → mo.map (·.1) = Mo →
      (∀ h' tk m' mo' nw, Fr h₀ L h' m' → News h₀ L h' nw → (∀ p ∈ mo' ++ tail, p ∈ nw) → mo'.map (·.1) = Mo → J (i + 1) m' mo' → Q' .next { s₁ with heap := h', toks := tk }) → (∀ v s', Q (.ret v) s' → Q' (.ret v) s') → Same s s₁ → P i v s₁.heap → J i m₁ mo →
      wpAny (model prog w) A (assign target env v) (fun _ s₂ => wpAny (model prog w) A (execs body env) Q' E' s₂) E' s₁)
    (fin : ∀ h' tk m' mo, Fr h₀ L h' m' → News h₀ L h' (mo ++ news) → mo.map (·.1) = Mo → (∀ p ∈ news, p.1 ∉ Mo) → J n m' mo → Q .next { s with heap := h', toks := tk })
theorem forM {target iter : Expr} {body : List Stmt} {pos : Pos} {Q : Flow → Shared → Prop} (hLe : env.locals = L)
    (h : wpAny (model prog w) A (eval iter env) (SrcFM prog w A h₀ L target body env Q) (fun _ _ => False) s)
    (hs : ∀ x, foldedSetIterable iter env x = pure x := by intro _; rfl) :
    wpAny (model prog w) A (exec (.For target iter body [] pos) env) Q (fun _ _ => False) s := by
  refine forG (h₀ := h₀) (L := L) hLe (wpAny_mono h (fun xv s' h' => ?_) fun _ _ e => e) hs
  obtain ⟨own, fx, n, P, Mo, mo₀, news, m, J, hst, F, N, hmo, hMo, hown, hJ, turn, fin⟩ := h'
  refine ⟨own, fx, n, P, Mo, mo₀, news, m, fun i m mo made => made = [] ∧ J i m mo, hst, F, N, hmo, hMo, hown, ⟨rfl, hJ⟩, ?_, ?_⟩
  · intro i v m₁ mo made tail s₁ E' hi hj hv hs F₁ N₁ _ hap hmo
    obtain ⟨rfl, hj⟩ := hj
    exact turn i v m₁ mo tail s₁ E' _ hi F₁ N₁ hap hmo (fun h' tk m' mo' nw F' N' sub hm j => ForEnd.go hs ⟨h', tk, rfl⟩ F' N' sub hm ⟨rfl, j⟩) (fun v s' q => .ret v s' q) hs hv hj
  · intro h' tk m' mo made hj F' N' hmo hap
    obtain ⟨rfl, hj⟩ := hj
    exact fin h' tk m' mo F' N' hmo hap hj
end
end Mine
namespace Mine
noncomputable def Stop (P : Prop) : Prop := P
theorem Stop.mk {P : Prop} (h : P) : Stop P := h
noncomputable def Holds (m : Str → Option Value) : List (Str × Value) → Prop
  | [] => True
  | (x, v) :: r => m x = some v ∧ Holds m r
theorem Holds.get {m : Str → Option Value} {ps : List (Str × Value)} {x : Str} {v : Value} (h : Holds m ps) (e : ps.lookup x = some v) : m x = some v := by
  induction ps with
  | nil => cases e
  | cons p r ih =>
    obtain ⟨y, u⟩ := p
    rw [List.lookup_cons] at e
    cases hb : x == y with
    | true => rw [hb] at e; cases e; rw [eq_of_beq hb]; exact h.1
    | false => rw [hb] at e; exact ih h.2 e
theorem pins {h₀ h : Heap} {L : Addr} {m : Str → Option Value} {ps : List (Str × Value)} (F : Fr h₀ L h m) (e : Holds m ps) : Fr h₀ L h (fun y => (ps.lookup y).or (m y)) := by
  have : (fun y => (ps.lookup y).or (m y)) = m := funext fun y => by
    cases h : ps.lookup y with
    | none => rfl
    | some v => exact (e.get h).symm
  rw [this]
  exact F
theorem Stop.out {P : Prop} (h : Stop P) : P := h
section
variable {prog : Program} {w : World} {A : Around} {E : Value → Shared → Prop} {s : Shared} {Q : Value → Shared → Prop} {mg mb : PySem.Str → Option Value}
theorem enterC {K : Frag} {name qual : PySem.Str} {params : Arguments} {body body' : List Stmt} {scope scope' : Scope} {dV kV doc pm cdv ct oc : Value} {an od : Option Addr} {osl : Array (Option Value)} {f : Addr} {vals : List Value} {kw : List (PySem.Str × Value)} (binds : List (PySem.Str × Value))
    (X : K.In s.heap) (hlim : s.heap.NoLimit) (ho : K.lookup f = some ⟨oc, od, .func (fnOf name qual params body scope dV kV doc pm an cdv ct), osl⟩) (hcd : codeIn K cdv qual = true) (hroom : A.depth < recursionLimit)
    (hb : body = body') (hs : scope = scope')
    (hbind : BindsTo s (fnOf name qual params body scope dV kV doc pm an cdv ct) ⟨vals, kw⟩ binds)
    (hkind : (binds.all fun y => scope'.names.lookup y.1 == some .local || scope'.names.lookup y.1 == some .cell) = true)
    (hnd : ((cellsFrom 0 scope'.names []).map (·.1)).Nodup) (hco : scope'.isCoroutine = false) (hgen : scope'.isGenerator = false) (hk : scope'.kind = .function)
    (h : ∀ h₁ L tk cells, Fr s.heap L h₁ (bindL (envOfC qual scope' L f cdv).kindOf binds fun _ => none) → News s.heap L h₁ cells → CellsAre (bindC (envOfC qual scope' L f cdv).kindOf binds fun _ => none) (cellsFrom (L + 1) scope'.names []) cells → (∀ p ∈ cells, L < p.1) →
      wpAny (model prog w) (A.deeper (envX qual scope' L f cdv (cellsFrom (L + 1) scope'.names []))) (execs body' (envX qual scope' L f cdv (cellsFrom (L + 1) scope'.names [])))
        (fun fl s' => Q (match fl with | .ret v => v | _ => .none) s') (fun _ _ => False) { s with heap := h₁, toks := tk }) :
    wpAny (model prog w) A (call (.ref f) vals kw) Q E s := by
  subst hb hs
  refine wpAny_call ?_
  refine codeAny_call_function hroom (X _ _ ho) rfl hco hgen rfl (codeRec_of X hcd) (hbind _ _ _ _ ?_)
  refine wpAny_newFunctionEnv_cells hk (kindsX hkind _) fun env' he s' x => ?_
  subst he
  refine ⟨hlim.keeps x.toInCall.keep, codeAny_func ?_⟩
  obtain ⟨h₁, tk, rfl, _⟩ := x.done
  have hk₁ := x.toInCall.keep
  have hab : ∀ n c, (n, c) ∈ cellsFrom (s.heap.objs.size + 1) scope.names [] → s.heap.objs.size < c := fun n c hm => x.above n c hm
  obtain ⟨cells, NC, Y⟩ := Cl.news (h₀ := s.heap) (Nat.le_refl _) fun n c hm => ⟨x.cell n c (lookup_of_mem_nodup (cellsFrom_names scope.names 0 (s.heap.objs.size + 1) [] [] rfl ▸ hnd) hm), x.above n c hm⟩
  have hcs : ∀ {cm : Str → Option Value} {cs : List (Str × Addr)} {cells : List (Addr × Obj)}, CellsAre cm cs cells → (∀ n c, (n, c) ∈ cs → s.heap.objs.size < c) → ∀ p ∈ cells, s.heap.objs.size < p.1 := by
    intro cm cs cells X
    induction X with
    | nil => intro _ p hp; cases hp
    | cons hd _ ih =>
      intro hg p hp
      rcases List.mem_cons.mp hp with rfl | hp
      · exact hg _ _ List.mem_cons_self
      · exact ih (fun n c hm => hg n c (List.mem_cons_of_mem _ hm)) p hp
  exact wpAny_mono (h h₁ s.heap.objs.size tk cells ⟨x.toInCall.ns, hk₁, Nat.le_refl _⟩ NC Y (hcs Y hab)) (fun _ _ y => y) fun _ _ y => y.elim
end
end Mine
end
open Lean in
def Mine.stopAt (l : List String) (k : TSyntax `str) : MacroM (TSyntax `tactic) := if l.contains k.getString then `(tactic| walk_at "stop") else Macro.throwUnsupported
local macro_rules | `(tactic| walk_at "stop") => `(tactic| (k_here; refine Mine.Stop.out ?_))
section
open PySem PySem.W PySem.Calls PyProof.Rows PyProof.Rows.LCg
namespace Mine
noncomputable abbrev addrs (hid : List (Addr × Obj)) : List Addr := hid.map (·.1)
noncomputable abbrev gh (h : Heap) (hid : List (Addr × Obj)) : Heap := hideAll h (hid.map (·.1))
noncomputable def Aside (h : Heap) (hid : List (Addr × Obj)) : Prop := ∀ p ∈ hid, h.get? p.1 = some p.2
theorem K_keys (P : Params) : (K P).map (·.1) = as := rfl
theorem gh_K {P : Params} {h : Heap} {hid : List (Addr × Obj)} (X : (K P).In h) (hn : ∀ p ∈ hid, p.1 ∉ as) : (K P).In (gh h hid) := fun a o e => by
  have ha : a ∈ as := by
    rw [← K_keys P]
    exact List.mem_map_of_mem (f := fun x : Addr × Obj => x.1) (mem_of_lookupK e)
  refine hideAll_get _ (X a o e) fun q => ?_
  obtain ⟨p, hp, rfl⟩ := List.mem_map.mp q
  exact hn p hp ha
theorem gh_get {h : Heap} {hid : List (Addr × Obj)} {b : Addr} {o : Obj} (e : h.get? b = some o) (hn : ∀ p ∈ hid, p.1 ≠ b) : (gh h hid).get? b = some o :=
  hideAll_get _ e fun q => by obtain ⟨p, hp, x⟩ := List.mem_map.mp q; exact hn p hp x
theorem gh_ns {h : Heap} {hid : List (Addr × Obj)} {a : Addr} {m : Str → Option Value} (x : h.Ns a m) (hn : ∀ p ∈ hid, p.1 ≠ a) : (gh h hid).Ns a m :=
  let ⟨o, es, ep, e, r⟩ := x; ⟨o, es, ep, gh_get e hn, r⟩
noncomputable def NoDict (o : Obj) : Prop := ∀ es ep, o.data ≠ .dict es ep
theorem ne_ns {h : Heap} {a b : Addr} {o : Obj} {m : Str → Option Value} (x : h.Ns a m) (e : h.get? b = some o) (hd : NoDict o) : b ≠ a := by
  rintro rfl
  obtain ⟨o', es, ep, e', hd', _⟩ := x
  rw [e] at e'
  cases e'
  exact hd _ _ hd'
theorem gh_top {p : Program} {l : List Str} {mg mb : Str → Option Value} {h : Heap} {hid : List (Addr × Obj)} (T : TopRead p l mg mb h) (H : Aside h hid) (hd : ∀ x ∈ hid, NoDict x.2) : TopRead p l mg mb (gh h hid) := by
  have k : ∀ {a : Addr} {m : Str → Option Value}, h.Ns a m → (gh h hid).Ns a m := fun x => gh_ns x fun p hp => ne_ns x (H p hp) (hd p hp)
  obtain ⟨mc, a, r⟩ := T.nolimit
  exact ⟨k T.g, k T.b, ⟨mc, k a, r⟩, T.builtins, T.free⟩
theorem gh_fr {h h₁ : Heap} {L : Addr} {m : Str → Option Value} (F : Fr h L h₁ m) (hid : List (Addr × Obj)) : Fr (gh h hid) L h₁ m := ⟨F.ns, fun b o e => F.keep b o (of_hideAll _ e), Nat.le_trans (Nat.le_of_eq (hideAll_size _ _)) F.above⟩
theorem gh_news {h h₁ : Heap} {L : Addr} {m : Str → Option Value} {news hid : List (Addr × Obj)} (F : Fr h L h₁ m) (N : News h L h₁ news) (H : Aside h hid) : News (gh h hid) L h₁ (news ++ hid) := fun p hp => by
  rcases List.mem_append.mp hp with hp | hp
  · refine ⟨(N p hp).1, (N p hp).2.1, ?_⟩
    cases q : (gh h hid).get? p.1 with
    | none => rfl
    | some o => have := of_hideAll _ q; rw [(N p hp).2.2] at this; cases this
  · exact ⟨F.keep _ _ (H p hp), Nat.ne_of_lt (Nat.lt_of_lt_of_le (Heap.lt_size (H p hp)) F.above), hideAll_none _ (List.mem_map_of_mem hp)⟩
theorem gh_lt {h h₁ : Heap} {L : Addr} {m : Str → Option Value} {hid : List (Addr × Obj)} (F : Fr h L h₁ m) (H : Aside h hid) : ∀ p ∈ hid, p.1 < L := fun p hp => Nat.lt_of_lt_of_le (Heap.lt_size (H p hp)) F.above
section
variable {prog : Program} {w : World} {A : Around} {E : Value → Shared → Prop} {s : Shared} {Q : Value → Shared → Prop} {mg mb : PySem.Str → Option Value}
theorem enterX {name qual : PySem.Str} {params : Arguments} {body body' : List Stmt} {scope scope' : Scope} {cl : List (Str × Addr)} {dV kV doc pm cdv ct : Value} {an : Option Addr} {fo : Obj} {f : Addr} {vals : List Value} {kw : List (PySem.Str × Value)} (binds : List (PySem.Str × Value))
    (hlim : s.heap.NoLimit) (ho : s.heap.get? f = some fo) (hd : fo.data = .func (fnX name qual params body scope cl dV kV doc pm an cdv ct)) (hcd : s.heap.CodeRec cdv qual) (hroom : A.depth < recursionLimit)
    (hb : body = body') (hs : scope = scope')
    (hbind : BindsTo s (fnX name qual params body scope cl dV kV doc pm an cdv ct) ⟨vals, kw⟩ binds) (hloc : ∀ y ∈ binds, scope'.names.lookup y.1 = some .local)
    (hcell : ∀ x ∈ scope'.names, x.2 ≠ .cell) (hco : scope'.isCoroutine = false) (hgen : scope'.isGenerator = false) (hk : scope'.kind = .function)
    (h : ∀ h₁ L, Fr s.heap L h₁ (fun y => binds.reverse.lookup y) → News s.heap L h₁ [] →
      wpAny (model prog w) (A.deeper (envX qual scope' L f cdv cl)) (execs body' (envX qual scope' L f cdv cl))
        (fun fl s' => Q (match fl with | .ret v => v | _ => .none) s') (fun _ _ => False) { s with heap := h₁, toks := s.toks + binds.length }) :
    wpAny (model prog w) A (call (.ref f) vals kw) Q E s := by
  subst hb hs
  refine wpAny_call ?_
  refine codeAny_call_def (fd := fnX name qual params body scope cl dV kV doc pm an cdv ct) (body := body) (binds := binds) hroom ho hd hlim hcd rfl hbind hcell hloc (fun h₁ hns hk₁ => ?_) hco hgen hk
  exact wpAny_mono (h h₁ s.heap.objs.size ⟨hns, hk₁, Nat.le_refl _⟩ News.nil) (fun _ _ x => x) fun _ _ x => x.elim
end
end Mine
end
section
open PySem PySem.W PySem.Calls PyProof.Rows PyProof.Rows.LCg
namespace Mine
noncomputable def IsL (o : Obj) (ys : List Value) : Prop := o.cls = .type "list" ∧ ∃ n, o.data = .seq ys.toArray n
theorem IsL.list {h : Heap} {D : Addr} {o : Obj} {ys : List Value} (x : IsL o ys) (e : h.get? D = some o) : h.IsList D ys.toArray := let ⟨hc, n, hd⟩ := x; ⟨o, e, hc, n, hd⟩
theorem isL_of {h : Heap} {D : Addr} {its : Array Value} (x : h.IsList D its) : ∃ o, h.get? D = some o ∧ IsL o its.toList := let ⟨o, e, hc, n, hd⟩ := x; ⟨o, e, hc, n, by simpa using hd⟩
theorem isL_lst (ys : List Value) : IsL (lst ys) ys := ⟨rfl, _, rfl⟩
theorem IsL.noDict {o : Obj} {ys : List Value} (x : IsL o ys) : NoDict o := fun _ _ e => by obtain ⟨_, n, hd⟩ := x; rw [hd] at e; cases e
theorem turned {h₀ h h' : Heap} {L D : Addr} {o₁ o₂ : Obj} {m : Str → Option Value} (F : Fr h₀ L h m) (hb : h₀.get? D = none) (hDL : D ≠ L) (hk : ∀ b o, b ≠ D → h.get? b = some o → h'.get? b = some o) : Fr h₀ L h' m :=
  ⟨F.ns.at' fun o e => hk L o (Ne.symm hDL) e, fun b o e => hk b o (fun x => by rw [x, hb] at e; cases e) (F.keep b o e), F.above⟩
section
variable {M : Model} {A : Around} {E : Value → Shared → Prop} {s : Shared} {h₀ : Heap} {L a : Addr} {m : Str → Option Value} {cn : Str} {cs : Scope} {ccd : Value} {cl : List (Str × Addr)} {x : Str} {pos : Pos} {v : Value} {Q : Value → Shared → Prop} {c : Addr} {o : Obj}
theorem nameX_Fb (F : Fr h₀ L s.heap m) (hc : cl.lookup x = some c) (hm : h₀.get? c = some o) (hd : o.data = .cell (some v)) (h : Q v s)
    (hk : cs.kind = .function := by rfl) (hx : (envX cn cs L a ccd cl).kindOf x = some .free := by rfl) (hb : (x == ("__debug__" : Str)) = false := by decide) (hn : (x == ("__classdict__" : Str)) = false := by decide) :
    wpAny M A (eval (.Name x pos) (envX cn cs L a ccd cl)) Q E s := wpAny_Name (wpAny_loadName_free hk hx hc ⟨o, F.keep _ _ hm, hd⟩ h hn) hb
end
end Mine
namespace Mine
open PySem PySem.W PySem.Calls PyProof.Rows PyProof.Rows.LCg
section
variable {prog : Program} {w : World} {A : Around} {E : Value → Shared → Prop} {s : Shared} {Q : Value → Shared → Prop}
theorem shrN {x k : Nat} {t u : Tok} (h : ∀ t' tk, Q (.int ((x / 2 ^ k : Nat) : Int) t') { s with toks := tk }) : wpAny (model prog w) A (binaryOp .RShift (.int (x : Nat) t) (.int (k : Nat) u)) Q E s := by
  refine rshift_int (Int.natCast_nonneg _) ?_
  rw [show ((x : Nat) : Int).fdiv (2 ^ ((k : Nat) : Int).toNat) = ((x / 2 ^ k : Nat) : Int) by
    rw [Int.toNat_natCast, Int.fdiv_eq_ediv_of_nonneg _ (Int.le_of_lt (Int.pow_pos (by decide)))]
    simp]
  exact h _ _
theorem shlN {x k : Nat} {t u : Tok} (hx : x < 2 ^ 64) (hk : k ≤ 1000000) (h : ∀ t' tk, Q (.int ((x * 2 ^ k : Nat) : Int) t') { s with toks := tk }) : wpAny (model prog w) A (binaryOp .LShift (.int (x : Nat) t) (.int (k : Nat) u)) Q E s := by
  refine lshift_int_small (Int.natCast_nonneg _) (by lia) (by simpa using hx) ?_
  rw [show ((x : Nat) : Int) * 2 ^ ((k : Nat) : Int).toNat = ((x * 2 ^ k : Nat) : Int) by
    rw [Int.toNat_natCast]
    simp]
  exact h _ _
end
end Mine
end
section
open PySem PySem.W PySem.Calls PyProof.Rows PyProof.Rows.LCg
namespace Mine
noncomputable def May (o : Obj) : Prop := NoDict o ∧ o.data ≠ .plain
theorem May.tab (ps : Array Value) : May (tabObj ps) := ⟨fun _ _ e => (by cases e), (by intro e; cases e)⟩
theorem gh_Top {p : Program} {loose : List Str} {mean : ExcName → Option Value} {mg mb : Str → Option Value} {h : Heap} {hid : List (Addr × Obj)} (T : Top p loose mean mg mb h) (H : Aside h hid) (hd : ∀ x ∈ hid, May x.2) :
    Top topProg (loose ++ (recsOf p).map (·.name) ++ (litsOf p).map (·.1) ++ (clssOf p loose).map (·.name)) mean mg mb (gh h hid) := by
  have k : ∀ {a : Addr} {m : Str → Option Value}, h.Ns a m → (gh h hid).Ns a m := fun x => gh_ns x fun p hp => ne_ns x (H p hp) (hd p hp).1
  exact {
    g := k T.g
    b := k T.b
    nolimit := let ⟨mc, a, r⟩ := T.nolimit; ⟨mc, k a, r⟩
    nodigits := let ⟨mc, a, r⟩ := T.nodigits; ⟨mc, k a, r⟩
    fn := fun d hd => absurd (show d ∈ ([] : List DefRec) from hd) List.not_mem_nil
    own := fun o ho => absurd (show o ∈ ([] : List OwnSpec) from ho) List.not_mem_nil
    const := fun x d e => by cases (show (none : Option PyData) = some d from e)
    free := fun x h1 h2 _ _ _ => T.free x h1 (fun q => h2 (List.mem_append_left _ (List.mem_append_left _ (List.mem_append_left _ q))))
      (fun q => h2 (List.mem_append_left _ (List.mem_append_left _ (List.mem_append_right _ q)))) (fun q => h2 (List.mem_append_left _ (List.mem_append_right _ q))) fun q => h2 (List.mem_append_right _ q)
    builtins := T.builtins
    tab := fun d hd => absurd (show d ∈ ([] : List DefRec) from hd) List.not_mem_nil
    bmain := let ⟨bm, ob, a1, a2, a3, a4, r⟩ := T.bmain; ⟨bm, ob, a1, a2, gh_get a3 (fun p hp q => by
      have e := H p hp
      rw [q, a3] at e
      exact (hd p hp).2 (by rw [← Option.some.inj e]; exact r.2)), a4, r⟩
    seer := fun e => absurd (show false = true from e) Bool.false_ne_true }
theorem CellsAre3 {cm : Str → Option Value} {n n' n'' : Str} {c c' c'' : Addr} {cells : List (Addr × Obj)} (x : CellsAre cm [(n, c), (n', c'), (n'', c'')] cells) :
    ∃ o o' o'', cells = [(c, o), (c', o'), (c'', o'')] ∧ o.data = .cell (cm n) ∧ o'.data = .cell (cm n') ∧ o''.data = .cell (cm n'') := by
  cases x with | cons h r => obtain ⟨o', o'', rfl, h', h''⟩ := r.two; exact ⟨_, o', o'', rfl, h, h', h''⟩
noncomputable def TabAt (l c : Nat) (qual : Str) (h : Heap) (o : Obj) : Prop := o = tabObj #[] ∨ ∃ c', o = tabObj #[rawInt l, rawInt c, .ref c'] ∧ h.CodeRec (.ref c') qual
theorem TabAt.may {l c : Nat} {qual : Str} {h : Heap} {o : Obj} (x : TabAt l c qual h o) : May o := by
  rcases x with rfl | ⟨c', rfl, _⟩
  · exact May.tab _
  · exact May.tab _
noncomputable def ExtBut (bs : List Addr) (h h' : Heap) : Prop := ∀ b o, b ∉ bs → h.get? b = some o → h'.get? b = some o
theorem Ext.but {h h' : Heap} (x : Ext h h') (bs : List Addr) : ExtBut bs h h' := fun b o _ e => x b o e
theorem codeRec_ne {h : Heap} {c P : Addr} {qual : Str} {l k : Nat} {h' : Heap} {q' : Str} {o : Obj} (x : h.CodeRec (.ref c) qual) (e : h.get? P = some o) (t : TabAt l k q' h' o) : c ≠ P := by
  rintro rfl
  obtain ⟨c', oc, vs, t', e1, e2, e3, e4⟩ := x
  cases e1
  rw [e] at e2
  cases e2
  rcases t with rfl | ⟨c'', rfl, _⟩
  · cases e3; simp at e4
  · cases e3; simp [rawInt] at e4
theorem codeRec_but {h h' : Heap} {c : Addr} {qual : Str} {bs : List Addr} (x : h.CodeRec (.ref c) qual) (k : ExtBut bs h h') (hn : c ∉ bs) : h'.CodeRec (.ref c) qual := by
  obtain ⟨c', oc, vs, t', e1, e2, e3, e4⟩ := x
  cases e1
  exact ⟨c, oc, vs, t', rfl, k c oc hn e2, e3, e4⟩
theorem pushed {h₀ h h' : Heap} {L r : Addr} {o : Obj} {m : Str → Option Value} {news : List (Addr × Obj)} (F : Fr h₀ L h m) (N : News h₀ L h' news) (hr : h.objs.size ≤ r) (er : h'.get? r = some o) : News h₀ L h' ((r, o) :: news) := fun p hp => by
  rcases List.mem_cons.mp hp with rfl | hp
  · refine ⟨er, Nat.ne_of_gt (Nat.lt_of_lt_of_le F.ns.lt hr), ?_⟩
    cases e : h₀.get? r with
    | none => rfl
    | some o => exact absurd (Heap.lt_size (F.keep r o e)) (Nat.not_lt.mpr hr)
  · exact N p hp
theorem lt_new {h₀ h : Heap} {L r : Addr} {news : List (Addr × Obj)} (N : News h₀ L h news) (hr : h.objs.size ≤ r) : ∀ p ∈ news, p.1 < r := fun p hp => Nat.lt_of_lt_of_le (Heap.lt_size (N p hp).1) hr
noncomputable def CodeOb (oc : Obj) (qual : Str) : Prop := ∃ vs t, oc.data = .fields vs ∧ vs[1]? = some (.str qual t)
theorem CodeOb.rec {h : Heap} {c : Addr} {oc : Obj} {qual : Str} (x : CodeOb oc qual) (e : h.get? c = some oc) : h.CodeRec (.ref c) qual := let ⟨vs, t, hd, hv⟩ := x; ⟨c, oc, vs, t, rfl, e, hd, hv⟩
theorem codeOb_of {h : Heap} {c : Addr} {qual : Str} (x : h.CodeRec (.ref c) qual) : ∃ oc, h.get? c = some oc ∧ CodeOb oc qual := by
  obtain ⟨c', oc, vs, t, e1, e2, e3, e4⟩ := x
  cases e1
  exact ⟨oc, e2, vs, t, e3, e4⟩
noncomputable abbrev t86 (c : Addr) : Obj := tabObj #[rawInt ((81 : Nat) : Int), rawInt ((4 : Nat) : Int), .ref c]
noncomputable abbrev t93 (c : Addr) : Obj := tabObj #[rawInt ((96 : Nat) : Int), rawInt ((4 : Nat) : Int), .ref c]
noncomputable abbrev q86 : Str := Str.ofString "_int2digits.<locals>.inner"
noncomputable abbrev q93 : Str := Str.ofString "_digits2int.<locals>.inner"
end Mine
namespace Mine
open PySem PySem.W PySem.Calls PyProof.Rows PyProof.Rows.LCg
theorem assignP {prog : Program} {w : World} {A : Around} {E : Value → Shared → Prop} {s : Shared} {h₀ : Heap} {L : Addr} {m : Str → Option Value} {env : Env} {news : List (Addr × Obj)} {a b : Str} {pa pb tp : Pos} {kk : Nat} {T : Addr} {x y : Value} {Q : Unit → Shared → Prop}
    (F : Fr h₀ L s.heap m) (N : News h₀ L s.heap news) (hLe : env.locals = L) (hh : A.handled = none) (ht : s.heap.IsTuple T #[x, y])
    (ha : env.kindOf a = some .local) (hb : env.kindOf b = some .local) (hp : (env.scope.kind == .class || (env.scope.kind == .module && env.locals != env.globals)) = false)
    (h : ∀ (h' : Heap) (tk : Nat), Fr h₀ L h' (fun z => if z = b then some y else if z = a then some x else m z) → News h₀ L h' news → Q () { s with heap := h', toks := tk }) :
    wpAny (model prog w) A (assign (.Tuple [.Name a pa, .Name b pb] kk tp) env (.ref T)) Q E s := by
  subst hLe
  exact kcp_assign hh ht ha hb hp F.ns fun h' tk hn hk => h h' tk ⟨hn, fun b o e => hk b o (fun x => by
    have := Heap.get?_none_of_le F.above
    rw [x, this] at e
    cases e) (F.keep b o e), F.above⟩ fun p hp => ⟨hk _ _ (N p hp).2.1 (N p hp).1, (N p hp).2⟩
end Mine
end
section
open PySem PySem.W PySem.Calls PyProof.Rows PyProof.Rows.LCg
namespace Mine
theorem assignT2 {prog : Program} {w : World} {A : Around} {E : Value → Shared → Prop} {s : Shared} {h₀ : Heap} {L : Addr} {m : Str → Option Value} {env : Env} {news : List (Addr × Obj)} {t1 t2 : Expr} {tp : Pos} {kk : Nat} {T : Addr} {x y : Value} {Q : Unit → Shared → Prop}
    (F : Fr h₀ L s.heap m) (N : News h₀ L s.heap news) (hh : A.handled = none) (ht : s.heap.IsTuple T #[x, y])
    (h : ∀ h₁, Fr h₀ L h₁ m → News h₀ L h₁ news → wpAny (model prog w) A (assign t1 env x) (fun _ s₁ => wpAny (model prog w) A (assign t2 env y) Q E s₁) E { s with heap := h₁ })
    (he : assignEach [t1, t2] env = [(false, assign t1 env), (false, assign t2 env)] := by rfl) :
    wpAny (model prog w) A (assign (.Tuple [t1, t2] kk tp) env (.ref T)) Q E s := by
  refine wpAny_assign_Tuple hh ht (by rw [he]; rfl) (by rw [he]; rfl) fun h₁ he₁ => ?_
  rw [he]
  have up₁ : ∀ c o, s.heap.get? c = some o → h₁.get? c = some o := fun c o e => he₁ c o (Nat.ne_of_lt (Heap.lt_size e)) e
  show wpAny _ _ (assignInOrder [assign t1 env, assign t2 env] [x, y]) _ _ _
  refine assignInOrder_cons ?_
  refine wpAny_mono (h h₁ (F.keeps up₁) (N.grown up₁)) (fun _ s₁ h' => ?_) fun _ _ e => e
  refine assignInOrder_cons ?_
  exact wpAny_mono h' (fun _ _ q => assignInOrder_nil q) fun _ _ e => e
end Mine
namespace Mine
section
variable {prog : Program} {w : World} {A : Around} {E : Value → Shared → Prop} {s : Shared}
theorem starts_listT {elts : List Expr} {k : Nat} {pos : Pos} {l : Addr} {its : Array Value} {n : Nat} (hn : its.size = n) (hh : A.handled = none) (hl : s.heap.IsList l its) :
    Starts prog w A (.Tuple elts k pos) (.ref l) s [] [l] n (fun i v _ => its[i]? = some v) := by
  subst hn
  intro Q E hQ
  have hlt : l < s.heap.objs.size := by obtain ⟨_, e, _⟩ := hl; exact Heap.lt_size e
  refine wpAny_pyIter_list hl ?_
  have up : ∀ b o, s.heap.get? b = some o → (s.heap.push { cls := .type "list_iterator", data := .fields #[.ref l, .int 0 0] }).get? b = some o := fun b o e => Heap.get?_push_of_some _ e
  have hit : (s.heap.push { cls := .type "list_iterator", data := .fields #[.ref l, .int 0 0] }).IsListIter s.heap.objs.size l 0 := ⟨_, Heap.get?_push_size _ rfl, rfl, rfl⟩
  refine hQ _ _ _ _ _ _ (feed_ofWalks (Walks.list hh s.heap.objs.size l (Nat.ne_of_lt hlt) its) (fun v => ?_) (fun i h st b hb => ?_)) ⟨hit, hl.push _⟩ up (fun b hb => ?_) (fun b hb => ?_) fun b hb => ?_
  · cases v with
    | ref T => exact .inr fun i s Q E st hQ => wpAny_letOwnedTupleGo_listiter st.1 hQ
    | _ => exact .inl rfl
  · rw [List.mem_singleton.mp hb]
    obtain ⟨o, e, _⟩ := st.1
    exact ⟨_, e⟩
  · rcases List.mem_cons.mp hb with rfl | hb
    · exact ⟨by rw [Heap.size_push]; exact Nat.lt_succ_self _, not_ns_of (Heap.get?_push_size _ rfl) (by intro _ _ e; cases e)⟩
    · rw [List.mem_singleton.mp hb]
      exact ⟨by rw [Heap.size_push]; exact Nat.lt_succ_of_lt hlt, not_ns_list (hl.push _)⟩
  · rw [List.mem_singleton.mp hb]
    exact .inr (Heap.get?_none_of_le (Nat.le_refl _))
  · rcases List.mem_cons.mp hb with rfl | hb
    · exact .inr (.inr (Heap.get?_none_of_le (Nat.le_refl _)))
    · exact .inl hb
end
theorem starts_list' {prog : Program} {w : World} {A : Around} {s : Shared} {x : Str} {px : Pos} {l : Addr} {its : Array Value} {n : Nat} (hn : its.size = n) (hh : A.handled = none) (hl : s.heap.IsList l its) :
    Starts prog w A (.Name x px) (.ref l) s [] [l] n (fun i v _ => its[i]? = some v) := hn ▸ starts_list hh hl
theorem unpack2 {prog : Program} {w : World} {A : Around} {E : Value → Shared → Prop} {s : Shared} {h₀ : Heap} {L : Addr} {m : Str → Option Value} {news : List (Addr × Obj)} {T : Addr} {n : Nat} {x y : Value} {Q : List Value → Shared → Prop}
    (F : Fr h₀ L s.heap m) (N : News h₀ L s.heap news) (hh : A.handled = none) (ht : s.heap.IsTuple T #[x, y]) (hn : n = 2)
    (h : ∀ h', Fr h₀ L h' m → News h₀ L h' news → Q [x, y] { s with heap := h' }) : wpAny (model prog w) A (unpackItems (.ref T) n none) Q E s := by
  subst hn
  refine wpAny_unpackItems_tuple (items := #[x, y]) hh ht fun h' he => ?_
  have up : ∀ c o, s.heap.get? c = some o → h'.get? c = some o := fun c o e => he c o (Nat.ne_of_lt (Heap.lt_size e)) e
  exact h h' (F.keeps up) (N.grown up)
end Mine
namespace Mine
theorem fillE1 : PySem.Challenge.rw_wy0048_01 = PySem.Challenge.rw_wy0048_01 ∧ K = K := by
  k_fill
  exact ⟨rfl, rfl⟩
theorem makes59 (P : Params) : makesIn (K P) 59 = true := by kernel_rfl
theorem init59 (P : Params) : findIn (K P) (.ref 59) "__init__" = some (some (.ref 35)) := by kernel_rfl
theorem fn35 (P : Params) : typeIn (K P) (.ref 35) = some (.type "function") := by kernel_rfl
section
variable {prog : Program} {w : World} {A : Around} {R : Result → Shared → Prop} {s : Shared}
theorem enterCA {K : Frag} {name qual : PySem.Str} {params : Arguments} {body body' : List Stmt} {scope scope' : Scope} {dV kV doc pm cdv ct oc : Value} {an od : Option Addr} {osl : Array (Option Value)} {f : Addr} {vals : List Value} {kw : List (PySem.Str × Value)} (binds : List (PySem.Str × Value))
    (X : K.In s.heap) (hlim : s.heap.NoLimit) (ho : K.lookup f = some ⟨oc, od, .func (fnOf name qual params body scope dV kV doc pm an cdv ct), osl⟩) (hcd : codeIn K cdv qual = true) (hroom : A.depth < recursionLimit)
    (hb : body = body') (hs : scope = scope')
    (hbind : BindsTo s (fnOf name qual params body scope dV kV doc pm an cdv ct) ⟨vals, kw⟩ binds) (hloc : ∀ y ∈ binds, scope'.names.lookup y.1 = some .local)
    (hcell : ∀ x ∈ scope'.names, x.2 ≠ .cell) (hco : scope'.isCoroutine = false) (hgen : scope'.isGenerator = false) (hk : scope'.kind = .function)
    (h : ∀ h₁ L, Fr s.heap L h₁ (fun y => binds.reverse.lookup y) → News s.heap L h₁ [] →
      wpAny (model prog w) (A.deeper (envX qual scope' L f cdv [])) (execs body' (envX qual scope' L f cdv []))
        (fun fl s' => R (.ok (.ret (match fl with | .ret v => v | _ => .none))) s') (fun _ _ => False) { s with heap := h₁, toks := s.toks + binds.length }) :
    codeAny (model prog w) A (.call (.ref f) ⟨vals, kw⟩) R s := by
  subst hb hs
  refine codeAny_call_def (fd := fnX name qual params body scope [] dV kV doc pm an cdv ct) (body := body) (binds := binds) hroom (X _ _ ho) rfl hlim (codeRec_of X hcd) rfl hbind hcell hloc (fun h₁ hns hk₁ => ?_) hco hgen hk
  exact wpAny_mono (h h₁ s.heap.objs.size ⟨hns, hk₁, Nat.le_refl _⟩ News.nil) (fun _ _ x => x) fun _ _ x => x.elim
end
noncomputable abbrev entDict (P : Params) (t1 t2 t3 t4 : Tok) (ua rl dl rr : Value) : Obj := dictOf [{ hash := PyData.keyHash P (Str.ofString "useragents"), key := Value.str (Str.ofString "useragents") t1, val := ua },
  { hash := PyData.keyHash P (Str.ofString "rulelines"), key := Value.str (Str.ofString "rulelines") t2, val := rl }, { hash := PyData.keyHash P (Str.ofString "delay"), key := Value.str (Str.ofString "delay") t3, val := dl },
  { hash := PyData.keyHash P (Str.ofString "req_rate"), key := Value.str (Str.ofString "req_rate") t4, val := rr }] 4
theorem entry_new {prog : Program} {w : World} {A : Around} {E : Value → Shared → Prop} {s : Shared} {mg mb : PySem.Str → Option Value} {ls : List Str} {Q : Value → Shared → Prop}
   (X : (K w.params).In s.heap) (T : TopRead topProg ls mg mb s.heap) (hd : A.depth + 5 < recursionLimit)
   (hQ : ∀ (h' : Heap) (tk : Nat) (x dx l1 l2 : Addr) (t1 t2 t3 t4 : Tok), Ext s.heap h' → s.heap.objs.size ≤ dx → @LT.lt Nat _ dx x → @LT.lt Nat _ x l1 → @LT.lt Nat _ l1 l2 → h'.get? x = some (instObj 59 dx) → h'.get? dx = some (entDict w.params t1 t2 t3 t4 (.ref l1) (.ref l2) .none .none) → h'.get? l1 = some (W.listOf #[] 0) → h'.get? l2 = some (W.listOf #[] 0) → Q (.ref x) {s with heap := h', toks := tk}) :
   wpAny (model prog w) A (call (.ref 59) []) Q E s := by
  refine wpAny_call ?_
  obtain ⟨h, g, d, t, os⟩ := s
  refine make_core (makes_of X (makes59 _)) (looks_findIn X (init59 _)) (fun self => bind_fn X self (fn35 _)) (.inl rfl) ?_
  have hdx : h.get? h.objs.size = none := Heap.get?_none_of_le (Nat.le_refl _)
  have hx : h.get? (h.objs.size + 1) = none := Heap.get?_none_of_le (Nat.le_succ _)
  have e1 : ((h.push emptyDict).push (instObj 59 h.objs.size)).get? h.objs.size = some emptyDict := Heap.get?_push_of_some _ (Heap.get?_push_size _ rfl)
  have e2 : ((h.push emptyDict).push (instObj 59 h.objs.size)).get? (h.objs.size + 1) = some (instObj 59 h.objs.size) := by
    have : (h.push emptyDict).objs.size = h.objs.size + 1 := Heap.size_push ..
    rw [← this]
    exact Heap.get?_push_size _ rfl
  have up : Ext h ((h.push emptyDict).push (instObj 59 h.objs.size)) := fun b o e => Heap.get?_push_of_some _ (Heap.get?_push_of_some _ e)
  have hsz : ((h.push emptyDict).push (instObj 59 h.objs.size)).objs.size = h.objs.size + 2 := by rw [Heap.size_push, Heap.size_push]
  generalize (h.push emptyDict).push (instObj 59 h.objs.size) = h2 at *
  have X2 := Frag.In.keeps X up
  have T2 := T.keeps up
  k_dflt (refine' enterCA [(Str.ofString "self", .ref (h.objs.size + 1))] X2 T2.nolimit ?k1 ?k2 ?kr ?kb ?ks ?k3 ?k4 ?k5 ?k6 ?k7 ?k8 ?_)
  case k1 => k_dflt k_is
  case k2 => k_dflt k_is
  case kr => show A.depth + 1 < _; lia
  case kb => conv => lhs; whnf
  case ks => conv => lhs; whnf
  case k3 => exact BindsTo.of_eq rfl
  case k4 => exact locs rfl
  case k5 => decide
  case k6 => exact rfl
  case k7 => exact rfl
  case k8 => exact rfl
  intro h₁ L F0 N0
  have hL : @LE.le Nat _ h2.objs.size L := F0.above
  have F : Fr h L h₁ _ := ⟨F0.ns, fun b o e => F0.keep b o (up b o e), by show h.objs.size ≤ L; lia⟩
  have N : News h L h₁ [(h.objs.size + 1, instObj 59 h.objs.size), (h.objs.size, emptyDict)] := fun p hp => by
    simp only [List.mem_cons, List.mem_nil_iff, or_false] at hp
    rcases hp with rfl | rfl
    · exact ⟨F0.keep _ _ e2, neN (by lia), hx⟩
    · exact ⟨F0.keep _ _ e1, neN (by lia), hdx⟩
  clear F0 N0
  k_steps
  rename_i l1 a1 q1 a2 a3 l2 a4 q2 a5 a6 h9 F9 N9
  exact ⟨rfl, hQ h9 _ _ _ l1 l2 _ _ _ _ F9.keep (Nat.le_refl _) (Nat.lt_succ_self _) (by lia) (by lia) (N9.get (by k_mem)) (N9 (h.objs.size, _) (by k_mem)).1 (N9.get (a := l1) (by k_mem)) (N9.get (a := l2) (by k_mem))⟩
end Mine
end
section
namespace Mine
open PySem PySem.Spec PyProof.Rows
section
variable {prog : Program} {w : World} {A : Around} {E : Value → Shared → Prop} {s : Shared} {R : Result → Shared → Prop}
noncomputable def seenIn (ss : List Str) (i : Nat) : Str → Bool := fun k => (ss.take i).any (· == k)
theorem seen_step {ss : List Str} {i : Nat} {z : Str} (h : ss[i]? = some z) (k : Str) : seenIn ss (i + 1) k = (seenIn ss i k || decide (k = z)) := by
  unfold seenIn
  rw [List.take_add_one, h, List.any_append]
  by_cases e : z = k
  · subst e; simp
  · have e' : ¬ k = z := fun h => e h.symm
    simp [e, e']
theorem strSet_loop {I : Addr} {fp wr : List Addr} {G : Array GenState → Array GenState → Prop} {n : Nat} {P : Nat → Value → Prop} {St : Nat → Shared → Prop} (W : WalksS prog w A.in1 I fp wr G n P St) (S : Addr) (hSf : S ∉ fp) (ss : List Str)
    (hval : ∀ i v, P i v → ∃ z t, v = .str z t ∧ ss[i]? = some z) (hb : n + 1 < scanBound) :
    ∀ (k i c : Nat) (s : Shared), n - i = k → i ≤ n → c ≤ i → St i s → s.heap.SetOf (strKind prog w) S (seenIn ss i) c →
      (∀ s' c', Moved (S :: wr) G s s' → c' ≤ n → s'.heap.SetOf (strKind prog w) S (seenIn ss n) c' → R (.ok (.ret .none)) s') →
      codeAny (model prog w) A (.builtin "set.update.loop" ⟨[.ref S, .ref I], []⟩) R s := by
  have hSw : S ∉ wr := fun h => hSf (W.sub _ h)
  have wider : ∀ b ∈ wr, b ∈ S :: wr := fun b hb => List.mem_cons_of_mem _ hb
  have stands : ∀ {s s' : Shared} {T : Str → Bool} {c : Nat}, Moved wr G s s' → s.heap.SetOf (strKind prog w) S T c → s'.heap.SetOf (strKind prog w) S T c := by
    rintro s s' T c hm ⟨o, es, ep, t, ho, rest⟩
    exact ⟨o, es, ep, t, hm.heap S _ hSw ho, rest⟩
  intro k
  induction k with
  | zero =>
    intro i c s hk hi hc hst hS hR
    obtain rfl : i = n := by lia
    refine codeAny_builtin F.entry_set_update_loop ?_
    rw [Around.under_plainId F.plain_set_update_loop _]
    show wpAny _ A.in1 (pyNext (.ref I) >>= _) _ _ s
    refine wpAny_bind (W.done s _ _ hst fun s' hm => ?_)
    show wpAny _ A.in1 (ret Value.none) _ _ s'
    exact wpAny_pure (hR s' c (hm.mono wider) hc (stands hm hS))
  | succ k ih =>
    intro i c s hk hi hc hst hS hR
    have hlt : i < n := by lia
    refine codeAny_builtin F.entry_set_update_loop ?_
    rw [Around.under_plainId F.plain_set_update_loop _]
    show wpAny _ A.in1 (pyNext (.ref I) >>= _) _ _ s
    refine wpAny_bind (W.item i s _ _ hlt hst fun v s' hP hst' hm => ?_)
    obtain ⟨z, t, rfl, hz⟩ := hval i v hP
    show wpAny _ A.in1 (holding [Value.str z t] (setAdd S (.str z t)) >>= _) _ _ s'
    refine wpAny_bind (wpAny_holding ?_)
    unfold setAdd
    refine wpAny_holding ?_
    refine wpAny_bind ((strKind prog w).pyHash (k := z) (strKind_is _ _ _ _) ?_)
    have hS' := stands hm hS
    refine wpAny_setAddHashed_of (knd := strKind prog w) (s := { s' with toks := s'.toks + 1 }) (strKind_is _ _ _ _) rfl hS' (by lia) fun h' hsb hS2 => ?_
    have hS3 : h'.SetOf (strKind prog w) S (seenIn ss (i + 1)) (if seenIn ss i z then c else c + 1) := SetOf_congr hS2 (fun k => (seen_step hz k).symm) rfl
    refine wpAny_pure ⟨plainId_quiet F.plain_set_update_loop _, ih (i + 1) _ _ (by lia) hlt (by split <;> lia) (W.frame _ s' _ _ hst' (Nat.le_succ _) fun b hb o e => ?_) hS3 fun s'' c' hm'' hc' hS'' => ?_⟩
    · rw [hsb.2 b (fun h : b = S => hSf (by rw [← h]; exact hb))]; exact e
    · refine hR s'' c' (Moved.trans W.gtrans ((hm.mono wider).then_heap (Nat.le_succ _) fun b o hb e => ?_) hm'') hc' hS''
      rw [hsb.2 b (fun h : b = S => hb (by rw [h]; exact List.mem_cons_self))]; exact e
set_option maxHeartbeats 3200000 in
theorem call_set_strs {l : Addr} {items : Array Value} {ss : List Str} {Q : Value → Shared → Prop}
    (hh : A.handled = none) (hl : s.heap.IsList l items) (hi : ∀ (i : Nat) (v : Value), items[i]? = some v → ∃ z t, v = .str z t ∧ ss[i]? = some z) (hn : ss.length = items.size) (hb : items.size + 1 < scanBound)
    (h : ∀ (h' : Heap) (tk c : Nat), c ≤ items.size → h'.SetOf (strKind prog w) s.heap.objs.size (fun k => ss.any (· == k)) c → (∀ b o, s.heap.get? b = some o → h'.get? b = some o) → Q (.ref s.heap.objs.size) { s with heap := h', toks := tk }) :
    wpAny (model prog w) A (call (.type "set") [.ref l]) Q E s := by
  obtain ⟨c0, tl, hmro⟩ := F.called_set.mro
  have hmade := F.called_set.made
  have hsub := F.called_set.sub
  refine wpAny_call (codeAny_of_tree ?_)
  show wpAny _ _ (callAny (.type "set") _) _ _ _
  refine wpAny_pure ⟨Code.quiet_builtin _ (by decide +kernel), codeAny_builtin F.entry_type_call ?_⟩
  rw [Around.under_plain (weight_type_call_type "set" [.ref l] []) rfl]
  have h1 := F.called_set.notType
  have h2 := F.called_set.canCreate
  have hct := F.typeCall_set_1 (.ref l)
  repeat (any_goals (first | assumption | wp_step))
  refine codeAny_mono (code_set_new_1 (.ref l) (E := E) (Q₁ := fun obj s₁ => ∃ led : Bool, obj = .ref s.heap.objs.size ∧ s₁ = { s with heap := s.heap.push { cls := .type "set", dict := none, data := .set #[] 0 (.fresh 0 0 led) } }) fun led => ⟨led, rfl, rfl⟩) fun r s₁ hr => ?_
  cases r with
  | error e => exact hr
  | ok fl =>
  cases fl with
  | next => exact hr.elim
  | brk => exact hr.elim
  | cont => exact hr.elim
  | ret obj =>
  obtain ⟨led, rfl, rfl⟩ := hr
  have hset : ∀ led, (s.heap.push { cls := .type "set", dict := none, data := .set #[] 0 (.fresh 0 0 led) }).get? s.heap.objs.size = some { cls := .type "set", dict := none, data := .set #[] 0 (.fresh 0 0 led) } := fun _ => Heap.get?_push_size _ rfl
  have hT : Shared.TypeIs { s with heap := s.heap.push { cls := .type "set", dict := none, data := .set #[] 0 (.fresh 0 0 led) } } (.ref s.heap.objs.size) "set" := ⟨_, hset led, rfl⟩
  have hli := F.called_set.init.lookup
  have hbi := F.called_set.init.bind (.ref s.heap.objs.size)
  repeat (any_goals (first | assumption | wp_step))
  refine codeAny_mono (codeAny_call_builtin (R := wants (fun r s₂ => r = .none ∧ ∃ h' tk c, s₂ = { s with heap := h', toks := tk } ∧ c ≤ items.size ∧ h'.SetOf (strKind prog w) s.heap.objs.size (fun k => ss.any (· == k)) c ∧ (∀ b o, s.heap.get? b = some o → h'.get? b = some o)) E)
    F.called_set.init.plain F.entry_set_init (check_set_init_1 hT ?_)) fun r₂ s₂ hr₂ => ?_
  · have hlS : l < s.heap.objs.size := by obtain ⟨_, e, _⟩ := hl; exact Heap.lt_size e
    have hl1 : (s.heap.push { cls := .type "set", dict := none, data := .set #[] 0 (.fresh 0 0 led) }).IsList l items := hl.push _
    have hol := hl1
    obtain ⟨ol, hol', hcl, nl, hdl⟩ := hol
    obtain ⟨ocls, odict, odata, oslots⟩ := ol
    simp only at hcl hdl
    subst hcl; subst hdl
    have hsls := F.sub_list_set
    have hslf := F.sub_list_frozenset
    have hne : (Value.type "list" == Value.type "dict") = false := by decide
    unfold Builtin.«set.__init__» noKeywords Builtin.Frozenset.updateFrom
    generalize hPI : pyIter = PI
    wp_walk
    subst hPI
    refine wpAny_pyIter_list hl1 ?_
    refine wpAny_bind (wpAny_runValue ?_)
    have hsz : (s.heap.push { cls := .type "set", dict := none, data := .set #[] 0 (.fresh 0 0 led) }).objs.size = s.heap.objs.size + 1 := Heap.size_push ..
    refine strSet_loop ((Walks.list (by simp [hh]) _ l (by rw [hsz]; exact Nat.ne_of_lt (Nat.lt_succ_of_lt hlS)) items).toS) s.heap.objs.size ?_ ss hi hb (items.size - 0) 0 0 _ (by lia) (Nat.zero_le _) (Nat.le_refl _) ⟨⟨_, Heap.get?_push_size _ rfl, rfl, rfl⟩, hl1.push _⟩ ?_ ?_
    · rw [hsz]
      simp only [List.mem_cons, List.not_mem_nil, or_false, not_or]
      exact ⟨Nat.ne_of_lt (Nat.lt_succ_self _), Nat.ne_of_gt hlS⟩
    · exact SetOf_congr ((setObjOf_fresh (knd := strKind prog w) led).setOf (Heap.get?_push_of_some _ (hset led)) (by unfold scanBound; lia)) (fun k => by simp [seenIn]) rfl
    · intro s' c' hm hc' hS'
      obtain ⟨h', g', d', tk', os'⟩ := s'
      obtain rfl : g' = s.gens := hm.gens
      obtain rfl : d' = s.drawn := hm.drawn
      obtain rfl : os' = s.os := hm.os
      refine wpAny_pure ?_
      show wpAny _ _ (ret Value.none) _ _ _
      refine wpAny_pure ⟨rfl, h', tk', c', rfl, hc', ?_, fun b o e => ?_⟩
      · rw [← hn] at hS'
        unfold seenIn at hS'
        rwa [List.take_length] at hS'
      · refine hm.heap b o ?_ (Heap.get?_push_of_some _ (Heap.get?_push_of_some _ e))
        rw [hsz]
        simp only [List.mem_cons, List.not_mem_nil, or_false, not_or]
        have hb := Heap.lt_size e
        exact ⟨Nat.ne_of_lt hb, Nat.ne_of_lt (Nat.lt_succ_of_lt hb)⟩
  · cases r₂ with
    | error e => exact hr₂
    | ok fl₂ =>
      cases fl₂ with
      | next => exact hr₂.elim
      | brk => exact hr₂.elim
      | cont => exact hr₂.elim
      | ret r =>
        obtain ⟨rfl, h', tk, c', rfl, hc', hS', hk'⟩ := hr₂
        repeat (any_goals (first | assumption | wp_step))
        exact h _ _ c' hc' hS' hk'
end
end Mine
end
section
namespace Mine
open PySem PySem.Spec PyProof.Rows
open Sem (wp)
theorem lk_set_contains : typeLookup (.type "set") "__contains__" = pure (some (.builtin "set.__contains__")) := by rw [typeLookup_type, builtinLookup_eq_fast]; kernel_rfl
theorem ty_set_contains : typeOf (.builtin "set.__contains__") = pure (.type "method_descriptor") := by kernel_rfl
theorem lk_md_get : typeLookup (.type "method_descriptor") "__get__" = pure (some (.builtin "method_descriptor.__get__")) := by rw [typeLookup_type, builtinLookup_eq_fast]; kernel_rfl
theorem lk_md_set : typeLookup (.type "method_descriptor") "__set__" = pure none := by rw [typeLookup_type, builtinLookup_eq_fast]; kernel_rfl
theorem lk_md_del : typeLookup (.type "method_descriptor") "__delete__" = pure none := by rw [typeLookup_type, builtinLookup_eq_fast]; kernel_rfl
theorem slot_md_get : Slot "method_descriptor" "__get__" "method_descriptor.__get__" :=
  .of (owner := "method_descriptor") (n := "__get__") (by rw [typeLookup_type, builtinLookup_eq_fast]; kernel_rfl) (by decide +kernel) (by decide +kernel) (by decide +kernel)
    (by first | exact .inl (by decide +kernel) | exact .inr (by decide +kernel)) (by rw [isSubtype_type]; kernel_rfl)
theorem entry_md_get : entryFor table "method_descriptor.__get__" = some Builtin.«method_descriptor.__get__» := entryFor_of_tree (by kernel_rfl)
theorem args_md_get (a b c : Value) : argsOk "method_descriptor.__get__" ⟨[a, b, c], []⟩ := by unfold argsOk; kernel_rfl
theorem owner_set_contains : (".".intercalate ("set.__contains__".cutAt '.').dropLast) = "set" := by decide +kernel
theorem sub_set_owner : isSubtype (.type "set") (.type (".".intercalate ("set.__contains__".cutAt '.').dropLast)) = pure true := by rw [owner_set_contains, isSubtype_type]; kernel_rfl
noncomputable abbrev boundObj (S : Addr) : Obj := { cls := .type "builtin_function_or_method", data := .fields #[.builtin "set.__contains__", .ref S] }
section
variable {prog : Program} {w : World} {A : Around} {E : Value → Shared → Prop} {h : Heap} {g : Array GenState} {d : Drawn} {t : Nat} {os : OsState} {a : Addr} {o : Obj}
set_option maxHeartbeats 2000000 in
theorem contains_entry {tk : Tok} {Q : Fin → Shared → Prop} {es : Array (Int × Value)} {ep : Nat} {tb : SetTable} {sl : Array (Option Value)} (hx : h.get? a = some ⟨.type "set", none, .set es ep tb, sl⟩) (hq : Q (.done (.ret (.ref h.objs.size))) ⟨h.push (boundObj a), g, d, t, os⟩) :
    wpAny (model prog w) A (Builtin.«object.__getattribute__» ⟨[.ref a, .str "__contains__" tk], []⟩) Q E ⟨h, g, d, t, os⟩ := by
  have hT : (⟨h, g, d, t, os⟩ : Shared).TypeIs (.ref a) "set" := ⟨_, hx, rfl⟩
  have f4 := lk_set_contains
  have f5 := ty_set_contains
  have f6 := lk_md_get
  have f7 := lk_md_set
  have f8 := lk_md_del
  repeat (any_goals (first | assumption | wp_step))
  have f9 := sub_set_owner
  have hT5 : (⟨h, g, d, t, os⟩ : Shared).TypeIs (.builtin "set.__contains__") "method_descriptor" := ty_set_contains
  refine codeAny_call_builtin slot_md_get.plain entry_md_get (slot_md_get.check _ _ _ _ _ _ _ _ hT5 (args_md_get _ _ _) ?_)
  unfold Builtin.«method_descriptor.__get__»
  repeat (any_goals (first | assumption | wp_step))
theorem contains_call {tk : Tok} {R : Result → Shared → Prop} {es : Array (Int × Value)} {ep : Nat} {tb : SetTable} {sl : Array (Option Value)} (hx : h.get? a = some ⟨.type "set", none, .set es ep tb, sl⟩) (hq : R (.ok (.ret (.ref h.objs.size))) ⟨h.push (boundObj a), g, d, t, os⟩) :
    codeAny (model prog w) A (.call (.builtin "set.__getattribute__") ⟨[.ref a, .str "__contains__" tk], []⟩) R ⟨h, g, d, t, os⟩ :=
  codeAny_call_builtin F.slot_set_getattribute.plain F.entry_set_ga (F.slot_set_getattribute.check _ _ _ _ _ _ _ _ (show (⟨h, g, d, t, os⟩ : Shared).TypeIs (.ref a) "set" from ⟨_, hx, rfl⟩) (F.args_set_getattribute_2 _ _) (contains_entry hx hq))
theorem contains_attr {Q : Value → Shared → Prop} {es : Array (Int × Value)} {ep : Nat} {tb : SetTable} {sl : Array (Option Value)} (hx : h.get? a = some ⟨.type "set", none, .set es ep tb, sl⟩) (hq : Q (.ref h.objs.size) ⟨h.push (boundObj a), g, d, t + 1, os⟩) :
    wpAny (model prog w) A (getAttr (.ref a) "__contains__" true) Q E ⟨h, g, d, t, os⟩ := by
  have hT : ∀ t, (⟨h, g, d, t, os⟩ : Shared).TypeIs (.ref a) "set" := fun _ => ⟨_, hx, rfl⟩
  have f2 := F.slot_set_getattribute.lookup
  have f3 := F.slot_set_getattribute.bind (.ref a)
  unfold getAttr getAttrBy
  repeat (any_goals (first | assumption | exact hT _ | wp_step))
  all_goals trace_state
  refine contains_call hx ?_
  repeat (any_goals (first | assumption | wp_step))
  all_goals trace_state
end
end Mine
end
section
namespace Mine
open PySem PySem.Spec PyProof.Rows
open Sem (wp)
theorem sub_set_module : isSubtype (.type "set") (.type "module") = pure false := by rw [isSubtype_type]; kernel_rfl
section
variable {prog : Program} {w : World} {A : Around} {E : Value → Shared → Prop} {h : Heap} {g : Array GenState} {d : Drawn} {t : Nat} {os : OsState} {m S : Addr}
set_option maxHeartbeats 2000000 in
theorem bound_call {z : Str} {tk : Tok} {n : Nat} {T : Str → Bool} {Q : Value → Shared → Prop} (hm : h.get? m = some (boundObj S)) (hS : h.SetOf (strKind prog w) S T n) (hq : ∀ tk, Q (.bool (T z)) ⟨h, g, d, tk, os⟩) :
    wpAny (model prog w) A (call (.ref m) [.str z tk]) Q E ⟨h, g, d, t, os⟩ := by
  have hT : ∀ t, (⟨h, g, d, t, os⟩ : Shared).TypeIs (.ref S) "set" := fun _ => Heap.SetOf.typeIs (s := ⟨h, g, d, t, os⟩) hS
  obtain ⟨⟨oc, od, dat, sl⟩, es, ep, tb, hx, ⟨hc1, hc2, hc3⟩, hdat, hrest⟩ := id hS
  simp only at hc1 hc2 hdat
  subst hc1 hc2 hdat
  have f1 := sub_set_module
  have f2 := sub_set_self
  refine wpAny_call (codeAny_of_tree ?_)
  show wpAny _ _ (callAny (.ref m) _) _ _ _
  unfold callAny
  repeat (any_goals (first | assumption | exact hT _ | wp_step))
  refine ⟨Code.quiet_builtin _ (by decide +kernel), codeAny_builtin entry_set_contains ?_⟩
  show wpAny _ _ (Builtin.«frozenset.__contains__» ⟨[.ref S, .str z tk], []⟩) _ _ _
  unfold Builtin.«frozenset.__contains__» Builtin.Frozenset.oneOther
  simp only [List.isEmpty_nil, bind_assoc]
  unfold Builtin.Frozenset.addrOf Builtin.Frozenset.withSetAsKey setContains
  refine wpAny_bind (wpAny_pure ?_)
  try dsimp only
  refine wpAny_bind (wpAny_pure ?_)
  try dsimp only
  refine wpAny_bind (wpAny_tryCatch ?_)
  refine wpAny_holding ?_
  refine wpAny_bind ((strKind prog w).pyHash (strKind_is prog w z tk) ?_)
  refine wpAny_bind (wpAny_setFind_of (knd := strKind prog w) (s := ⟨h, g, d, t + 1, os⟩) (strKind_is prog w z tk) rfl hS fun r hr => ?_)
  refine wpAny_pure ?_
  show wpAny _ _ (ret (Value.bool r.isSome)) _ _ _
  rw [hr]
  exact wpAny_pure (hq _)
end
end Mine
end
section
namespace Mine
open PySem PySem.Spec PyProof.Rows
open Sem (wp)
theorem mro_filter : mroOf (.type "filter") = pure [.type "filter", .type "object"] := by rw [mroOf_type]; kernel_rfl
theorem lookup_filter_new : typeLookup (.type "filter") "__new__" = pure (some (.builtin "filter.__new__")) := by rw [typeLookup_type, builtinLookup_eq_fast]; kernel_rfl
theorem slot_filter_init : Slot "filter" "__init__" "object.__init__" :=
  .of (owner := "object") (n := "__init__") (by rw [typeLookup_type, builtinLookup_eq_fast]; kernel_rfl) (by decide +kernel) (by decide +kernel) (by decide +kernel)
    (by first | exact .inl (by decide +kernel) | exact .inr (by decide +kernel)) (by rw [isSubtype_type]; kernel_rfl)
theorem slot_filter_iter : Slot "filter" "__iter__" "filter.__iter__" :=
  .of (owner := "filter") (n := "__iter__") (by rw [typeLookup_type, builtinLookup_eq_fast]; kernel_rfl) (by decide +kernel) (by decide +kernel) (by decide +kernel)
    (by first | exact .inl (by decide +kernel) | exact .inr (by decide +kernel)) (by rw [isSubtype_type]; kernel_rfl)
theorem slot_filter_next : Slot "filter" "__next__" "filter.__next__" :=
  .of (owner := "filter") (n := "__next__") (by rw [typeLookup_type, builtinLookup_eq_fast]; kernel_rfl) (by decide +kernel) (by decide +kernel) (by decide +kernel)
    (by first | exact .inl (by decide +kernel) | exact .inr (by decide +kernel)) (by rw [isSubtype_type]; kernel_rfl)
theorem called_filter : TypeCalled "filter" "filter.__new__" "object.__init__" :=
  ⟨by decide +kernel, by decide +kernel, ⟨_, _, mro_filter⟩, madeBy_type mro_filter lookup_filter_new (by decide +kernel), by decide +kernel, by rw [isSubtype_type]; kernel_rfl, slot_filter_init⟩
theorem typeCall_filter_2 (a b : Value) : checkTypeCall "filter" ⟨[a, b], []⟩ = pure () := by kernel_rfl
theorem newCall_filter_2 (a b : Value) : checkBuiltinCall "filter.__new__" ⟨[.type "filter", a, b], []⟩ = pure () := by kernel_rfl
theorem entry_filter_new : entryFor table "filter.__new__" = some Builtin.«filter.__new__» := entryFor_of_tree (by kernel_rfl)
theorem entry_filter_next : entryFor table "filter.__next__" = some Builtin.«filter.__next__» := entryFor_of_tree (by kernel_rfl)
theorem entry_filter_iter : entryFor table "filter.__iter__" = some Builtin.«dict_keyiterator.__iter__» :=
  entryFor_alias (id' := "dict_keyiterator.__iter__") (by kernel_rfl) (by first | rfl | decide +kernel | (unfold String.splitOn; simp +decide [String.splitOnAux])) (by decide +kernel) (by kernel_rfl)
theorem sub_filter : isSubtype (.type "filter") (.type "filter") = pure true := by rw [isSubtype_type]; kernel_rfl
theorem args_filter_next_1 (a : Value) : argsOk "filter.__next__" ⟨[a], []⟩ := by unfold argsOk; kernel_rfl
theorem args_filter_iter_1 (a : Value) : argsOk "filter.__iter__" ⟨[a], []⟩ := by unfold argsOk; kernel_rfl
theorem plain_filter_next : plainId "filter.__next__" = true := by decide +kernel
noncomputable abbrev filtObj (m it : Addr) : Obj := { cls := .type "filter", data := .fields #[.ref m, .ref it] }
theorem meets_filter_new (m l : Addr) (xs : Array Value) :
    Meets (Builtin.«filter.__new__» ⟨[.type "filter", .ref m, .ref l], []⟩) (fun _ R s => s.heap.IsList l xs ∧
      R (.ok (.ret (.ref (s.heap.push { cls := .type "list_iterator", data := .fields #[.ref l, .int 0 0] }).objs.size))) { s with heap := (s.heap.push { cls := .type "list_iterator", data := .fields #[.ref l, .int 0 0] }).push (filtObj m s.heap.objs.size) }) :=
  .of_wp fun prog w A R s h => by
    obtain ⟨hp, g, d, tk, os⟩ := s; obtain ⟨hl1, h⟩ := h
    have hsub := sub_filter
    have hL1 : Heap.IsList (Shared.heap ⟨hp, g, d, tk, os⟩) l xs := hl1
    wp_walk using wpAny_pyIter_list hL1
    exact ⟨_, rfl, h⟩
section
variable {prog : Program} {w : World} {A : Around} {E : Value → Shared → Prop} {s : Shared}
end
end Mine
end
section
namespace Mine
open PySem PySem.Spec PyProof.Rows
open Sem (wp)
section
variable {prog : Program} {w : World} {A : Around} {E : Value → Shared → Prop} {s : Shared}
theorem cs_item {it l : Addr} {i : Nat} {items : Array Value} {x : Value} {Q : Option Value → Shared → Prop} (hit : s.heap.IsListIter it l i) (hl : s.heap.IsList l items) (hx : items[i]? = some x)
    (hQ : ∀ h', h'.IsListIter it l (i + 1) → Heap.SameBut it s.heap h' → Q (some x) { s with heap := h' }) :
    wpAny (model prog w) A (callSpecial? (.ref it) "__next__") Q E s := by
  obtain ⟨o, ho, hc, hd⟩ := id hit
  obtain ⟨ol, hol, _, nl, hdl⟩ := hl
  refine wpAny_callSpecial?_slot (name := Str.ofString "__next__") hit.typeIs slot_listiter_next (wpAny_call_entry slot_listiter_next hit.typeIs entry_listiter_next ?_ (args_listiter_next _))
  show wpAny _ _ (field (.ref it) 0 >>= _) _ _ s
  refine wpAny_bind (wpAny_field ho hd (x := .ref l) rfl ?_)
  show wpAny _ _ (if (Value.ref l == Value.none) = true then _ else _) _ _ s
  rw [if_neg (show ¬ ((Value.ref l == Value.none) = true) from Bool.false_ne_true)]
  show wpAny _ _ (field (.ref it) 1 >>= _) _ _ s
  refine wpAny_bind (wpAny_field ho hd (x := .int i 0) rfl ?_)
  show wpAny _ _ (seqItems? (.ref l) >>= _) _ _ s
  refine wpAny_bind (wpAny_seqItems hol hdl ?_)
  simp only [Int.toNat_natCast, hx]
  refine wpAny_bind (wpAny_setField ho hd (by simp) (wpAny_pure ⟨x, rfl, hQ _ ?_ (Heap.SameBut.update ..)⟩))
  exact ⟨_, Heap.get?_update_self _ ho (Obj.isFreed_of_fields (Obj.data_mapFields hd _)), (Obj.cls_mapFields ..).trans hc, by
    rw [Obj.data_mapFields hd]; simp [rawInt]⟩
theorem cs_end {it l : Addr} {i : Nat} {items : Array Value} {Q : Option Value → Shared → Prop} (hh : A.handled = none) (hit : s.heap.IsListIter it l i) (hl : s.heap.IsList l items) (hx : items[i]? = none)
    (hE : ∀ h' e, Heap.ExtBut it s.heap h' → (∃ o, h'.get? e = some o ∧ o.cls = .type "StopIteration") → E (.ref e) { s with heap := h' }) :
    wpAny (model prog w) A (callSpecial? (.ref it) "__next__") Q E s := by
  obtain ⟨o, ho, hc, hd⟩ := id hit
  obtain ⟨ol, hol, _, nl, hdl⟩ := hl
  refine wpAny_callSpecial?_slot (name := Str.ofString "__next__") hit.typeIs slot_listiter_next (wpAny_call_entry slot_listiter_next hit.typeIs entry_listiter_next ?_ (args_listiter_next _))
  show wpAny _ _ (field (.ref it) 0 >>= _) _ _ s
  refine wpAny_bind (wpAny_field ho hd (x := .ref l) rfl ?_)
  show wpAny _ _ (if (Value.ref l == Value.none) = true then _ else _) _ _ s
  rw [if_neg (show ¬ ((Value.ref l == Value.none) = true) from Bool.false_ne_true)]
  show wpAny _ _ (field (.ref it) 1 >>= _) _ _ s
  refine wpAny_bind (wpAny_field ho hd (x := .int i 0) rfl ?_)
  show wpAny _ _ (seqItems? (.ref l) >>= _) _ _ s
  refine wpAny_bind (wpAny_seqItems hol hdl ?_)
  simp only [Int.toNat_natCast, hx]
  refine wpAny_bind (wpAny_rule (wpAny_bind (wpAny_setField ho hd (by simp) ?_)))
  show wpAny _ _ (newExc (.type "StopIteration") [] >>= _) _ _ _
  refine wpAny_bind ?_
  simp only [newExc, newTuple]
  refine wpAny_bind (wpAny_newObj_type ?_ (by size_fits))
  refine wpAny_bind (m := firstArgMember _ _) (wpAny_of_eq (a := Value.none) (by first | rfl | (simp only [firstArgMember]; rfl)) ?_)
  refine wpAny_newObj_type ?_ (by size_fits)
  simp only [raiseNew]
  refine wpAny_bind (wpAny_handled ?_)
  first | rw [show A.in1.handled = none from hh] | rw [hh]
  refine wpAny_bind (wpAny_pure (wpAny_throw ?_))
  exact hE _ _ (((Heap.SameBut.update ..).extBut.push _).push _) ⟨_, Heap.get?_push_size _ rfl, rfl⟩
noncomputable def Wrd (items : Array Value) (ss : List Str) : Prop := ss.length = items.size ∧ ∀ (i : Nat) (v : Value), items[i]? = some v → ∃ z t, v = .str z t ∧ ss[i]? = some z
theorem filt_next {f m it l S : Addr} {T : Str → Bool} {n : Nat} {items : Array Value} {ss : List Str} (hh : A.handled = none) (W : Wrd items ss) (hfi : f ≠ it) (hmi : m ≠ it) (hSi : S ≠ it) (hli : l ≠ it) :
    ∀ (c k : Nat) {R : Result → Shared → Prop} {s : Shared}, items.size - k = c → k ≤ items.size → s.heap.get? f = some (filtObj m it) → s.heap.get? m = some (boundObj S) → s.heap.SetOf (strKind prog w) S T n → s.heap.IsListIter it l k → s.heap.IsList l items →
    (∀ k' v z t h' tk, k ≤ k' → items[k']? = some v → v = .str z t → ss[k']? = some z → T z = true → (∀ j z, k ≤ j → j < k' → ss[j]? = some z → T z = false) → h'.IsListIter it l (k' + 1) → Heap.ExtBut it s.heap h' → R (.ok (.ret v)) { s with heap := h', toks := tk }) →
    (∀ e h' tk, (∀ j z, k ≤ j → ss[j]? = some z → T z = false) → Heap.ExtBut it s.heap h' → (∃ o, h'.get? e = some o ∧ o.cls = .type "StopIteration") → R (.error (.ref e)) { s with heap := h', toks := tk }) →
    codeAny (model prog w) A (.builtin "filter.__next__" ⟨[.ref f], []⟩) R s := by
  intro c
  induction c with
  | zero =>
    intro k R s hc hk hf hm hS hit hl hR hE
    refine codeAny_builtin entry_filter_next ?_
    rw [Around.under_plainId plain_filter_next _]
    show wpAny _ A.in1 (field (.ref f) 0 >>= _) _ _ s
    refine wpAny_bind (wpAny_field hf rfl (x := .ref m) rfl ?_)
    show wpAny _ _ (field (.ref f) 1 >>= _) _ _ s
    refine wpAny_bind (wpAny_field hf rfl (x := .ref it) rfl ?_)
    refine wpAny_bind (cs_end (A := A.in1) hh hit hl (Array.getElem?_eq_none (by lia)) fun h' e he hx => ?_)
    exact hE e h' _ (fun j z hj hz => by
      have := (List.getElem?_eq_some_iff.mp hz).1
      have := W.1
      lia) he hx
  | succ c ih =>
    intro k R s hc hk hf hm hS hit hl hR hE
    refine codeAny_builtin entry_filter_next ?_
    rw [Around.under_plainId plain_filter_next _]
    show wpAny _ A.in1 (field (.ref f) 0 >>= _) _ _ s
    refine wpAny_bind (wpAny_field hf rfl (x := .ref m) rfl ?_)
    show wpAny _ _ (field (.ref f) 1 >>= _) _ _ s
    refine wpAny_bind (wpAny_field hf rfl (x := .ref it) rfl ?_)
    have hkl : k < items.size := by lia
    have hx : items[k]? = some items[k] := Array.getElem?_eq_getElem hkl
    obtain ⟨z, t, ez, hz⟩ := W.2 k _ hx
    refine wpAny_bind (cs_item (A := A.in1) hit hl hx fun h' hit' hs' => ?_)
    dsimp only
    rw [ez]
    have hb := hs'.extBut
    have hf' := hb f _ hfi hf
    have hm' := hb m _ hmi hm
    have hl' : h'.IsList l items := hl.extBut hb hli
    have hS' : h'.SetOf (strKind prog w) S T n := by
      obtain ⟨o, es, ep, tb, ho, rest⟩ := hS
      exact ⟨o, es, ep, tb, hb S o hSi ho, rest⟩
    refine wpAny_bind (wpAny_holding ?_)
    rw [if_neg (show ¬ ((Value.ref m == Value.none || Value.ref m == Value.type "bool") = true) from Bool.false_ne_true)]
    obtain ⟨hp, g, d, tk, os⟩ := s
    refine wpAny_bind (bound_call (h := h') (g := g) (d := d) (t := tk) (os := os) hm' hS' fun tk' => ?_)
    refine wpAny_holding (wpAny_truthy_bool ?_)
    cases hT : T z with
    | true =>
      rw [if_pos rfl]
      exact wpAny_pure (hR k _ z t h' tk' (Nat.le_refl _) (hx.trans (congrArg some ez)) rfl hz hT (fun j z h1 h2 => absurd h1 (Nat.not_le.mpr h2)) hit' hb)
    | false =>
      rw [if_neg Bool.false_ne_true]
      refine wpAny_pure ⟨plainId_quiet plain_filter_next _, ?_⟩
      refine ih (k + 1) (s := ⟨h', g, d, tk', os⟩) (by lia) (by lia) hf' hm' hS' hit' hl' (fun k' v z' t' h'' tk'' h1 h2 h3 h4 h5 h6 h7 h8 => ?_) fun e h'' tk'' h1 h2 h3 => ?_
      · exact hR k' v z' t' h'' tk'' (by lia) h2 h3 h4 h5 (fun j y hj1 hj2 hy => by
          rcases Nat.lt_or_ge k j with h | h
          · exact h6 j y h hj2 hy
          · obtain rfl : j = k := by lia
            rw [hz] at hy
            cases hy
            exact hT) h7 (fun b o hb' e => h8 b o hb' (hb b o hb' e))
      · exact hE e h'' tk'' (fun j y hj1 hy => by
          rcases Nat.lt_or_ge k j with h | h
          · exact h1 j y h hy
          · obtain rfl : j = k := by lia
            rw [hz] at hy
            cases hy
            exact hT) (fun b o hb' e => h2 b o hb' (hb b o hb' e)) h3
end
end Mine
end
section
namespace Mine
open PySem PySem.Spec PyProof.Rows
open Sem (wp)
theorem take_all_false {ss : List Str} {T : Str → Bool} {k : Nat} (h : ∀ j z, k ≤ j → ss[j]? = some z → T z = false) : ss.filter T = (ss.take k).filter T := by
  conv => lhs; rw [← List.take_append_drop k ss]
  rw [List.filter_append]
  have : (ss.drop k).filter T = [] := by
    rw [List.filter_eq_nil_iff]
    intro z hz
    obtain ⟨j, hj⟩ := List.mem_iff_getElem?.mp hz
    rw [List.getElem?_drop] at hj
    rw [h (k + j) z (by lia) hj]
    exact Bool.false_ne_true
  rw [this, List.append_nil]
theorem take_next {ss : List Str} {T : Str → Bool} {k k' : Nat} {z : Str} (hk : k ≤ k') (hz : ss[k']? = some z) (hT : T z = true) (h : ∀ j z, k ≤ j → j < k' → ss[j]? = some z → T z = false) :
    (ss.take (k' + 1)).filter T = (ss.take k).filter T ++ [z] := by
  rw [List.take_add_one, hz, List.filter_append]
  have h1 : (ss.take k').filter T = (ss.take k).filter T := by
    have e := take_all_false (ss := ss.take k') (T := T) (k := k) fun j y hj hy => by
      rw [List.getElem?_take] at hy
      by_cases hlt : j < k'
      · rw [if_pos hlt] at hy
        exact h j y hj hlt hy
      · rw [if_neg hlt] at hy
        cases hy
    rw [e, List.take_take, Nat.min_eq_left hk]
  rw [h1]
  simp [hT]
noncomputable def FiltSt (prog : Program) (w : World) (f m it l S : Addr) (T : Str → Bool) (n : Nat) (items : Array Value) (ss : List Str) (i : Nat) (h : Heap) : Prop :=
  h.get? f = some (filtObj m it) ∧ h.get? m = some (boundObj S) ∧ h.SetOf (strKind prog w) S T n ∧ h.IsList l items ∧ ∃ k, k ≤ items.size ∧ h.IsListIter it l k ∧ ((ss.take k).filter T).length = i
section
variable {prog : Program} {w : World} {A : Around} {E : Value → Shared → Prop} {s : Shared}
theorem next_code {f : Addr} {m it : Addr} {R : Result → Shared → Prop} (hf : s.heap.get? f = some (filtObj m it)) (h : codeAny (model prog w) A (.builtin "filter.__next__" ⟨[.ref f], []⟩) R s) :
    codeAny (model prog w) A (.call (.builtin "filter.__next__") ⟨[.ref f], []⟩) R s := by
  refine codeAny_of_tree ?_
  show wpAny _ A.in1 (do checkBuiltinCall "filter.__next__" ⟨[.ref f], []⟩; again (.builtin "filter.__next__" ⟨[.ref f], []⟩)) _ _ s
  refine wpAny_bind (slot_filter_next.check _ _ _ _ _ _ _ _ (show s.TypeIs (.ref f) "filter" from ⟨_, hf, rfl⟩) (args_filter_next_1 _) (wpAny_pure ⟨plainId_quiet plain_filter_next _, h⟩))
theorem filt_walks {f m it l S : Addr} {T : Str → Bool} {n : Nat} {items : Array Value} {ss : List Str} (hh : A.handled = none) (W : Wrd items ss) (hfi : f ≠ it) (hmi : m ≠ it) (hSi : S ≠ it) (hli : l ≠ it) :
    Walks prog w A f [f, m, it, l, S] [it] (ss.filter T).length (fun i v => ∃ z t, v = .str z t ∧ (ss.filter T)[i]? = some z) (FiltSt prog w f m it l S T n items ss) where
  sub := fun b hb => by rw [List.mem_singleton.mp hb]; simp
  frame := fun i h h' ⟨hf, hm, hS, hl, k, hk, hit, hlen⟩ hkp => by
    refine ⟨hkp f (.head _) _ hf, hkp m (.tail _ (.head _)) _ hm, ?_, hl.at fun o e => hkp l (.tail _ (.tail _ (.tail _ (.head _)))) o e, k, hk, hit.at fun o e => hkp it (.tail _ (.tail _ (.head _))) o e, hlen⟩
    obtain ⟨o, es, ep, tb, ho, rest⟩ := hS
    exact ⟨o, es, ep, tb, hkp S (.tail _ (.tail _ (.tail _ (.tail _ (.head _))))) o ho, rest⟩
  item := fun i s Q E hi ⟨hf, hm, hS, hl, k, hk, hit, hlen⟩ hQ => by
    unfold pyNext
    refine wpAny_bind (wpAny_attempt (wpAny_callSpecial?_slot (name := Str.ofString "__next__") (show s.TypeIs (.ref f) "filter" from ⟨_, hf, rfl⟩) slot_filter_next (wpAny_call (next_code hf ?_))))
    refine filt_next hh W hfi hmi hSi hli (items.size - k) k rfl hk hf hm hS hit hl (fun k' v z t h' tk h1 h2 h3 h4 h5 h6 h7 h8 => ?_) fun e h' tk h1 h2 h3 => ?_
    · refine wpAny_pure (hQ v h' tk ⟨z, t, h3, ?_⟩ ⟨h8 f _ hfi hf, h8 m _ hmi hm, ?_, hl.extBut h8 hli, k' + 1, ?_, h7, ?_⟩ fun b o hb e => h8 b o (fun x => hb (by simp [x])) e)
      · have e := take_next h1 h4 h5 h6
        conv => lhs; rw [← List.take_append_drop (k' + 1) ss]
        rw [List.filter_append, e, List.append_assoc, List.getElem?_append_right (by lia), hlen, Nat.sub_self]
        rfl
      · obtain ⟨o, es, ep, tb, ho, rest⟩ := hS
        exact ⟨o, es, ep, tb, h8 S o hSi ho, rest⟩
      · exact (Array.getElem?_eq_some_iff.mp h2).1
      · rw [take_next h1 h4 h5 h6, List.length_append, hlen]
        rfl
    · rw [take_all_false h1, hlen] at hi
      exact absurd hi (Nat.lt_irrefl _)
  done := fun s Q E ⟨hf, hm, hS, hl, k, hk, hit, hlen⟩ hQ => by
    unfold pyNext
    refine wpAny_bind (wpAny_attempt (wpAny_callSpecial?_slot (name := Str.ofString "__next__") (show s.TypeIs (.ref f) "filter" from ⟨_, hf, rfl⟩) slot_filter_next (wpAny_call (next_code hf ?_))))
    refine filt_next hh W hfi hmi hSi hli (items.size - k) k rfl hk hf hm hS hit hl (fun k' v z t h' tk h1 h2 h3 h4 h5 h6 h7 h8 => ?_) fun e h' tk h1 h2 h3 => ?_
    · exfalso
      have e := congrArg List.length (take_next h1 h4 h5 h6)
      rw [List.length_append, hlen] at e
      have le : ((ss.take (k' + 1)).filter T).length ≤ (ss.filter T).length := by
        conv => rhs; rw [← List.take_append_drop (k' + 1) ss, List.filter_append, List.length_append]
        exact Nat.le_add_right _ _
      simp at e
      lia
    · obtain ⟨o, ho, hc⟩ := h3
      refine wpAny_bind (wpAny_isInstance (T := "StopIteration") (b := true) ⟨o, ho, hc⟩ isSubtype_stop ?_)
      exact wpAny_pure (hQ h' tk fun b o hb e => h2 b o (fun x => hb (by simp [x])) e)
  self := fun i s Q E ⟨hf, _⟩ hQ => by
    have hT : s.TypeIs (.ref f) "filter" := ⟨_, hf, rfl⟩
    refine wpAny_pyIter_slot hT slot_filter_iter (wpAny_call_entry slot_filter_iter hT entry_filter_iter ?_ (args_filter_iter_1 _))
    show wpAny _ _ (ret (.ref f)) _ _ s
    exact wpAny_pure ⟨_, rfl, "filter", _, hT, slot_filter_next.lookup, hQ⟩
end
end Mine
end
section
namespace Mine
open PySem PySem.Spec PyProof.Rows
open Sem (wp)
theorem filt_no_len : typeLookup (.type "filter") "__len__" = pure none := by rw [typeLookup_type, builtinLookup_eq_fast]; kernel_rfl
theorem filt_no_hint : typeLookup (.type "filter") "__length_hint__" = pure none := by rw [typeLookup_type, builtinLookup_eq_fast]; kernel_rfl
section
variable {prog : Program} {w : World} {A : Around} {E : Value → Shared → Prop} {s : Shared}
theorem call_list_filt {f m it l S : Addr} {T : Str → Bool} {n : Nat} {items : Array Value} {ss : List Str} {Q : Value → Shared → Prop} (hh : A.handled = none) (W : Wrd items ss) (hfi : f ≠ it) (hmi : m ≠ it) (hSi : S ≠ it) (hli : l ≠ it) (hsz : items.size ≤ 10000)
    (hf : s.heap.get? f = some (filtObj m it)) (hm : s.heap.get? m = some (boundObj S)) (hS : s.heap.SetOf (strKind prog w) S T n) (hl : s.heap.IsList l items) (hit : s.heap.IsListIter it l 0)
    (hQ : ∀ (h' : Heap) (tk c' : Nat) (acc : Array Value), (∀ b o, b ≠ it → s.heap.get? b = some o → h'.get? b = some o) → h'.get? s.heap.objs.size = some { cls := .type "list", data := .seq acc c' } → acc.size = (ss.filter T).length →
      (∀ (i : Nat) (v : Value), acc[i]? = some v → ∃ (z : Str) (t : Tok), v = Value.str z t ∧ (ss.filter T)[i]? = some z) → Q (.ref s.heap.objs.size) { s with heap := h', toks := tk }) :
    wpAny (model prog w) A (call (.type "list") [.ref f]) Q E s := by
  have WS := (filt_walks (prog := prog) (w := w) (A := A.in1.in1) (n := n) (T := T) (by simp [hh]) W hfi hmi hSi hli).toS
  have hlt : ∀ b ∈ [f, m, it, l, S], b < s.heap.objs.size := fun b hb => by
    simp only [List.mem_cons, List.mem_nil_iff, or_false] at hb
    rcases hb with rfl | rfl | rfl | rfl | rfl
    · exact Heap.lt_size hf
    · exact Heap.lt_size hm
    · obtain ⟨_, e, _⟩ := hit; exact Heap.lt_size e
    · obtain ⟨_, e, _⟩ := hl; exact Heap.lt_size e
    · obtain ⟨_, _, _, _, e, _⟩ := hS; exact Heap.lt_size e
  have hnot : s.heap.objs.size ∉ [f, m, it, l, S] := fun x => Nat.lt_irrefl _ (hlt _ x)
  have hfs : s.heap.objs.size ≠ f := fun e => hnot (by rw [e]; simp)
  have hcount : (ss.filter T).length ≤ sizeLine := Nat.le_trans (Nat.le_trans (List.length_filter_le _ _) (by rw [W.1]; exact hsz)) (by decide)
  have st0 : ∀ h : Heap, (∀ b ∈ [f, m, it, l, S], ∀ o, s.heap.get? b = some o → h.get? b = some o) → FiltSt prog w f m it l S T n items ss 0 h := fun h hk => by
    refine ⟨hk f (.head _) _ hf, hk m (.tail _ (.head _)) _ hm, ?_, hl.at fun o e => hk l (.tail _ (.tail _ (.tail _ (.head _)))) o e, 0, Nat.zero_le _, hit.at fun o e => hk it (.tail _ (.tail _ (.head _))) o e, by simp⟩
    obtain ⟨o, es, ep, tb, ho, rest⟩ := hS
    exact ⟨o, es, ep, tb, hk S (.tail _ (.tail _ (.tail _ (.tail _ (.head _))))) o ho, rest⟩
  refine callType_codes (Q₁ := fun obj s₁ => obj = .ref s.heap.objs.size ∧ s₁ = { s with heap := s.heap.push { cls := .type "list", data := .seq #[] } }) F.called_list (F.typeCall_list_1 _) F.entry_list_init
    (code_list_new _ ⟨rfl, rfl⟩) fun obj s₁ h₁ => ?_
  obtain ⟨rfl, rfl⟩ := h₁
  have hL : (s.heap.push { cls := .type "list", data := .seq #[] }).get? s.heap.objs.size = some { cls := .type "list", data := .seq #[] } := Heap.get?_push_size _ rfl
  refine ⟨⟨_, hL, rfl⟩, F.args_list_init_2 _ _, ?_⟩
  have hfT : ∀ (h : Heap), (∀ b ∈ [f, m, it, l, S], ∀ o, s.heap.get? b = some o → h.get? b = some o) → ∀ (g : Array GenState) (d : Drawn) (t : Nat) (os : OsState), (⟨h, g, d, t, os⟩ : Shared).TypeIs (.ref f) "filter" := fun h hk _ _ _ _ => ⟨_, hk f (.head _) _ hf, rfl⟩
  have up0 : ∀ b ∈ [f, m, it, l, S], ∀ o, s.heap.get? b = some o → (s.heap.push { cls := .type "list", data := .seq #[] }).get? b = some o := fun b _ o e => Heap.get?_push_of_some _ e
  show wpAny _ A.in1.in1 (do let old ← Builtin.List.listItems (.ref s.heap.objs.size); Builtin.List.listUpdate (.ref s.heap.objs.size) (fun _ => #[]); letGo old.toList.reverse; Builtin.List.listExtendWith (.ref s.heap.objs.size) (.ref f) .none) _ _ _
  refine wpAny_bind ?_
  unfold Builtin.List.listItems
  refine wpAny_bind (wpAny_seqItems hL rfl (wpAny_pure ?_))
  show wpAny _ A.in1.in1 (updateSeq s.heap.objs.size (fun _ => #[]) >>= fun _ => letGo (#[] : Array Value).toList.reverse >>= fun _ => Builtin.List.listExtendWith (.ref s.heap.objs.size) (.ref f) .none) _ _ _
  refine wpAny_bind (wpAny_updateSeq hL rfl ?_)
  have hL2 := Heap.get?_update_self (Obj.mapSeq (fun _ => (#[] : Array Value))) hL rfl
  have up1 : ∀ b o, b ≠ s.heap.objs.size → s.heap.get? b = some o → ((s.heap.push { cls := .type "list", data := .seq #[] }).update s.heap.objs.size (Obj.mapSeq (fun _ => (#[] : Array Value)))).get? b = some o :=
    fun b o hb e => (Heap.get?_update_other _ _ (Ne.symm hb)).trans (Heap.get?_push_of_some _ e)
  generalize hh2 : (s.heap.push { cls := .type "list", data := .seq #[] }).update s.heap.objs.size (Obj.mapSeq (fun _ => (#[] : Array Value))) = h2 at *
  have ne0 : ∀ b ∈ [f, m, it, l, S], b ≠ s.heap.objs.size := fun b hb e => hnot (e ▸ hb)
  have up1' : ∀ b ∈ [f, m, it, l, S], ∀ o, s.heap.get? b = some o → h2.get? b = some o := fun b hb o e => up1 b o (ne0 b hb) e
  refine wpAny_bind (wpAny_letGo ?_)
  unfold Builtin.List.listExtendWith
  refine wpAny_bind (wpAny_typeOf (hfT h2 up1' _ _ _ _) ?_)
  have h1 : Builtin.List.listSameRef (.ref s.heap.objs.size) (.ref f) = false := by simp [Builtin.List.listSameRef, hfs]
  have hb2 : (Value.type "filter" == Value.type "list") = false := by decide
  have hb3 : (Value.type "filter" == Value.type "tuple") = false := by decide
  simp only [h1, hb2, hb3, Bool.or_false, Bool.false_eq_true, if_false]
  refine wpAny_bind (WS.self 0 _ _ _ (st0 h2 up1') ?_)
  refine wpAny_bind (wpAny_holding ?_)
  unfold Builtin.List.listLengthHint
  refine wpAny_bind (wpAny_specialOf (hfT h2 up1' _ _ _ _) filt_no_len ?_)
  show wpAny _ A.in1.in1 (specialOf (Value.ref f) (Str.ofString "__length_hint__") >>= _) _ _ _
  refine wpAny_bind (wpAny_specialOf (hfT h2 up1' _ _ _ _) filt_no_hint ?_)
  refine wpAny_pure ?_
  show wpAny _ A.in1.in1 (rule "list.extend.makes-room" >>= fun _ => Builtin.List.listTouch (.ref s.heap.objs.size) >>= fun _ => again (.builtin "list.extend.loop" ⟨[.ref s.heap.objs.size, .ref f, .none], []⟩)) _ _ _
  refine wpAny_bind (wpAny_rule ?_)
  refine wpAny_bind ?_
  show wpAny _ A.in1.in1 (updateSeq s.heap.objs.size (·.push .none) >>= fun _ => updateSeq s.heap.objs.size (·.pop)) _ _ _
  refine wpAny_bind (wpAny_updateSeq hL2 rfl ?_)
  have hL3 := Heap.get?_update_self (Obj.mapSeq (·.push Value.none)) hL2 rfl
  refine wpAny_updateSeq (hz := by seq_fits) hL3 rfl ?_
  have hL4 := Heap.get?_update_self (Obj.mapSeq (·.pop)) hL3 rfl
  have up2 : ∀ b o, b ≠ s.heap.objs.size → s.heap.get? b = some o → ((h2.update s.heap.objs.size (Obj.mapSeq (·.push Value.none))).update s.heap.objs.size (Obj.mapSeq (·.pop))).get? b = some o :=
    fun b o hb e => (Heap.get?_update_other _ _ (Ne.symm hb)).trans ((Heap.get?_update_other _ _ (Ne.symm hb)).trans (up1 b o hb e))
  refine wpAny_pure ⟨plainId_quiet F.plain_extend_loop _, codeAny_extend_loopS (A := A.in1) WS hcount _ hnot _ (ss.filter T).length 0 _ _ _ rfl (Nat.zero_le _) (st0 _ fun b hb o e => up2 b o (ne0 b hb) e) hL4 (ItemsOf.nil _) fun s' acc' c' hmv hL' hacc => ?_⟩
  obtain ⟨h', g', d', tk', os'⟩ := s'
  obtain rfl : g' = s.gens := hmv.gens
  obtain rfl : d' = s.drawn := hmv.drawn
  obtain rfl : os' = s.os := hmv.os
  refine ⟨rfl, hQ h' tk' c' acc' (fun b o hb e => ?_) hL' hacc.1 hacc.2⟩
  have hbL : b ≠ s.heap.objs.size := Nat.ne_of_lt (Heap.lt_size e)
  exact hmv.heap b o (by simp [hb, hbL]) (up2 b o hbL e)
end
end Mine
end
section
namespace Mine
open PySem PySem.W PySem.Calls PyProof.Rows PyProof.Rows.LCg
section
variable {prog : Program} {w : World} {A : Around} {E : Value → Shared → Prop} {s : Shared} {h₀ : Heap} {L : Addr} {m : Str → Option Value} {news : List (Addr × Obj)} {Q : Value → Shared → Prop}
noncomputable abbrev setOb (es : Array (Int × Value)) (ep : Nat) (tb : SetTable) : Obj := { cls := .type "set", data := .set es ep tb }
theorem set_N {l : Addr} {us : List Value} {n : Nat} {ss : List Str} (F : Fr h₀ L s.heap m) (N : News h₀ L s.heap news) (hh : A.handled = none) (hl : (l, W.listOf us.toArray n) ∈ news) (W : Wrd us.toArray ss) (hb : ss.length < 4000)
    (h : ∀ (S : Addr) (h' : Heap) (tk c : Nat) (es : Array (Int × Value)) (ep : Nat) (tb : SetTable), Fr h₀ L h' m → News h₀ L h' ((S, setOb es ep tb) :: news) → (∀ p ∈ news, p.1 < S) → c < scanBound → (setOb es ep tb).SetObjOf (PySem.strKind prog w) (fun k => ss.any (· == k)) c → Q (.ref S) { s with heap := h', toks := tk }) :
    wpAny (model prog w) A (call (.type "set") [.ref l]) Q E s := by
  refine call_set_strs (ss := ss) hh (l := l) ⟨_, N.get hl, rfl, _, rfl⟩ W.2 W.1 (by rw [← W.1]; unfold scanBound; lia) fun h4 tk4 c4 hc4 hS4 he4 => ?_
  obtain ⟨o, ho, hoS⟩ := Heap.SetOf.objOf hS4
  obtain ⟨oc, od, dat, sl⟩ := o
  obtain ⟨⟨ho1, ho2, ho3⟩, es, ep, tb, ho4, hr⟩ := id hoS
  simp only at ho1 ho2 ho3 ho4
  subst ho1 ho2 ho3 ho4
  exact h _ h4 tk4 c4 es ep tb (F.keeps he4) (pushed F (N.grown he4) (Nat.le_refl _) ho) (lt_new N (Nat.le_refl _)) (by unfold scanBound; have := W.1; lia) hoS
theorem contains_N {S : Addr} {es : Array (Int × Value)} {ep : Nat} {tb : SetTable} (F : Fr h₀ L s.heap m) (N : News h₀ L s.heap news) (hS : (S, setOb es ep tb) ∈ news)
    (h : ∀ (b : Addr) (h' : Heap) (tk : Nat), Fr h₀ L h' m → News h₀ L h' ((b, boundObj S) :: news) → (∀ p ∈ news, p.1 < b) → Q (.ref b) { s with heap := h', toks := tk }) :
    wpAny (model prog w) A (getAttr (.ref S) (Str.ofString "__contains__") true) Q E s := by
  have z := h s.heap.objs.size (s.heap.push (boundObj S)) (s.toks + 1) (F.push _) (N.push F _) (lt_new N (Nat.le_refl _))
  have hx := N.get hS
  obtain ⟨hp, g, d, t, os⟩ := s
  exact contains_attr hx z
theorem filter_N {b l : Addr} {us : List Value} {n : Nat} (F : Fr h₀ L s.heap m) (N : News h₀ L s.heap news) (hl : (l, W.listOf us.toArray n) ∈ news)
    (h : ∀ (f it : Addr) (h' : Heap), Fr h₀ L h' m → News h₀ L h' ((f, filtObj b it) :: (it, { cls := .type "list_iterator", data := .fields #[.ref l, .int 0 0] }) :: news) → (∀ p ∈ news, p.1 < it) → @LT.lt Nat _ it f → Q (.ref f) { s with heap := h' }) :
    wpAny (model prog w) A (call (.type "filter") [.ref b, .ref l]) Q E s := by
  have hL : s.heap.IsList l us.toArray := ⟨_, N.get hl, rfl, _, rfl⟩
  refine callType_new called_filter (by decide) (typeCall_filter_2 _ _) (newCall_filter_2 _ _) (fun obj => PySem.F.args_object_init_3 obj _ _) entry_filter_new (meets_filter_new b l us.toArray) ⟨hL, ?_⟩
  have N2 := (N.push F { cls := .type "list_iterator", data := .fields #[.ref l, .int 0 0] }).push (F.push _) (filtObj b s.heap.objs.size)
  have e2 := N2 _ List.mem_cons_self
  have z1 : (s.heap.push { cls := .type "list_iterator", data := .fields #[.ref l, .int 0 0] }).objs.size = s.heap.objs.size + 1 := Heap.size_push ..
  show _ ∧ _
  exact ⟨⟨_, e2.1, rfl⟩, h _ _ _ ((F.push _).push _) N2 (lt_new N (Nat.le_refl _)) (by rw [z1]; exact Nat.lt_succ_self _)⟩
theorem list_N {f b l it S : Addr} {us : List Value} {n c : Nat} {es : Array (Int × Value)} {ep : Nat} {tb : SetTable} {T : Str → Bool} {ss : List Str} (F : Fr h₀ L s.heap m) (N : News h₀ L s.heap ((f, filtObj b it) :: (it, { cls := .type "list_iterator", data := .fields #[.ref l, .int 0 0] }) :: news)) (hh : A.handled = none)
    (hb : (b, boundObj S) ∈ news) (hl : (l, W.listOf us.toArray n) ∈ news) (hS : (S, setOb es ep tb) ∈ news) (hc : c < scanBound) (hT : (setOb es ep tb).SetObjOf (PySem.strKind prog w) T c) (Wr : Wrd us.toArray ss) (hsz : ss.length ≤ 10000) (hlt : ∀ p ∈ news, p.1 < it) (hif : @LT.lt Nat _ it f)
    (h : ∀ (D : Addr) (h' : Heap) (tk c' : Nat) (zs : List Value), Fr h₀ L h' m → News h₀ L h' ((D, W.listOf zs.toArray c') :: news) → (∀ p ∈ news, p.1 < D) → Wrd zs.toArray (ss.filter T) → Q (.ref D) { s with heap := h', toks := tk }) :
    wpAny (model prog w) A (call (.type "list") [.ref f]) Q E s := by
  have ef := N (f, filtObj b it) List.mem_cons_self
  have eit := N (it, { cls := .type "list_iterator", data := .fields #[.ref l, .int 0 0] }) (List.mem_cons_of_mem _ List.mem_cons_self)
  have up : ∀ {p : Addr × Obj}, p ∈ news → p ∈ (f, filtObj b it) :: (it, { cls := .type "list_iterator", data := .fields #[.ref l, .int 0 0] }) :: news := fun hp => List.mem_cons_of_mem _ (List.mem_cons_of_mem _ hp)
  refine call_list_filt (n := c) (T := T) hh Wr (Nat.ne_of_gt hif) (Nat.ne_of_lt (hlt _ hb)) (Nat.ne_of_lt (hlt _ hS)) (Nat.ne_of_lt (hlt _ hl)) (by rw [← Wr.1]; exact hsz) ef.1 (N.get (up hb)) (hT.setOf (N.get (up hS)) hc) ⟨_, N.get (up hl), rfl, _, rfl⟩ ⟨_, eit.1, rfl, rfl⟩ fun h' tk c' acc hk hD hlen hacc => ?_
  have F' : Fr h₀ L h' m := turned (o₁ := filtObj b it) (o₂ := filtObj b it) F eit.2.2 eit.2.1 fun b o hb e => hk b o hb e
  have ltD : ∀ p ∈ news, p.1 < s.heap.objs.size := fun p hp => lt_new N (Nat.le_refl _) p (up hp)
  refine h s.heap.objs.size h' tk c' acc.toList F' (fun p hp => ?_) ltD ⟨?_, fun i v hv => hacc i v (by simpa using hv)⟩
  · rcases List.mem_cons.mp hp with rfl | hp
    · refine ⟨by simpa using hD, Nat.ne_of_gt F.ns.lt, ?_⟩
      cases e : h₀.get? s.heap.objs.size with
      | none => rfl
      | some o => exact absurd (Heap.lt_size (F.keep _ o e)) (Nat.lt_irrefl _)
    · exact ⟨hk _ _ (Nat.ne_of_lt (hlt p hp)) (N p (up hp)).1, (N p (up hp)).2⟩
  · simpa using hlen.symm
end
end Mine
end
section
open PySem PySem.W PySem.Calls PyProof.Rows PyProof.Rows.LCg
open PySem (strKind)
namespace Mine
local macro_rules | `(tactic| k_handed) => `(tactic| assumption)
local macro_rules | `(tactic| walk_at $k) => Mine.stopAt ["call ref"] k
inductive StopIf : Prop where | mk
local macro_rules | `(tactic| walk_at "eval IfExp") => `(tactic| (rename StopIf => shX; clear shX; k_here; refine Stop.out ?_))
theorem gh_base {h₀ h : Heap} {obs : List (Addr × Obj)} (hk : Ext h₀ h) (O : ∀ p ∈ obs, h₀.get? p.1 = none) : Ext h₀ (gh h obs) := fun b o e => gh_get (hk b o e) fun p hp q => by
  have := O p hp
  rw [q, e] at this
  cases this
theorem ghosted {h₀ h h₁ : Heap} {L : Addr} {m : Str → Option Value} {obs : List (Addr × Obj)} (hk : Ext h₀ h) (O : ∀ p ∈ obs, h.get? p.1 = some p.2 ∧ h₀.get? p.1 = none) (F : Fr h L h₁ m) :
    ∃ g, Ext h₀ g ∧ Fr g L h₁ m ∧ News g L h₁ obs ∧ (∀ b o, (∀ p ∈ obs, p.1 ≠ b) → h.get? b = some o → g.get? b = some o) ∧ g.objs.size = h.objs.size :=
  ⟨gh h obs, gh_base hk fun p hp => (O p hp).2, gh_fr F obs, gh_news F (News.nil) (fun p hp => (O p hp).1), fun b o hn e => gh_get e hn, hideAll_size _ _⟩
theorem ext_back {h g h' : Heap} {h₀ : Heap} {obs : List (Addr × Obj)} (gk : ∀ b o, (∀ p ∈ obs, p.1 ≠ b) → h.get? b = some o → g.get? b = some o) (O : ∀ p ∈ obs, h.get? p.1 = some p.2 ∧ h₀.get? p.1 = none) (hk : Ext g h') (hN : ∀ p ∈ obs, h'.get? p.1 = some p.2) : Ext h h' := fun b o e => by
  by_cases hb : ∃ p ∈ obs, p.1 = b
  · obtain ⟨p, hp, rfl⟩ := hb
    have := (O p hp).1
    rw [e] at this
    rw [hN p hp, this]
  · exact hk b o (gk b o (fun p hp x => hb ⟨p, hp, x⟩) e)
noncomputable def lastV (a b : Value) : Value := match b with
  | .none => a
  | v => v
noncomputable abbrev entObs (P : Params) (x dx a r : Addr) (t1 t2 t3 t4 : Tok) (us rs : List Value) (n1 n2 : Nat) (dl rr : Value) : List (Addr × Obj) :=
  [(x, instObj 59 dx), (dx, entDict P t1 t2 t3 t4 (.ref a) (.ref r) dl rr), (a, W.listOf us.toArray n1), (r, W.listOf rs.toArray n2)]
theorem merge_spec {prog : Program} {w : World} {A : Around} {E : Value → Shared → Prop} {s : Shared} {h₀ : Heap} {mean : ExcName → Option Value} {mg mb : PySem.Str → Option Value} {ls : List Str} {Q : Value → Shared → Prop}
   {x dx a r y dy b c : Addr} {t1 t2 t3 t4 u1 u2 u3 u4 : Tok} {us vs rs qs : List Value} {n1 n2 n3 n4 : Nat} {dl rr dl2 rr2 : Value} {ri qi : List Int} {uz vz : List Str}
   (X : (K w.params).In h₀) (T : Top topProg ls mean mg mb h₀) (hk : Ext h₀ s.heap) (hh : A.handled = none) (hd : A.depth + 20 < recursionLimit) (hu : A.units + 100 < cLine)
   (O : ∀ p ∈ entObs w.params x dx a r t1 t2 t3 t4 us rs n1 n2 dl rr ++ entObs w.params y dy b c u1 u2 u3 u4 vs qs n3 n4 dl2 rr2, s.heap.get? p.1 = some p.2 ∧ h₀.get? p.1 = none)
   (hvz : Wrd vs.toArray vz) (hv60 : vz.length ≤ 60) (huz : Wrd us.toArray uz) (hu60 : uz.length ≤ 60)
   (hri : IntsAre rs ri) (hqi : IntsAre qs qi) (hr20 : ri.length ≤ 100) (hq20 : qi.length ≤ 100)
   (hdl : handedIn dl = true) (hrr : handedIn rr = true) (hdl2 : dl2 = .none ∨ ∃ i t, dl2 = .int i t) (hrr2 : rr2 = .none ∨ ∃ i t, rr2 = .int i t)
   (hQ : ∀ (h' : Heap) (tk : Nat) (z dz la lr : Addr) (v1 v2 v3 v4 : Tok) (zs ws : List Value) (k1 k2 : Nat), Ext s.heap h' → s.heap.objs.size ≤ dz → @LT.lt Nat _ dz z → @LT.lt Nat _ z la → @LT.lt Nat _ la lr → (∀ p ∈ entObs w.params z dz la lr v1 v2 v3 v4 zs ws k1 k2 (lastV dl dl2) (lastV rr rr2), h'.get? p.1 = some p.2) →
      Wrd zs.toArray (uz.filter fun k => vz.any (· == k)) → IntsAre ws (ri ++ qi) → Q (.ref z) {s with heap := h', toks := tk}) :
   wpAny (model prog w) A (call (.ref 70) [.ref x, .ref y]) Q E s := by
  have X0 := Frag.In.keeps X hk
  have T0 := T.keeps hk
  k_dflt (refine' enterE [(Str.ofString "e1", .ref x), (Str.ofString "e2", .ref y)] X0 T0.nolimit ?k1 ?k2 (by lia) ?kb ?ks ?k3 ?k4 ?k5 ?k6 ?k7 ?k8 ?_)
  case k1 => k_dflt k_is
  case k2 => k_dflt k_is
  case kb => conv => lhs; whnf
  case ks => conv => lhs; whnf
  case k3 => exact BindsTo.of_eq rfl
  case k4 => exact locs rfl
  case k5 => decide
  case k6 => exact rfl
  case k7 => exact rfl
  case k8 => exact rfl
  intro h₁ L F0 N0
  obtain ⟨g, kx, F, N, gk, gs⟩ := ghosted hk O F0
  have X' := Frag.In.keeps X kx
  have T' := T.keeps kx
  have TR := topRead_of T'
  clear X0 T0 F0 N0
  simp only [entObs, List.cons_append, List.nil_append] at N
  k_steps
  refine Stop.mk (entry_new (Frag.In.keeps X' F.keep) (TR.keeps F.keep) (by show A.depth + 1 + 5 < _; lia) fun h2 tk2 z dz l1 l2 v1 v2 v3 v4 he2 hdz hzx hzl hll ez edz el1 el2 => ?_)
  have F2 := F.keeps he2
  have hsz : s.heap.objs.size ≤ dz := Nat.le_trans (gs ▸ F.above) (Nat.le_trans (Nat.le_of_lt F.ns.lt) hdz)
  have hz1 := Nat.le_trans hdz (Nat.le_of_lt hzx)
  have hz2 := Nat.le_trans hz1 (Nat.le_of_lt hzl)
  have hz3 := Nat.le_trans hz2 (Nat.le_of_lt hll)
  have N2 := pushed F (N.grown he2) hz3 el2
  have N2 := pushed F N2 hz2 el1
  have N2 := pushed F N2 hdz edz
  have N2 := pushed F N2 hz1 ez
  have q1 := allLt_of (lt_new N hdz)
  have q2 := allLt_of (lt_new N hz1)
  have q3 := allLt_of (lt_new N hz2)
  have q4 := allLt_of (lt_new N hz3)
  simp only [AllLt] at q1 q2 q3 q4
  have q5 : @LT.lt Nat _ dz l1 := Nat.lt_trans hzx hzl
  have q6 : @LT.lt Nat _ dz l2 := Nat.lt_trans q5 hll
  have q7 : @LT.lt Nat _ z l2 := Nat.lt_trans hzl hll
  clear F N
  k_steps
  rename Fr _ _ _ _ => F3
  rename News _ _ _ _ => N3
  refine set_N (l := b) F3 N3 hh (by k_mem) hvz (by lia) fun S h4 tk4 c4 es ep tb F4 N4 l4 hc4 hT4 => ?_
  have l4' := allLt_of l4
  simp only [AllLt] at l4'
  clear F3 N3
  k_steps
  refine contains_N (S := S) (es := es) (ep := ep) (tb := tb) F4 N4 (by k_mem) fun m5 h5 tk5 F5 N5 l5 => ?_
  have l5' := allLt_of l5
  simp only [AllLt] at l5'
  clear F4 N4
  k_steps
  rename Fr _ _ _ _ => F6
  rename News _ _ _ _ => N6
  refine filter_N (l := a) (us := us) F6 N6 (by k_mem) fun f it h7 F7 N7 l7 q7 => ?_
  have l7' := allLt_of l7
  simp only [AllLt] at l7'
  clear F6 N6
  k_steps
  refine list_N (T := fun k => vz.any (· == k)) (ss := uz) F7 N7 hh (b := m5) (l := a) (S := S) (es := es) (ep := ep) (tb := tb) (us := us) (n := n1) (by k_mem) (by k_mem) (by k_mem) hc4 hT4 huz (by lia) l7 q7 fun D h8 tk8 c8 zs F8 N8 l8 hzs => ?_
  have l8' := allLt_of l8
  simp only [AllLt] at l8'
  clear F7 N7
  have hlv : handedIn (lastV dl dl2) = true := by rcases hdl2 with rfl | ⟨i, t, rfl⟩ <;> first | exact hdl | rfl
  have hlr : handedIn (lastV rr rr2) = true := by rcases hrr2 with rfl | ⟨i, t, rfl⟩ <;> first | exact hrr | rfl
  have sh : StopIf := ⟨⟩
  k_steps
  rename Heap => h9
  rename IntsAre _ (ri ++ qi) => hI9
  rename D < _ ∧ m5 < _ ∧ _ => hl9
  have hl9 := hl9.1
  refine Stop.mk (cutQ (fun Q' => ∀ tk, Q' (lastV dl dl2) { s with heap := h9, toks := tk }) (fun Q' hq => ?_) fun tk9 => ?_)
  · rcases hdl2 with rfl | ⟨i, t, rfl⟩
    · k_steps
      exact hq _
    · k_steps
      exact hq _
  have sh : StopIf := ⟨⟩
  k_steps
  rename Heap => h10
  refine Stop.mk (cutQ (fun Q' => ∀ tk, Q' (lastV rr rr2) { s with heap := h10, toks := tk }) (fun Q' hq => ?_) fun tk10 => ?_)
  · rcases hrr2 with rfl | ⟨i, t, rfl⟩
    · k_steps
      exact hq _
    · k_steps
      exact hq _
  k_steps
  rename Fr _ _ _ _ => F9
  rename News _ _ _ _ => N9
  refine hQ _ _ z dz D _ v1 v2 v3 v4 zs _ c8 0 (ext_back gk O F9.keep fun p hp => (N9 p (by
    repeat (first | exact hp | refine List.mem_cons_of_mem _ ?_))).1) hsz hzx (by lia) hl9 (fun p hp => ?_) hzs hI9
  simp only [List.mem_cons, List.mem_nil_iff, or_false] at hp
  rcases hp with rfl | rfl | rfl | rfl
  · exact N9.get (a := z) (by k_mem)
  · exact N9.get (a := dz) (by k_mem)
  · exact N9.get (a := D) (by k_mem)
  · exact N9.get (by k_mem)
end Mine
end
section
open PySem PySem.W PySem.Calls PyProof.Rows PyProof.Rows.LCg
open PySem (strKind)
namespace Mine
local macro_rules | `(tactic| k_handed) => `(tactic| assumption)
local macro_rules | `(tactic| walk_at $k) => Mine.stopAt ["call ref", "exec For Name Attribute cons nil"] k
theorem strsAre_of : ∀ {us : List Value} {uz : List Str}, Wrd us.toArray uz → StrsAre us uz
  | [], [], _ => .nil
  | [], _ :: _, h => by simp [Wrd] at h
  | _ :: _, [], h => by simp [Wrd] at h
  | v :: us, z :: uz, h => by
    obtain ⟨z', t, rfl, hz⟩ := h.2 0 v rfl
    obtain rfl : z = z' := by simpa using hz
    refine .cons _ _ (strsAre_of ⟨by simpa using h.1, fun i v hv => ?_⟩)
    obtain ⟨z', t, e1, e2⟩ := h.2 (i + 1) v (by simpa using hv)
    exact ⟨z', t, e1, by simpa using e2⟩
noncomputable def occ (x y : Str) : Bool := !(Builtin.Str.occurrences x y 0 x.length 1).isEmpty
noncomputable def hits (lw z : Str) : Bool := (z != Str.ofString "*") && occ lw (Txt.lower z)
theorem hits_step {uz : List Str} {lw z : Str} {i : Nat} (hno : ∀ j z, j < i → uz[j]? = some z → hits lw z = false) (hz : uz[i]? = some z) (e1 : hits lw z = false) : ∀ j y, j < i + 1 → uz[j]? = some y → hits lw y = false := fun j y hj hy => by
  rcases Nat.lt_or_ge j i with h | h
  · exact hno j y h hy
  · obtain rfl : j = i := by lia
    rw [hz] at hy
    cases hy
    exact e1
theorem applies_str {prog : Program} {w : World} {A : Around} {E : Value → Shared → Prop} {s : Shared} {h₀ : Heap} {mean : ExcName → Option Value} {mg mb : PySem.Str → Option Value} {ls : List Str} {Q : Value → Shared → Prop}
   {x dx a r : Addr} {t1 t2 t3 t4 tu : Tok} {us rs : List Value} {n1 n2 : Nat} {dl rr : Value} {uz : List Str} {ua fw lw : Str}
   (X : (K w.params).In h₀) (T : Top topProg ls mean mg mb h₀) (hk : Ext h₀ s.heap) (hh : A.handled = none) (hd : A.depth + 20 < recursionLimit) (hu : A.units + 100 < cLine)
   (O : ∀ p ∈ entObs w.params x dx a r t1 t2 t3 t4 us rs n1 n2 dl rr, s.heap.get? p.1 = some p.2 ∧ h₀.get? p.1 = none)
   (hdl : handedIn dl = true) (hrr : handedIn rr = true) (huz : Wrd us.toArray uz) (hu60 : uz.length ≤ 60) (hual : ua.length ≤ 400) (hsp : (Txt.split ua (Str.ofString "/"))[0]? = some fw) (hfw : fw.length ≤ 400) (hlw : Txt.lower fw = lw) (hlw4 : lw.length ≤ 1200)
   (hlow : ∀ z ∈ uz, z.length ≤ 10)
   (hQ : ∀ (h' : Heap) (tk : Nat), Ext s.heap h' → Q (.bool (uz.any (hits lw))) {s with heap := h', toks := tk}) :
   wpAny (model prog w) A (call (.ref 49) [.ref x, .str ua tu]) Q E s := by
  have X0 := Frag.In.keeps X hk
  have T0 := T.keeps hk
  k_dflt (refine' enterE [(Str.ofString "self", .ref x), (Str.ofString "useragent", .str ua tu)] X0 T0.nolimit ?k1 ?k2 (by lia) ?kb ?ks ?k3 ?k4 ?k5 ?k6 ?k7 ?k8 ?_)
  case k1 => k_dflt k_is
  case k2 => k_dflt k_is
  case kb => conv => lhs; whnf
  case ks => conv => lhs; whnf
  case k3 => exact BindsTo.of_eq rfl
  case k4 => exact locs rfl
  case k5 => decide
  case k6 => exact rfl
  case k7 => exact rfl
  case k8 => exact rfl
  intro h₁ L F0 N0
  obtain ⟨g, kx, F, N, gk, gs⟩ := ghosted hk O F0
  have X' := Frag.In.keeps X kx
  have T' := T.keeps kx
  have TR := topRead_of T'
  clear X0 T0 F0 N0
  simp only [entObs, List.cons_append, List.nil_append] at N
  k_steps
  rename (List.map _ _)[Int.toNat 0]? = some _ => hy
  rename List.map _ _ = Txt.split ua _ => hsp2
  rw [hsp2, show Int.toNat 0 = 0 from rfl, hsp] at hy
  obtain rfl := Option.some.inj hy
  refine SCL.lower (Nat.le_trans hfw (by decide)) fun _ => ?_
  rw [hlw]
  k_steps
  rename Fr _ _ _ _ => F1
  rename News _ _ _ _ => N1
  refine Stop.mk (forP (h₀ := g) (L := L) rfl ?_)
  k_steps
  rename Fr _ _ _ _ => F2
  rename News _ _ _ _ => N2
  refine ⟨[], [a], uz.length, fun i v _ => us.toArray[i]? = some v, _, _, fun i m => (∀ j z, j < i → uz[j]? = some z → hits lw z = false) ∧ ∃ t, Holds m [(Str.ofString "self", .ref x), (Str.ofString "useragent", .str lw t)],
    starts_list' huz.1.symm hh ⟨_, N2.get (a := a) (by k_mem), rfl, _, rfl⟩, F2, N2, (fun _ h => nomatch h), ⟨fun j z hj => absurd hj (Nat.not_lt_zero _), _, rfl, rfl, trivial⟩, ?_, ?_⟩
  · intro i v m₁ tail s₁ E' Q' hi F₁ N₁ hq hr hs hv hj
    obtain ⟨hno, tx, hm⟩ := hj
    have F₂ := pins F₁ hm
    clear F₁ hm F2 N2
    obtain ⟨z, tz, rfl, hz⟩ := huz.2 i v hv
    have hz10 : z.length ≤ 10 := hlow z (List.mem_of_getElem? hz)
    k_steps
    · rename List.isEmpty _ = true => hemp
      rename (z != _) = true => hst
      rename Fr _ _ _ _ => F4
      rename News _ _ _ _ => N4
      exact hq _ _ _ _ F4 N4 (fun p hp => List.mem_append_right _ hp) ⟨hits_step hno hz (by unfold hits occ; rw [hemp]; simp), tx, rfl, rfl, trivial⟩
    · rename List.isEmpty _ = false => hemp
      rename (z != _) = true => hst
      rename Fr _ _ _ _ => F4
      rename News _ _ _ _ => N4
      have e : uz.any (hits lw) = true := List.any_eq_true.mpr ⟨z, List.mem_of_getElem? hz, by unfold hits occ; rw [hemp, hst]; rfl⟩
      have q := fun tk => hQ _ tk (ext_back gk O F4.keep fun p hp => (N4 p (List.mem_append_left _ (List.mem_cons_of_mem _ hp))).1)
      simp only [e] at q
      obtain ⟨hh9, tk9, rfl⟩ := hs
      exact hr _ _ (q _)
    · rename (z != _) = false => hst
      rename Fr _ _ _ _ => F4
      rename News _ _ _ _ => N4
      exact hq _ _ _ _ F4 N4 (fun p hp => List.mem_append_right _ hp) ⟨hits_step hno hz (by unfold hits; rw [hst]; rfl), tx, rfl, rfl, trivial⟩
  · intro h9 tk9 m' F9 N9 hj
    obtain ⟨hno, tx, hm⟩ := hj
    have F10 := pins F9 hm
    clear F9 hm
    k_steps
    rename Fr _ _ _ _ => F11
    rename News _ _ _ _ => N11
    have e : uz.any (hits lw) = false := by
      rw [List.any_eq_false]
      intro z hz
      obtain ⟨j, hj⟩ := List.mem_iff_getElem?.mp hz
      rw [hno j z (List.getElem?_eq_some_iff.mp hj).1 hj]
      exact Bool.false_ne_true
    have q := fun tk => hQ _ tk (ext_back gk O F11.keep fun p hp => (N11 p (List.mem_cons_of_mem _ hp)).1)
    simp only [e] at q
    exact q _
theorem applies_none {prog : Program} {w : World} {A : Around} {E : Value → Shared → Prop} {s : Shared} {h₀ : Heap} {mean : ExcName → Option Value} {mg mb : PySem.Str → Option Value} {ls : List Str} {Q : Value → Shared → Prop}
   {x dx a r : Addr} {t1 t2 t3 t4 : Tok} {us rs : List Value} {n1 n2 : Nat} {dl rr : Value} {uz : List Str}
   (X : (K w.params).In h₀) (T : Top topProg ls mean mg mb h₀) (hk : Ext h₀ s.heap) (hh : A.handled = none) (hd : A.depth + 20 < recursionLimit) (hu : A.units + 100 < cLine)
   (O : ∀ p ∈ entObs w.params x dx a r t1 t2 t3 t4 us rs n1 n2 dl rr, s.heap.get? p.1 = some p.2 ∧ h₀.get? p.1 = none)
   (hdl : handedIn dl = true) (hrr : handedIn rr = true) (huz : Wrd us.toArray uz) (hu60 : uz.length ≤ 60)
   (hQ : ∀ (h' : Heap) (tk : Nat), Ext s.heap h' → Q (.bool (uz.any (· == Str.ofString "*"))) {s with heap := h', toks := tk}) :
   wpAny (model prog w) A (call (.ref 49) [.ref x, .none]) Q E s := by
  have X0 := Frag.In.keeps X hk
  have T0 := T.keeps hk
  k_dflt (refine' enterE [(Str.ofString "self", .ref x), (Str.ofString "useragent", .none)] X0 T0.nolimit ?k1 ?k2 (by lia) ?kb ?ks ?k3 ?k4 ?k5 ?k6 ?k7 ?k8 ?_)
  case k1 => k_dflt k_is
  case k2 => k_dflt k_is
  case kb => conv => lhs; whnf
  case ks => conv => lhs; whnf
  case k3 => exact BindsTo.of_eq rfl
  case k4 => exact locs rfl
  case k5 => decide
  case k6 => exact rfl
  case k7 => exact rfl
  case k8 => exact rfl
  intro h₁ L F0 N0
  obtain ⟨g, kx, F, N, gk, gs⟩ := ghosted hk O F0
  have X' := Frag.In.keeps X kx
  have T' := T.keeps kx
  have TR := topRead_of T'
  clear X0 T0 F0 N0
  simp only [entObs, List.cons_append, List.nil_append] at N
  have hst := strsAre_of huz
  k_steps
  rename Fr _ _ _ _ => F1
  rename News _ _ _ _ => N1
  exact hQ _ _ (ext_back gk O F1.keep fun p hp => (N1 p hp).1)
end Mine
end
section
open PySem PySem.W PySem.Calls PyProof.Rows PyProof.Rows.LCg
namespace Mine
noncomputable def mkS (l : List Nat) : Str := ⟨l.toArray⟩
noncomputable def ownZ (az : List Str) (wd : Str) : List Str := (az.reverse.filter fun z => !occ wd (Txt.lower z)) ++ [Str.ofString "*"]
noncomputable def startZ (az : List Str) : List Str := Str.ofString "*" :: (az ++ az.take 2)
noncomputable def mergedZ (az : List Str) (wcs : List (List Nat)) (sk : List Nat) : List Str := sk.foldl (fun M p => M.filter fun k => (ownZ az (mkS (wcs.getD p []))).any (· == k)) (startZ az)
noncomputable def rulesZ (count : Nat) (sk : List Nat) : List Int := sk.foldl (fun (R : List Int) (p : Nat) => R ++ [((p : Nat) : Int), ((p : Nat) : Int)]) [(count : Int)]
noncomputable def delayZ (sk : List Nat) : Option Nat := sk.foldl (fun d p => if p % 2 = 1 then some (p / 2) else d) none
noncomputable def rateZ (count : Nat) (sk : List Nat) : Option Nat := sk.foldl (fun d p => if p % 2 = 0 then some (p / 2) else d) (some count)
end Mine
namespace Mine
noncomputable def sgnM (k m : Nat) : Int := if k % 2 = 0 then (m : Int) else -(m : Int)
theorem sgn_ne {k m : Nat} (h : 1 < m) : sgnM k m ≠ 0 := by unfold sgnM; split <;> lia
theorem sgn_abs {k m : Nat} : (sgnM k m).natAbs = m := by unfold sgnM; split <;> lia
noncomputable def kc (k : Nat) : Nat := [107, 109, 110, 112, 103].getD k 0
noncomputable def lc (j : Nat) : Nat := [97, 98, 99, 100, 101, 102, 104, 105, 106, 108, 111].getD j 0
noncomputable def resN (first : Int) (k m i : Nat) : Nat := ((first + (i : Nat)).fmod (sgnM k m)).natAbs
noncomputable def pairW (first : Int) (mn : List Nat) (i k : Nat) : List Nat := [kc k, lc (resN first k (mn.getD k 0) i)]
noncomputable def wordC (first : Int) (mn : List Nat) (i : Nat) : List Nat := (List.range mn.length).flatMap (pairW first mn i)
theorem res_lt (first : Int) (k m i : Nat) (h : 0 < m) : resN first k m i < m := by
  unfold resN sgnM
  split
  · have h1 := Int.fmod_nonneg_of_pos (first + (i : Nat)) (b := (m : Int)) (by lia)
    have h2 := Int.fmod_lt_of_pos (first + (i : Nat)) (b := (m : Int)) (by lia)
    lia
  · have h1 : (first + (i : Nat)).fmod (-(m : Int)) = -((-(first + (i : Nat))).fmod (m : Int)) := by
      have := Int.neg_fmod_neg (a := -(first + (i : Nat))) (b := (m : Int))
      rw [Int.neg_neg] at this
      exact this
    have h2 := Int.fmod_nonneg_of_pos (-(first + (i : Nat))) (b := (m : Int)) (by lia)
    have h3 := Int.fmod_lt_of_pos (-(first + (i : Nat))) (b := (m : Int)) (by lia)
    lia
end Mine
namespace Mine
theorem mk_app (a b : List Nat) : mkS a ++ mkS b = mkS (a ++ b) := by
  show (⟨a.toArray ++ b.toArray⟩ : Str) = ⟨(a ++ b).toArray⟩
  rw [List.append_toArray]
theorem join_mk {α : Type} (f : α → List Nat) : ∀ l : List α, Str.join (Str.ofString "") (l.map fun k => mkS (f k)) = mkS (l.flatMap f)
  | [] => rfl
  | [x] => by
    show mkS (f x) = mkS (f x ++ [])
    rw [List.append_nil]
  | x :: y :: r => by
    show mkS (f x) ++ Str.ofString "" ++ Str.join (Str.ofString "") ((y :: r).map fun k => mkS (f k)) = _
    rw [join_mk f (y :: r), show Str.ofString "" = mkS [] from rfl, mk_app, mk_app, List.append_nil]
    rfl
theorem tjoin_mk {α : Type} (f : α → List Nat) (l : List α) : Txt.join (Str.ofString "") (l.map fun k => mkS (f k)) = mkS (l.flatMap f) := by
  show Builtin.Str.glued _ _ = _
  rw [StrLaws.glued_eq_join, join_mk]
theorem len_pairs (first : Int) (mn : List Nat) (i : Nat) (l : List Nat) : ((l.map fun k => mkS (pairW first mn i k)).map (·.length)).sum = 2 * l.length := by
  induction l with
  | nil => rfl
  | cons a r ih =>
    simp only [List.map_cons, List.sum_cons, List.length_cons]
    rw [ih]
    show 2 + _ = _
    lia
end Mine
namespace Mine
noncomputable def agentZ (i : Nat) (z : Str) : Str := if i % 2 = 0 then Txt.upper z else z
noncomputable def sickIn (wcs : List (List Nat)) (a : Str) (sk : List Nat) : List Nat := sk.filter fun p => occ (mkS (wcs.getD p [])) (Txt.lower a)
noncomputable def leftZ (az : List Str) (wcs : List (List Nat)) (sk : List Nat) : List Str := (az ++ az.take 2).filter fun a => (sickIn wcs a sk).isEmpty
end Mine
namespace Mine
noncomputable def everyP (mn : List Nat) (n : Nat) : List (List Nat) := (List.range n).flatMap fun k => (List.range (mn.getD k 0)).map fun j => [kc k, lc j]
theorem every_succ (mn : List Nat) (n : Nat) : everyP mn (n + 1) = everyP mn n ++ (List.range (mn.getD n 0)).map fun j => [kc n, lc j] := by
  unfold everyP
  rw [List.range_succ, List.flatMap_append]
  simp
theorem item_k : ∀ j : Nat, j < 5 → Txt.item (Str.ofString "kmnpg") (j : Int) = ⟨#[kc j]⟩ := by decide
theorem item_l : ∀ j : Nat, j < 11 → Txt.item (Str.ofString "abcdefhijlo") (j : Int) = ⟨#[lc j]⟩ := by decide
theorem every_len (mn : List Nat) (h : ∀ z ∈ mn, z ≤ 11) : ∀ n, n ≤ mn.length → (everyP mn n).length ≤ 11 * n
  | 0, _ => Nat.zero_le _
  | n + 1, hn => by
    have ih := every_len mn h n (by lia)
    rw [every_succ, List.length_append, List.length_map, List.length_range]
    have : mn.getD n 0 ≤ 11 := by
      rw [List.getD_eq_getElem?_getD, List.getElem?_eq_getElem (by lia)]
      exact h _ (List.getElem_mem _)
    lia
end Mine
namespace Mine
theorem merged_step (az : List Str) (wcs : List (List Nat)) (l : List Nat) (p : Nat) : mergedZ az wcs (l ++ [p]) = (mergedZ az wcs l).filter fun k => (ownZ az (mkS (wcs.getD p []))).any (· == k) := by
  simp only [mergedZ, List.foldl_append, List.foldl_cons, List.foldl_nil]
theorem rules_step (c : Nat) (l : List Nat) (p : Nat) : rulesZ c (l ++ [p]) = rulesZ c l ++ [(p : Int), (p : Int)] := by
  simp only [rulesZ, List.foldl_append, List.foldl_cons, List.foldl_nil]
theorem delay_step (l : List Nat) (p : Nat) : delayZ (l ++ [p]) = (if p % 2 = 1 then some (p / 2) else none).or (delayZ l) := by
  simp only [delayZ, List.foldl_append, List.foldl_cons, List.foldl_nil]
  split <;> rfl
theorem rate_step (c : Nat) (l : List Nat) (p : Nat) : rateZ c (l ++ [p]) = (if p % 2 = 0 then some (p / 2) else none).or (rateZ c l) := by
  simp only [rateZ, List.foldl_append, List.foldl_cons, List.foldl_nil]
  split <;> rfl
end Mine
end
section
open PySem PySem.W PySem.Calls PyProof.Rows PyProof.Rows.LCg PySem.Builtin.Str
namespace Mine
theorem occ_iff (x y : List Nat) : occ (mkS x) (mkS y) = true ↔ ∃ i, i + y.length ≤ x.length ∧ (x.drop i).take y.length = y := by
  unfold occ
  rw [StrLaws.found_iff]
  constructor
  · rintro ⟨i, h1, h2⟩
    rw [StrLaws.subAt_eq] at h2
    exact ⟨i, h1, eq_of_beq h2⟩
  · rintro ⟨i, h1, h2⟩
    refine ⟨i, h1, ?_⟩
    rw [StrLaws.subAt_eq]
    exact beq_iff_eq.mpr h2
noncomputable def isK (c : Nat) : Bool := [107, 109, 110, 112, 103].contains c
noncomputable def isL (c : Nat) : Bool := [97, 98, 99, 100, 101, 102, 104, 105, 106, 108, 111].contains c
theorem kl_ne {a b : Nat} (ha : isK a = true) (hb : isL b = true) : b ≠ a := by
  rintro rfl
  have h1 : ∀ c, c ∈ [107, 109, 110, 112, 103] → isL c = false := by decide
  have : isL b = false := h1 b (by simpa [isK] using ha)
  rw [hb] at this
  cases this
noncomputable def flat (ps : List (Nat × Nat)) : List Nat := ps.flatMap fun p => [p.1, p.2]
theorem pair_in {a b : Nat} (ha : isK a = true) (hb : isL b = true) (tl : List Nat) (htl : tl = [] ∨ tl = [42]) : ∀ ps : List (Nat × Nat), (∀ p ∈ ps, isK p.1 = true ∧ isL p.2 = true) →
    ((∃ i, i + 2 ≤ (flat ps ++ tl).length ∧ ((flat ps ++ tl).drop i).take 2 = [a, b]) ↔ (a, b) ∈ ps)
  | [], _ => by
    constructor
    · rintro ⟨i, h, _⟩
      rcases htl with rfl | rfl <;> simp [flat] at h
    · intro h; cases h
  | (c, d) :: r, h => by
    have ih := pair_in ha hb tl htl r fun p hp => h p (List.mem_cons_of_mem _ hp)
    have hcd := h (c, d) List.mem_cons_self
    have e : flat ((c, d) :: r) ++ tl = c :: d :: (flat r ++ tl) := rfl
    rw [e]
    constructor
    · rintro ⟨i, h1, h2⟩
      match i, h1, h2 with
      | 0, _, h2 =>
        simp at h2
        obtain ⟨rfl, rfl⟩ := h2
        exact List.mem_cons_self
      | 1, _, h2 =>
        simp only [List.drop_succ_cons, List.drop_zero] at h2
        have : d = a := by
          cases hr : flat r ++ tl with
          | nil => rw [hr] at h2; simp at h2
          | cons x y => rw [hr] at h2; simp at h2; exact h2.1
        exact absurd this (kl_ne ha hcd.2)
      | i + 2, h1, h2 =>
        simp only [List.drop_succ_cons, List.length_cons] at h1 h2
        exact List.mem_cons_of_mem _ (ih.mp ⟨i, by lia, h2⟩)
    · intro hm
      rcases List.mem_cons.mp hm with e | hm
      · cases e
        exact ⟨0, by simp, rfl⟩
      · obtain ⟨i, h1, h2⟩ := ih.mpr hm
        exact ⟨i + 2, by simp only [List.length_cons]; lia, by simpa using h2⟩
theorem kc_K : ∀ k, k < 5 → isK (kc k) = true := by decide
theorem lc_L : ∀ j, j < 11 → isL (lc j) = true := by decide
theorem kc_inj : ∀ k, k < 5 → ∀ k', k' < 5 → kc k = kc k' → k = k' := by decide
theorem lc_inj : ∀ j, j < 11 → ∀ j', j' < 11 → lc j = lc j' → j = j' := by decide
noncomputable def pairsC (first : Int) (mn : List Nat) (i : Nat) : List (Nat × Nat) := (List.range mn.length).map fun k => (kc k, lc (resN first k (mn.getD k 0) i))
theorem word_flat (first : Int) (mn : List Nat) (i : Nat) : wordC first mn i = flat (pairsC first mn i) := by
  unfold wordC flat pairsC pairW
  rw [List.flatMap_map]
section
variable {first : Int} {mn : List Nat} (hml : mn.length ≤ 5) (hmn : ∀ z ∈ mn, 1 < z ∧ z ≤ 11)
include hmn in
theorem getD_mn {k : Nat} (hk : k < mn.length) : 1 < mn.getD k 0 ∧ mn.getD k 0 ≤ 11 := by
  rw [List.getD_eq_getElem?_getD, List.getElem?_eq_getElem hk]
  exact hmn _ (List.getElem_mem _)
include hml hmn in
theorem pairs_ok (i : Nat) : ∀ p ∈ pairsC first mn i, isK p.1 = true ∧ isL p.2 = true := by
  intro p hp
  obtain ⟨k, hk, rfl⟩ := List.mem_map.mp hp
  have hk' := List.mem_range.mp hk
  have h1 := getD_mn hmn hk'
  have h2 := res_lt first k (mn.getD k 0) i (by lia)
  exact ⟨kc_K k (by lia), lc_L _ (by lia)⟩
include hml hmn in
theorem occ_word (i k j : Nat) (hk : k < mn.length) (hj : j < mn.getD k 0) (tl : List Nat) (htl : tl = [] ∨ tl = [42]) :
    occ (mkS (wordC first mn i ++ tl)) (mkS [kc k, lc j]) = decide (resN first k (mn.getD k 0) i = j) := by
  have h1 := getD_mn hmn hk
  have key : occ (mkS (wordC first mn i ++ tl)) (mkS [kc k, lc j]) = true ↔ resN first k (mn.getD k 0) i = j := by
    rw [occ_iff, word_flat]
    refine (pair_in (kc_K k (by lia)) (lc_L j (by lia)) tl htl _ (pairs_ok hml hmn i)).trans ?_
    constructor
    · intro h
      obtain ⟨k', hk', e⟩ := List.mem_map.mp h
      have hk2 := List.mem_range.mp hk'
      have h2 := getD_mn hmn hk2
      have h3 := res_lt first k' (mn.getD k' 0) i (by lia)
      have e1 := kc_inj k' (by lia) k (by lia) (Prod.mk.inj e).1
      subst e1
      exact lc_inj _ (by lia) _ (by lia) (Prod.mk.inj e).2
    · rintro rfl
      exact List.mem_map.mpr ⟨k, List.mem_range.mpr hk, rfl⟩
  by_cases h : resN first k (mn.getD k 0) i = j
  · rw [decide_eq_true h]; exact key.mpr h
  · rw [decide_eq_false h]
    cases e : occ (mkS (wordC first mn i ++ tl)) (mkS [kc k, lc j]) with
    | false => rfl
    | true => exact absurd (key.mp e) h
end
end Mine
end
section
open PySem PySem.W PySem.Calls PyProof.Rows PyProof.Rows.LCg PySem.Builtin.Str
namespace Mine
noncomputable def low (l : List Nat) : Prop := ∀ c ∈ l, 97 ≤ c ∧ c ≤ 122
theorem upper_low {l : List Nat} (h : low l) : Txt.upper (mkS l) = mkS (l.map (· - 32)) := by
  rw [upper_ascii (x := mkS l) fun c hc => by have := h c (by simpa [mkS] using hc); lia]
  show (⟨(l.toArray.map up1)⟩ : Str) = ⟨(l.map (· - 32)).toArray⟩
  rw [List.map_toArray]
  congr 2
  refine List.map_congr_left fun c hc => ?_
  have := h c hc
  unfold up1
  rw [if_pos this]
theorem lower_map {l : List Nat} (h : ∀ c ∈ l, c < 128) : Txt.lower (mkS l) = mkS (l.map lo1) := by
  rw [lower_ascii (x := mkS l) fun c hc => h c (by simpa [mkS] using hc)]
  show (⟨(l.toArray.map lo1)⟩ : Str) = ⟨(l.map lo1).toArray⟩
  rw [List.map_toArray]
theorem lower_low {l : List Nat} (h : low l) : Txt.lower (mkS l) = mkS l := by
  rw [lower_map fun c hc => by have := h c hc; lia]
  congr 1
  have : l.map lo1 = l.map id := List.map_congr_left fun c hc => by
    have := h c hc
    unfold lo1
    rw [if_neg (by lia)]
    rfl
  rw [this, List.map_id]
theorem lo_up {l : List Nat} (h : low l) : (l.map (· - 32)).map lo1 = l := by
  rw [List.map_map]
  have : l.map (lo1 ∘ (· - 32)) = l.map id := List.map_congr_left fun c hc => by
    have := h c hc
    show lo1 (c - 32) = c
    unfold lo1
    rw [if_pos (by lia)]
    lia
  rw [this, List.map_id]
theorem lower_agent {l : List Nat} (h : low l) (i : Nat) : Txt.lower (agentZ i (mkS l)) = mkS l := by
  unfold agentZ
  split
  · rw [upper_low h, lower_map, lo_up h]
    intro c hc
    obtain ⟨d, hd, rfl⟩ := List.mem_map.mp hc
    have := h d hd
    lia
  · exact lower_low h
theorem pair_low (k j : Nat) (hk : k < 5) (hj : j < 11) : low [kc k, lc j] := by
  have h1 : ∀ k, k < 5 → 97 ≤ kc k ∧ kc k ≤ 112 := by decide
  have h2 : ∀ j, j < 11 → 97 ≤ lc j ∧ lc j ≤ 112 := by decide
  intro c hc
  simp only [List.mem_cons, List.mem_nil_iff, or_false] at hc
  have a := h1 k hk
  have b := h2 j hj
  rcases hc with rfl | rfl <;> lia
noncomputable def agentsOf (mn : List Nat) : List Str := ((everyP mn mn.length).map mkS).mapIdx agentZ
theorem mem_every {mn : List Nat} {n : Nat} {e : List Nat} : e ∈ everyP mn n ↔ ∃ k j, k < n ∧ j < mn.getD k 0 ∧ e = [kc k, lc j] := by
  unfold everyP
  rw [List.mem_flatMap]
  constructor
  · rintro ⟨k, hk, h⟩
    obtain ⟨j, hj, rfl⟩ := List.mem_map.mp h
    exact ⟨k, j, List.mem_range.mp hk, List.mem_range.mp hj, rfl⟩
  · rintro ⟨k, j, hk, hj, rfl⟩
    exact ⟨k, List.mem_range.mpr hk, List.mem_map.mpr ⟨j, List.mem_range.mpr hj, rfl⟩⟩
section
variable {mn : List Nat} (hml : mn.length ≤ 5) (hmn : ∀ z ∈ mn, 1 < z ∧ z ≤ 11)
include hml hmn in
theorem mem_agents {z : Str} (h : z ∈ agentsOf mn) : ∃ k j, k < mn.length ∧ j < mn.getD k 0 ∧ Txt.lower z = mkS [kc k, lc j] := by
  obtain ⟨i, hi, rfl⟩ := List.mem_iff_getElem.mp h
  unfold agentsOf at hi ⊢
  rw [List.getElem_mapIdx, List.getElem_map]
  rw [List.length_mapIdx, List.length_map] at hi
  obtain ⟨k, j, hk, hj, e⟩ := mem_every.mp (List.getElem_mem hi)
  have h1 := getD_mn hmn hk
  refine ⟨k, j, hk, hj, ?_⟩
  rw [e, lower_agent (pair_low k j (by lia) (by lia))]
include hml hmn in
theorem agent_of {k j : Nat} (hk : k < mn.length) (hj : j < mn.getD k 0) : ∃ z ∈ agentsOf mn, Txt.lower z = mkS [kc k, lc j] := by
  have h1 := getD_mn hmn hk
  obtain ⟨i, hi, e⟩ := List.mem_iff_getElem.mp (mem_every.mpr ⟨k, j, hk, hj, rfl⟩)
  refine ⟨(agentsOf mn)[i]'(by unfold agentsOf; rw [List.length_mapIdx, List.length_map]; exact hi), List.getElem_mem _, ?_⟩
  unfold agentsOf
  rw [List.getElem_mapIdx, List.getElem_map, e, lower_agent (pair_low k j (by lia) (by lia))]
include hml hmn in
theorem agent_star {z : Str} (h : z ∈ agentsOf mn) : z ≠ Str.ofString "*" := by
  rintro rfl
  obtain ⟨k, j, hk, hj, e⟩ := mem_agents hml hmn h
  have h1 := getD_mn hmn hk
  have e2 : Txt.lower (Str.ofString "*") = mkS [42] := by
    have := lower_map (l := [42]) (by decide)
    exact this
  rw [e2] at e
  have := congrArg (fun s : Str => s.cps.size) e
  cases this
end
theorem merged_left (az : List Str) (wcs : List (List Nat)) (hs : ∀ z ∈ az, z ≠ Str.ofString "*") (sk : List Nat) : mergedZ az wcs sk = Str.ofString "*" :: leftZ az wcs sk := by
  have own : ∀ (p : Nat) (k : Str), ((ownZ az (mkS (wcs.getD p []))).any (· == k)) = true ↔ k = Str.ofString "*" ∨ (k ∈ az ∧ occ (mkS (wcs.getD p [])) (Txt.lower k) = false) := by
    intro p k
    unfold ownZ
    rw [List.any_eq_true]
    constructor
    · rintro ⟨z, hz, e⟩
      have e' : z = k := eq_of_beq e
      subst e'
      rcases List.mem_append.mp hz with hz | hz
      · obtain ⟨h1, h2⟩ := List.mem_filter.mp hz
        exact .inr ⟨List.mem_reverse.mp h1, by simpa using h2⟩
      · exact .inl (List.mem_singleton.mp hz)
    · rintro (rfl | ⟨h1, h2⟩)
      · exact ⟨_, List.mem_append_right _ (List.mem_singleton.mpr rfl), beq_self_eq_true _⟩
      · exact ⟨k, List.mem_append_left _ (List.mem_filter.mpr ⟨List.mem_reverse.mpr h1, by rw [h2]; rfl⟩), beq_self_eq_true _⟩
  have key : ∀ n (sk : List Nat), sk.length = n → mergedZ az wcs sk = Str.ofString "*" :: leftZ az wcs sk := by
    intro n
    induction n with
    | zero =>
      intro sk h
      rw [List.length_eq_zero_iff.mp h]
      show Str.ofString "*" :: (az ++ az.take 2) = Str.ofString "*" :: (az ++ az.take 2).filter (fun a => (sickIn wcs a []).isEmpty)
      exact congrArg (List.cons _) (List.filter_eq_self.mpr fun _ _ => rfl).symm
    | succ n ih =>
      intro sk h
      have hne : sk ≠ [] := by intro e; rw [e] at h; cases h
      rw [← List.dropLast_concat_getLast hne, merged_step, ih _ (by simp [h])]
      generalize sk.dropLast = l
      generalize sk.getLast hne = p
      rw [List.filter_cons, if_pos ((own p _).mpr (.inl rfl))]
      congr 1
      unfold leftZ
      rw [List.filter_filter]
      refine List.filter_congr fun a ha => ?_
      have haz : a ∈ az := (List.mem_append.mp ha).elim id fun h => List.mem_of_mem_take h
      have e : sickIn wcs a (l ++ [p]) = sickIn wcs a l ++ (if occ (mkS (wcs.getD p [])) (Txt.lower a) = true then [p] else []) := by
        unfold sickIn
        rw [List.filter_append, List.filter_cons]
        rfl
      rw [e]
      have ho := own p a
      cases hoc : occ (mkS (wcs.getD p [])) (Txt.lower a) with
      | false =>
        have : ((ownZ az (mkS (wcs.getD p []))).any (· == a)) = true := ho.mpr (.inr ⟨haz, hoc⟩)
        rw [this]
        simp
      | true =>
        have : ((ownZ az (mkS (wcs.getD p []))).any (· == a)) = false := by
          cases e2 : ((ownZ az (mkS (wcs.getD p []))).any (· == a)) with
          | false => rfl
          | true =>
            rcases ho.mp e2 with rfl | ⟨_, h2⟩
            · exact absurd rfl (hs _ haz)
            · rw [hoc] at h2; cases h2
        rw [this]
        simp
  exact key _ sk rfl
end Mine
end
section
open PySem PySem.W PySem.Calls PyProof.Rows PyProof.Rows.LCg PySem.Builtin.Str
namespace Mine
theorem dvd_of_res {first : Int} {k m i j : Nat} (hm : 0 < m) (h : resN first k m i = resN first k m j) : (m : Int) ∣ (i : Int) - (j : Int) := by
  have key : ∀ (a b : Int) (d : Int), a.fmod d = b.fmod d → d ∣ a - b := fun a b d e => by
    have h1 := Int.mul_fdiv_add_fmod a d
    have h2 := Int.mul_fdiv_add_fmod b d
    refine ⟨a.fdiv d - b.fdiv d, ?_⟩
    rw [Int.mul_sub]
    lia
  unfold resN sgnM at h
  split at h
  · have a1 := Int.fmod_nonneg_of_pos (first + (i : Nat)) (b := (m : Int)) (by lia)
    have a2 := Int.fmod_nonneg_of_pos (first + (j : Nat)) (b := (m : Int)) (by lia)
    have := key (first + i) (first + j) m (by lia)
    rwa [show first + (i : Int) - (first + (j : Int)) = (i : Int) - j by lia] at this
  · have e : ∀ x : Int, x.fmod (-(m : Int)) = -((-x).fmod (m : Int)) := fun x => by
      have := Int.neg_fmod_neg (a := -x) (b := (m : Int))
      rw [Int.neg_neg] at this
      exact this
    rw [e, e] at h
    have a1 := Int.fmod_nonneg_of_pos (-(first + (i : Nat))) (b := (m : Int)) (by lia)
    have a2 := Int.fmod_nonneg_of_pos (-(first + (j : Nat))) (b := (m : Int)) (by lia)
    have := key (-(first + (j : Nat))) (-(first + (i : Nat))) m (by lia)
    rwa [show -(first + (j : Int)) - -(first + (i : Int)) = (i : Int) - j by lia] at this
noncomputable def prodL (l : List Nat) : Nat := l.foldr (· * ·) 1
noncomputable def copr : List Nat → Prop
  | [] => True
  | a :: r => (∀ b ∈ r, Nat.Coprime a b) ∧ copr r
theorem copr_prod {a : Nat} : ∀ {l : List Nat}, (∀ b ∈ l, Nat.Coprime a b) → Nat.Coprime a (prodL l)
  | [], _ => Nat.coprime_one_right a
  | b :: r, h => Nat.Coprime.mul_right (h b List.mem_cons_self) (copr_prod fun c hc => h c (List.mem_cons_of_mem _ hc))
theorem prod_dvd {N : Nat} : ∀ {l : List Nat}, copr l → (∀ m ∈ l, m ∣ N) → prodL l ∣ N
  | [], _, _ => Nat.one_dvd N
  | a :: r, hc, h => Nat.Coprime.mul_dvd_of_dvd_of_dvd (copr_prod hc.1) (h a List.mem_cons_self) (prod_dvd hc.2 fun m hm => h m (List.mem_cons_of_mem _ hm))
noncomputable def distP (p : Nat) (sk : List Nat) : Nat := prodL (sk.map fun s : Nat => ((p : Int) - (s : Int)).natAbs)
theorem distP_pos {p : Nat} : ∀ {sk : List Nat}, p ∉ sk → 0 < distP p sk
  | [], _ => Nat.one_pos
  | s :: r, h => by
    have h1 : p ≠ s := fun e => h (e ▸ List.mem_cons_self)
    have h2 := distP_pos (p := p) (sk := r) fun e => h (List.mem_cons_of_mem _ e)
    exact Nat.mul_pos (Int.natAbs_pos.mpr (by lia)) h2
theorem distP_le {p c : Nat} (hp : p < c) : ∀ {sk : List Nat}, (∀ s ∈ sk, s < c) → distP p sk ≤ (c - 1) ^ sk.length
  | [], _ => Nat.le_refl _
  | s :: r, h => by
    have h1 := h s List.mem_cons_self
    have h2 := distP_le hp (sk := r) fun t ht => h t (List.mem_cons_of_mem _ ht)
    rw [List.length_cons, Nat.pow_succ, Nat.mul_comm]
    have h3 : ((p : Int) - (s : Int)).natAbs ≤ c - 1 := by rcases Nat.le_total p s with h | h <;> lia
    exact Nat.mul_le_mul h3 h2
theorem dvd_dist {m p : Nat} : ∀ {sk : List Nat} {s : Nat}, s ∈ sk → (m : Int) ∣ (p : Int) - (s : Int) → m ∣ distP p sk
  | t :: r, s, hs, hd => by
    rcases List.mem_cons.mp hs with rfl | hs
    · exact Nat.dvd_trans (Int.ofNat_dvd_left.mp hd) (Nat.dvd_mul_right _ _)
    · exact Nat.dvd_trans (dvd_dist hs hd) (Nat.dvd_mul_left _ _)
theorem sieve {first : Int} {mn sk : List Nat} {count most p : Nat} (hmn : ∀ z ∈ mn, 1 < z ∧ z ≤ 11) (hco : copr mn) (hprod : (count - 1) ^ most < prodL mn) (hc : 2 ≤ count) (hsk : ∀ s ∈ sk, s < count) (hl : sk.length ≤ most) (hp : p < count) (hn : p ∉ sk) :
    ∃ k, k < mn.length ∧ ∀ s ∈ sk, resN first k (mn.getD k 0) p ≠ resN first k (mn.getD k 0) s := by
  refine Classical.byContradiction fun hno => ?_
  have hall : ∀ m ∈ mn, m ∣ distP p sk := fun m hm => by
    obtain ⟨k, hk, e⟩ := List.mem_iff_getElem.mp hm
    have hex : ∃ s ∈ sk, resN first k (mn.getD k 0) p = resN first k (mn.getD k 0) s := by
      refine Classical.byContradiction fun h2 => hno ⟨k, hk, fun s hs h3 => h2 ⟨s, hs, h3⟩⟩
    obtain ⟨s, hs, h3⟩ := hex
    rw [List.getD_eq_getElem?_getD, List.getElem?_eq_getElem hk, Option.getD_some, e] at h3
    exact dvd_dist hs (dvd_of_res (by have := hmn m hm; lia) h3)
  have h1 := Nat.le_of_dvd (distP_pos hn) (prod_dvd hco hall)
  have h2 := distP_le hp hsk
  have h3 : (count - 1) ^ sk.length ≤ (count - 1) ^ most := Nat.pow_le_pow_right (by lia) hl
  lia
section
variable {first : Int} {mn : List Nat} (hml : mn.length ≤ 5) (hmn : ∀ z ∈ mn, 1 < z ∧ z ≤ 11)
include hml hmn in
theorem hears {sk : List Nat} {wcs : List (List Nat)} {count most p : Nat} (hw : ∀ i, i < count → wcs.getD i [] = wordC first mn i) (hco : copr mn) (hprod : (count - 1) ^ most < prodL mn) (hc : 2 ≤ count) (hsk : ∀ s ∈ sk, s < count) (hl : sk.length ≤ most) (hp : p < count) :
    (Str.ofString "*" :: leftZ (agentsOf mn) wcs sk).any (hits (mkS (wcs.getD p [] ++ [42]))) = !(sk.contains p) := by
  have hst : hits (mkS (wcs.getD p [] ++ [42])) (Str.ofString "*") = false := by
    unfold hits
    rw [show (Str.ofString "*" != Str.ofString "*") = false by simp]
    rfl
  rw [List.any_cons, hst, Bool.false_or]
  have mem : ∀ z, z ∈ leftZ (agentsOf mn) wcs sk ↔ z ∈ agentsOf mn ∧ ∀ s ∈ sk, occ (mkS (wcs.getD s [])) (Txt.lower z) = false := by
    intro z
    unfold leftZ
    rw [List.mem_filter]
    have e : (z ∈ agentsOf mn ++ (agentsOf mn).take 2) ↔ z ∈ agentsOf mn := by
      rw [List.mem_append]
      exact ⟨fun h => h.elim id fun h => List.mem_of_mem_take h, .inl⟩
    rw [e, List.isEmpty_iff]
    unfold sickIn
    rw [List.filter_eq_nil_iff]
    simp
  have hws : ∀ s ∈ sk, wcs.getD s [] = wordC first mn s := fun s hs => hw s (hsk s hs)
  by_cases hn : p ∈ sk
  · rw [show sk.contains p = true by simpa using hn]
    rw [Bool.not_true, List.any_eq_false]
    intro z hz
    obtain ⟨h1, h2⟩ := (mem z).mp hz
    obtain ⟨k, j, hk, hj, e⟩ := mem_agents hml hmn h1
    have h3 := h2 p hn
    rw [e, hws p hn] at h3
    have o1 := occ_word (first := first) hml hmn p k j hk hj [] (.inl rfl)
    rw [List.append_nil, h3] at o1
    have o2 := occ_word (first := first) hml hmn p k j hk hj [42] (.inr rfl)
    unfold hits
    rw [e, hw p hp, o2, ← o1]
    simp
  · rw [show sk.contains p = false by simpa using hn]
    rw [Bool.not_false, List.any_eq_true]
    obtain ⟨k, hk, hs⟩ := sieve (first := first) hmn hco hprod hc hsk hl hp hn
    have h1 := getD_mn hmn hk
    obtain ⟨z, hz, e⟩ := agent_of hml hmn hk (res_lt first k (mn.getD k 0) p (by lia))
    refine ⟨z, (mem z).mpr ⟨hz, fun s hs' => ?_⟩, ?_⟩
    · have o1 := occ_word (first := first) hml hmn s k _ hk (res_lt first k (mn.getD k 0) p (by lia)) [] (.inl rfl)
      rw [List.append_nil] at o1
      rw [e, hws s hs', o1]
      exact decide_eq_false fun h => hs s hs' h.symm
    · have o2 := occ_word (first := first) hml hmn p k _ hk (res_lt first k (mn.getD k 0) p (by lia)) [42] (.inr rfl)
      unfold hits
      rw [e, hw p hp, o2]
      have := agent_star hml hmn hz
      simp [this]
end
end Mine
end
section
open PySem PySem.W PySem.Calls PyProof.Rows PyProof.Rows.LCg
namespace Mine
theorem Starts.side {prog : Program} {w : World} {A : Around} {s : Shared} {target : Expr} {xv : Value} {own fx : List Addr} {n : Nat} {P P' : Nat → Value → Heap → Prop} (X : Starts prog w A target xv s own fx n P) (obs : List (Addr × Obj))
    (ho : ∀ p ∈ obs, s.heap.get? p.1 = some p.2) (hnd : ∀ p ∈ obs, NoDict p.2) (hown : ∀ p ∈ obs, p.1 ∉ own) (hP : ∀ i v h, P i v h → (∀ p ∈ obs, h.get? p.1 = some p.2) → P' i v h) :
    Starts prog w A target xv s own (fx ++ obs.map (·.1)) n P' := by
  intro Q E hQ
  refine X Q E fun I fp wr Md St h W st hk hfp hwr hfx => ?_
  have hw : ∀ p ∈ obs, p.1 ∉ wr := fun p hp x => by
    rcases hwr _ x with y | y
    · exact hown p hp y
    · rw [ho p hp] at y
      cases y
  have keep : ∀ {h h' : Heap}, (∀ b o, b ∉ wr → h.get? b = some o → h'.get? b = some o) → (∀ p ∈ obs, h.get? p.1 = some p.2) → ∀ p ∈ obs, h'.get? p.1 = some p.2 := fun hk ho p hp => hk _ _ (hw p hp) (ho p hp)
  refine hQ I (fp ++ obs.map (·.1)) wr (fun i v h => Md i v h ∧ ∀ p ∈ obs, h.get? p.1 = some p.2) (fun i h => St i h ∧ ∀ p ∈ obs, h.get? p.1 = some p.2) h ⟨⟨fun b hb => List.mem_append_left _ (W.turns.sub b hb), ?_, ?_, ?_, ?_⟩, ?_, ?_⟩ ⟨st, fun p hp => hk _ _ (ho p hp)⟩ hk ?_ hwr ?_
  · intro i h h' hs hf
    exact ⟨W.turns.frame i h h' hs.1 fun b hb => hf b (List.mem_append_left _ hb), fun p hp => hf _ (List.mem_append_right _ (List.mem_map_of_mem hp)) _ (hs.2 p hp)⟩
  · intro i s Q E hi hs hq
    exact W.turns.item i s Q E hi hs.1 fun v h' tk hm hk' => hq v h' tk ⟨hm, keep hk' hs.2⟩ hk'
  · intro i v s Q E hm hq
    exact W.turns.go i v s Q E hm.1 fun h' hp hs hk' => hq h' (hP i v h' hp (keep hk' hm.2)) ⟨hs, keep hk' hm.2⟩ hk'
  · intro s Q E hs hq
    exact W.turns.done s Q E hs.1 hq
  · intro i s Q E hs hq
    exact W.self i s Q E hs.1 hq
  · intro i h hs b hb
    exact W.has i h hs.1 b hb
  · intro b hb
    rcases List.mem_append.mp hb with hb | hb
    · exact hfp b hb
    · obtain ⟨p, hp, rfl⟩ := List.mem_map.mp hb
      have e := hk _ _ (ho p hp)
      exact ⟨Heap.lt_size e, not_ns_of e (hnd p hp)⟩
  · intro b hb
    rcases List.mem_append.mp hb with hb | hb
    · rcases hfx b hb with x | x | x
      · exact .inl (List.mem_append_left _ x)
      · exact .inr (.inl x)
      · exact .inr (.inr x)
    · exact .inl (List.mem_append_right _ hb)
theorem Starts.imp {prog : Program} {w : World} {A : Around} {s : Shared} {target : Expr} {xv : Value} {own fx : List Addr} {n : Nat} {P P' : Nat → Value → Heap → Prop} (X : Starts prog w A target xv s own fx n P) (hP : ∀ i v h, P i v h → P' i v h) :
    Starts prog w A target xv s own fx n P' := by
  have := X.side [] (fun _ h => nomatch h) (fun _ h => nomatch h) (fun _ h => nomatch h) (P' := P') fun i v h x _ => hP i v h x
  simpa using this
end Mine
end
section
open PySem PySem.W PySem.Calls PyProof.Rows PyProof.Rows.LCg
open PySem (strKind)
namespace Mine
local macro_rules | `(tactic| walk_at "no such place") => `(tactic| fail)
local macro_rules | `(tactic| k_handed) => `(tactic| assumption)
local macro_rules | `(tactic| walk_at $k) => Mine.stopAt ["call ref"] k
theorem none_back {h g : Heap} {obs : List (Addr × Obj)} {a : Addr} (gk : ∀ b o, (∀ p ∈ obs, p.1 ≠ b) → h.get? b = some o → g.get? b = some o) (hn : g.get? a = none) (ha : ∀ p ∈ obs, p.1 ≠ a) : h.get? a = none := by
  cases e : h.get? a with
  | none => rfl
  | some o => rw [gk a o ha e] at hn; cases hn
theorem pushedN {h₀ h h' : Heap} {L r : Addr} {o : Obj} {m : Str → Option Value} {news : List (Addr × Obj)} (F : Fr h₀ L h m) (N : News h₀ L h' news) (hr : h.get? r = none) (er : h'.get? r = some o) : News h₀ L h' ((r, o) :: news) := fun p hp => by
  rcases List.mem_cons.mp hp with rfl | hp
  · refine ⟨er, ?_, ?_⟩
    · rintro rfl
      obtain ⟨oL, _, _, hL, _⟩ := F.ns
      rw [hr] at hL
      cases hL
    · cases e : h₀.get? r with
      | none => rfl
      | some o => rw [F.keep r o e] at hr; cases hr
  · exact N p hp
theorem fields_spec {prog : Program} {w : World} {A : Around} {E : Value → Shared → Prop} {s : Shared} {h₀ : Heap} {mean : ExcName → Option Value} {mg mb : PySem.Str → Option Value} {ls : List Str} {Q : Value → Shared → Prop}
   {x dx a r : Addr} {t1 t2 t3 t4 : Tok} {us rs : List Value} {n1 n2 : Nat} {dl rr : Value} {uz : List Str} {ri : List Int}
   (X : (K w.params).In h₀) (T : Top topProg ls mean mg mb h₀) (hk : Ext h₀ s.heap) (hh : A.handled = none) (hd : A.depth + 20 < recursionLimit) (hu : A.units + 100 < cLine)
   (O : ∀ p ∈ entObs w.params x dx a r t1 t2 t3 t4 us rs n1 n2 dl rr, s.heap.get? p.1 = some p.2 ∧ h₀.get? p.1 = none)
   (hdl : handedIn dl = true) (hrr : handedIn rr = true) (hst : StrsAre us uz) (hri : IntsAre rs ri) (hu60 : uz.length ≤ 60) (hr60 : ri.length ≤ 60)
   (hQ : ∀ (h' : Heap) (tk : Nat) (l la lr : Addr) (k1 k2 : Nat), Ext s.heap h' → s.heap.get? l = none → s.heap.get? la = none → s.heap.get? lr = none → @LT.lt Nat _ la lr → @LT.lt Nat _ lr l →
      h'.get? l = some (W.listOf #[.ref la, .ref lr, dl, rr] 0) → h'.get? la = some (W.listOf us.toArray k1) → h'.get? lr = some (W.listOf rs.toArray k2) → Q (.ref l) {s with heap := h', toks := tk}) :
   wpAny (model prog w) A (call (.ref 207) [.ref x]) Q E s := by
  have X0 := Frag.In.keeps X hk
  have T0 := T.keeps hk
  k_dflt (refine' enterE [(Str.ofString "entry", .ref x)] X0 T0.nolimit ?k1 ?k2 (by lia) ?kb ?ks ?k3 ?k4 ?k5 ?k6 ?k7 ?k8 ?_)
  case k1 => k_dflt k_is
  case k2 => k_dflt k_is
  case kb => conv => lhs; whnf
  case ks => conv => lhs; whnf
  case k3 => exact BindsTo.of_eq rfl
  case k4 => exact locs rfl
  case k5 => decide
  case k6 => exact rfl
  case k7 => exact rfl
  case k8 => exact rfl
  intro h₁ L F0 N0
  obtain ⟨g, kx, F, N, gk, gs⟩ := ghosted hk O F0
  have X' := Frag.In.keeps X kx
  have T' := T.keeps kx
  have TR := topRead_of T'
  clear X0 T0 F0 N0
  simp only [entObs, List.cons_append, List.nil_append] at N
  k_steps
  rename_i la k1 b1 q1 lr k2 b2 q2 l b3 F9 N9 q3
  refine hQ _ _ l la lr k1 k2 (ext_back gk O F9.keep fun p hp => (N9 p (List.mem_cons_of_mem _ (List.mem_cons_of_mem _ (List.mem_cons_of_mem _ hp)))).1) (none_back gk (N9 (l, _) (by k_mem)).2.2 fun p hp => ?_) (none_back gk (N9 (la, _) (by k_mem)).2.2 fun p hp => ?_) (none_back gk (N9 (lr, _) (by k_mem)).2.2 fun p hp => ?_) (by lia) (by lia) (N9.get (a := l) (by k_mem)) (N9.get (a := la) (by k_mem)) (N9.get (a := lr) (by k_mem))
  all_goals
    simp only [List.mem_cons, List.mem_nil_iff, or_false] at hp
    rcases hp with rfl | rfl | rfl | rfl <;> exact neN (by lia)
end Mine
end
section
open PySem PySem.W PySem.Calls PyProof.Rows PyProof.Rows.LCg PySem.SeqAt
namespace Mine
section
variable {prog : Program} {w : World} {A : Around} {E : Value → Shared → Prop} {s : Shared} {Q : Value → Shared → Prop}
theorem same_lists {l l' : Addr} {us : Array Value} (hl : s.heap.IsList l us) (hl' : s.heap.IsList l' us) (hne : l' ≠ l) (hu : A.units < cLine) : EqAt A s (.ref l') (.ref l) true := by
  have h := EqAt.of_refs hne (RcAt.lists (e := fun _ => true) hl' hl rfl hu fun j _ _ => EqAt.same _)
  rwa [show (List.range us.size).all (fun _ => true) = true by simp] at h
theorem same_fields {l la lr l' la' lr' : Addr} {us rs : Array Value} {dl rr : Value} (hu : A.units + 5 < cLine)
   (hl : s.heap.IsList l #[.ref la, .ref lr, dl, rr]) (hl' : s.heap.IsList l' #[.ref la', .ref lr', dl, rr]) (ha : s.heap.IsList la us) (ha' : s.heap.IsList la' us) (hr : s.heap.IsList lr rs) (hr' : s.heap.IsList lr' rs) (hna : la' ≠ la) (hnr : lr' ≠ lr)
   (hQ : Q (.bool false) s) : wpAny (model prog w) A (compareOp .NotEq (.ref l') (.ref l)) Q E s := by
  refine RcNeAt.lists (e := fun _ => true) hl' hl rfl (by lia) (fun j h1 h2 => ?_) prog w E Q (show Q (.bool (!(List.range 4).all fun _ => true)) s from (show (!(List.range 4).all fun _ => true) = false by decide) ▸ hQ)
  have hj : j = 0 ∨ j = 1 ∨ j = 2 ∨ j = 3 := by simp at h1; lia
  have hu1 : A.in1.units < cLine := by show A.units + _ < _; lia
  rcases hj with rfl | rfl | rfl | rfl
  · exact same_lists ha ha' hna hu1
  · exact same_lists hr hr' hnr hu1
  · exact EqAt.same _
  · exact EqAt.same _
end
end Mine
end
section
open PySem PySem.W PySem.Calls PyProof.Rows
namespace Mine
theorem fill : PySem.Challenge.rw_wy0048_01 = PySem.Challenge.rw_wy0048_01 ∧ K = K := by
  k_fill
  exact ⟨rfl, rfl⟩
noncomputable def b1 : List Nat := [173, 847, 6150, 6155, 6156, 6157, 8203, 8204, 8205, 8288, 65279, 65024, 65025, 65026, 65027, 65028, 65029, 65030, 65031, 65032, 65033, 65034, 65035, 65036, 65037, 65038, 65039]
noncomputable def b1set : Int → Bool := fun k => b1.any fun c => k == (c : Int)
theorem isInt_self (k : Int) (t : Tok) : Value.isInt k (.int k t) = true := by simp [Value.isInt]
theorem ik (prog : Program) (w : World) (k : Int) (t : Tok) : (intKind prog w).is k (.int k t) = true := isInt_self k t
noncomputable def setEls : Obj → List (Int × Value)
  | ⟨_, _, .set es _ _, _⟩ => es.toList
  | _ => []
noncomputable def intIn (S : Int → Bool) (v : Value) : Bool := match v with
  | .int j _ => S j
  | _ => false
theorem intIn_of {S : Int → Bool} {k : Int} {v : Value} (h : intIn S v = true) (e : Value.isInt k v = true) : S k = true := by
  obtain ⟨t, rfl⟩ := Value.isInt_shape e
  exact h
theorem b1_is (prog : Program) (w : World) {h : Heap} (X : (K w.params).In h) : h.SetOf (intKind prog w) 129 b1set 27 := by
  refine ⟨o129 w.params, _, _, _, X 129 _ ?_, ⟨rfl, rfl, rfl⟩, rfl, ?_, ?_, ?_, ?_, rfl⟩
  · kernel_rfl
  · have key : ∀ e ∈ setEls (o129 w.params), intIn (fun j => e.1 == hashInt j && e.2.scannable) e.2 = true := by
      exact List.all_eq_true.mp (by kernel_rfl)
    intro e he
    have := key e he
    obtain ⟨h, v⟩ := e
    cases v <;> simp only [intIn, Bool.false_eq_true] at this
    rename_i j t
    rw [Bool.and_eq_true, beq_iff_eq] at this
    exact ⟨⟨j, isInt_self _ t, this.1⟩, this.2⟩
  · intro k
    have key : ∀ e ∈ setEls (o129 w.params), intIn b1set e.2 = true := by
      exact List.all_eq_true.mp (by kernel_rfl)
    have key2 : ∀ c ∈ b1, ((setEls (o129 w.params)).any fun e => Value.isInt (c : Int) e.2) = true := by
      exact List.all_eq_true.mp (by kernel_rfl)
    constructor
    · intro hk
      obtain ⟨c, hc, e⟩ := List.any_eq_true.mp hk
      have e := beq_iff_eq.mp e
      subst e
      exact List.any_eq_true.mp (key2 c hc)
    · rintro ⟨e, he, hi⟩
      exact intIn_of (key e he) hi
  · decide
  · rfl
theorem dict_get1S {prog : Program} {w : World} {A : Around} {E : Value → Shared → Prop} {s : Shared} {K : Type} [DecidableEq K] {knd : KeyKind prog w K} {d : Addr} {pos : Pos} {x : Sem Value} {Q : Value → Shared → Prop} (hd : (d == sysModules) = false)
    (h : wpAny (model prog w) A x (fun key s₁ => Stop (∃ k f, knd.is k key = true ∧ s₁.heap.MapOf knd d f ∧ Q ((f k).getD .none) { s₁ with toks := s₁.toks + 1 })) E s) :
    wpAny (model prog w) A (callWith pos (.builtin "dict.get") [.ref d] [(false, x)] []) Q E s := wpAny_dict_get1 hd h
noncomputable def b3look (c : Int) : Option Str := (b3pairs.find? fun p => p.1 == c).map (·.2)
noncomputable def b3map (c : Nat) : Str := (b3look c).getD (Txt.lower ⟨#[c]⟩)
theorem b3ent_key (p : (Int × Str) × Nat) : ∃ t u, b3ent p = ⟨p.1.1, .int p.1.1 t, .str p.1.2 u⟩ := by
  unfold b3ent
  split
  · exact ⟨_, _, rfl⟩
  · exact ⟨_, _, rfl⟩
theorem b3find (c : Int) : ∀ (l : List (Int × Str)) (n : Nat), ∃ t, (((l.zipIdx n).map b3ent).find? fun e => Value.isInt c e.key).map (·.val) = ((l.find? fun p => p.1 == c).map (·.2)).map (Value.str · t)
  | [], _ => ⟨0, rfl⟩
  | p :: l, n => by
    obtain ⟨t', ih⟩ := b3find c l (n + 1)
    rw [List.zipIdx_cons, List.map_cons, List.find?_cons, List.find?_cons]
    obtain ⟨t, u, e⟩ := b3ent_key (p, n)
    rw [e]
    dsimp only
    cases hc : p.1 == c with
    | true =>
      have : Value.isInt c (.int p.1 t) = true := by simpa [Value.isInt] using hc
      rw [this]
      exact ⟨u, rfl⟩
    | false =>
      have : Value.isInt c (.int p.1 t) = false := by simpa [Value.isInt] using hc
      rw [this]
      exact ⟨t', ih⟩
theorem hash_small : ∀ p ∈ b3pairs, (p.1 == hashInt p.1) = true := List.all_eq_true.mp (by kernel_rfl)
theorem b3_is (prog : Program) (w : World) {h : Heap} (X : (K w.params).In h) : h.MapOf (intKind prog w) 140 (fun c => (b3ents.find? fun e => Value.isInt c e.key).map (·.val)) := by
  refine ⟨o140 w.params, b3ents.toArray, _, X 140 _ ?_, ⟨rfl, rfl, rfl⟩, rfl, ?_, fun k => ?_⟩
  · kernel_rfl
  · intro e he
    have he : e ∈ b3ents := by simpa using he
    obtain ⟨p, hp, rfl⟩ := List.mem_map.mp he
    obtain ⟨t, u, e⟩ := b3ent_key p
    rw [e]
    have hm : p.1 ∈ b3pairs := by
      obtain ⟨p, n⟩ := p
      exact List.fst_mem_of_mem_zipIdx hp
    exact ⟨p.1.1, isInt_self _ t, beq_iff_eq.mp (hash_small _ hm)⟩
  · show ((b3ents.toArray.find? fun e => Value.isInt k e.key).map (·.val)) = _
    rw [List.find?_toArray]
theorem in_table_b1_spec {prog : Program} {w : World} {A : Around} {E : Value → Shared → Prop} {s : Shared} {mg mb : PySem.Str → Option Value} {ls : List Str} {c : Nat} {t : Tok} {Q : Value → Shared → Prop}
   (X : (K w.params).In s.heap) (T : TopRead topProg ls mg mb s.heap) (hd : A.depth < recursionLimit) (hQ : ∀ h' tk, Ext s.heap h' → Q (.bool (b1set c)) {s with heap := h', toks := tk}) :
   wpAny (model prog w) A (call (.ref 139) [.str ⟨#[c]⟩ t]) Q E s := by
  k_dflt (refine' enterE [(Str.ofString "code", .str ⟨#[c]⟩ t)] X T.nolimit ?k1 ?k2 hd ?kb ?ks ?k3 ?k4 ?k5 ?k6 ?k7 ?k8 ?_)
  case k1 => k_dflt k_is
  case k2 => k_dflt k_is
  case kb => conv => lhs; whnf
  case ks => conv => lhs; whnf
  case k3 => exact BindsTo.of_eq rfl
  case k4 => exact locs rfl
  case k5 => decide
  case k6 => exact rfl
  case k7 => exact rfl
  case k8 => exact rfl
  intro h₁ L F N
  k_steps
  refine wpAny_inSet_of (knd := intKind prog w) (k := (c : Int)) (ik _ _ _ _) rfl (b1_is prog w (Frag.In.keeps X F.keep)) ?_
  k_steps
  exact hQ _ _ F.keep
theorem map_table_b3_spec {prog : Program} {w : World} {A : Around} {E : Value → Shared → Prop} {s : Shared} {mg mb : PySem.Str → Option Value} {ls : List Str} {c : Nat} {t : Tok} {Q : Value → Shared → Prop}
   (X : (K w.params).In s.heap) (T : TopRead topProg ls mg mb s.heap) (hd : A.depth < recursionLimit) (hQ : ∀ h' tk t, Ext s.heap h' → Q (.str (b3map c) t) {s with heap := h', toks := tk}) :
   wpAny (model prog w) A (call (.ref 185) [.str ⟨#[c]⟩ t]) Q E s := by
  k_dflt (refine' enterE [(Str.ofString "code", .str ⟨#[c]⟩ t)] X T.nolimit ?k1 ?k2 hd ?kb ?ks ?k3 ?k4 ?k5 ?k6 ?k7 ?k8 ?_)
  case k1 => k_dflt k_is
  case k2 => k_dflt k_is
  case kb => conv => lhs; whnf
  case ks => conv => lhs; whnf
  case k3 => exact BindsTo.of_eq rfl
  case k4 => exact locs rfl
  case k5 => decide
  case k6 => exact rfl
  case k7 => exact rfl
  case k8 => exact rfl
  intro h₁ L F N
  k_steps
  refine getMethod_builtin (b3_is prog w (Frag.In.keeps X F.keep)).typeIs PySem.F.plainAttrs_dict PySem.F.slot_dict_get PySem.F.type_dict_get (b3_is prog w (Frag.In.keeps X F.keep)).noDict ?_
  refine dict_get1S (knd := intKind prog w) rfl ?_
  rw [if_neg Bool.false_ne_true]
  k_steps
  refine ⟨(c : Int), _, ik _ _ _ _, b3_is prog w (Frag.In.keeps X F.keep), ?_⟩
  obtain ⟨t', e⟩ := b3find (c : Int) b3pairs 0
  rw [show ((b3ents.find? fun e => Value.isInt (c : Int) e.key).map (·.val)) = ((b3look c).map (Value.str · t')) from e]
  have hm : b3map c = (b3look c).getD (Txt.lower ⟨#[c]⟩) := rfl
  revert hm
  cases b3look c with
  | none =>
    intro hm
    rw [Option.map_none, Option.getD_none]
    rw [Option.getD_none] at hm
    rw [hm] at hQ
    k_steps
    refine SCL.lower (by show (1 : Nat) ≤ _; decide) fun _ => ?_
    rename Fr _ _ _ _ => F2
    exact hQ _ _ _ F2.keep
  | some x =>
    intro hm
    rw [Option.map_some, Option.getD_some]
    rw [Option.getD_some] at hm
    rw [hm] at hQ
    k_steps
    rename Fr _ _ _ _ => F2
    exact hQ _ _ _ F2.keep
end Mine
end
section
open PySem PySem.W PySem.Calls PyProof.Rows PyProof.Rows.LCg
namespace Mine
local macro_rules | `(tactic| walk_at "no such place") => `(tactic| fail)
theorem div2n1n_spec {prog : Program} {w : World} {A : Around} {E : Value → Shared → Prop} {s : Shared} {mg mb : PySem.Str → Option Value} {p : Program} {ls : List Str} {a b n : Int} {ta tb tn : Tok} {Q : Value → Shared → Prop}
   (X : (K w.params).In s.heap) (T : TopRead p ls mg mb s.heap) (hd : A.depth < recursionLimit) (ha : 0 ≤ a) (ha' : a < 2 ^ 60) (hb : 0 < b) (hb' : b < 2 ^ 20) (hn : 0 ≤ n)
   (hQ : ∀ h' tk r t1 t2, Ext s.heap h' → s.heap.objs.size ≤ r → h'.get? r = some { cls := .type "tuple", data := .seq #[.int (a.fdiv b) t1, .int (a.fmod b) t2] } → Q (.ref r) {s with heap := h', toks := tk}) :
   wpAny (model prog w) A (call (.ref 77) [.int a ta, .int b tb, .int n tn]) Q E s := by
  k_dflt (refine' enterE [(Str.ofString "a", .int a ta), (Str.ofString "b", .int b tb), (Str.ofString "n", .int n tn)] X T.nolimit ?k1 ?k2 hd ?kb ?ks ?k3 ?k4 ?k5 ?k6 ?k7 ?k8 ?_)
  case k1 => k_dflt k_is
  case k2 => k_dflt k_is
  case kb => conv => lhs; whnf
  case ks => conv => lhs; whnf
  case k3 => exact BindsTo.of_eq rfl
  case k4 => exact locs rfl
  case k5 => decide
  case k6 => exact rfl
  case k7 => exact rfl
  case k8 => exact rfl
  intro h₁ L F N
  have hbits : (Builtin.Int.intBits a : Int) - n ≤ 4000 := by
    have : Builtin.Int.intBits a ≤ 60 := intBits_le_iff.mpr (by lia)
    lia
  k_steps
  rename Fr _ _ _ _ => F2
  rename News _ _ _ _ => N2
  exact hQ _ _ _ _ _ F2.keep (Nat.le_trans F.above (Nat.le_of_lt F.ns.lt)) (N2.get List.mem_cons_self)
end Mine
end
section
namespace Mine
open PySem PyProof.Rows
noncomputable def dig (n x i : Nat) : Nat := x / 2 ^ (n * i) % 2 ^ n
theorem dig_low {n x k i : Nat} (h : i < k) : dig n (x % 2 ^ (n * k)) i = dig n x i := by
  unfold dig
  have e : n * k = n * i + n * (k - i) := by rw [← Nat.mul_add]; congr 1; lia
  rw [e, Nat.pow_add, Nat.mod_mul_right_div_self, Nat.mod_mod_of_dvd]
  exact Nat.pow_dvd_pow 2 (Nat.le_mul_of_pos_right n (by lia))
theorem dig_high {n x k i : Nat} : dig n (x / 2 ^ (n * k)) i = dig n x (k + i) := by
  unfold dig
  rw [Nat.div_div_eq_div_mul, ← Nat.pow_add, ← Nat.mul_add]
theorem dig_one {n x : Nat} (h : x < 2 ^ n) : dig n x 0 = x := by
  unfold dig
  simp [Nat.mod_eq_of_lt h]
theorem high_lt {n x k j : Nat} (h : x < 2 ^ (n * (k + j))) : x / 2 ^ (n * k) < 2 ^ (n * j) := by
  rw [Nat.div_lt_iff_lt_mul (Nat.two_pow_pos _), ← Nat.pow_add, ← Nat.mul_add, Nat.add_comm j k]
  exact h
theorem low_lt {n x k : Nat} : x % 2 ^ (n * k) < 2 ^ (n * k) := Nat.mod_lt _ (Nat.two_pow_pos _)
theorem and_low (x s : Nat) : x &&& (x / 2 ^ s * 2 ^ s) = x / 2 ^ s * 2 ^ s := by
  apply Nat.eq_of_testBit_eq
  intro i
  rw [Nat.testBit_and, Nat.testBit_mul_two_pow, Nat.testBit_div_two_pow]
  by_cases h : s ≤ i
  · simp only [h, decide_true, Bool.true_and]
    rw [show i - s + s = i by lia]
    exact Bool.and_self _
  · simp [h]
theorem xor_low (x s : Nat) : Builtin.bitXor (x : Int) ((x / 2 ^ s * 2 ^ s : Nat) : Int) = ((x % 2 ^ s : Nat) : Int) := by
  rw [bitXor_and, bitAnd_pp (Int.natCast_nonneg _) (Int.natCast_nonneg _)]
  simp only [Int.toNat_natCast]
  rw [and_low]
  have := Nat.div_add_mod x (2 ^ s)
  have e : x / 2 ^ s * 2 ^ s = 2 ^ s * (x / 2 ^ s) := Nat.mul_comm _ _
  lia
end Mine
namespace Mine
noncomputable def val (n : Nat) (ds : Nat → Nat) (lo : Nat) : Nat → Nat
  | 0 => 0
  | k + 1 => ds lo + 2 ^ n * val n ds (lo + 1) k
theorem val_add (n : Nat) (ds : Nat → Nat) : ∀ (k lo j : Nat), val n ds lo (k + j) = val n ds lo k + 2 ^ (n * k) * val n ds (lo + k) j
  | 0, lo, j => by simp [val]
  | k + 1, lo, j => by
    rw [show k + 1 + j = (k + j) + 1 by lia]
    show ds lo + 2 ^ n * val n ds (lo + 1) (k + j) = ds lo + 2 ^ n * val n ds (lo + 1) k + 2 ^ (n * (k + 1)) * val n ds (lo + (k + 1)) j
    rw [val_add n ds k (lo + 1) j, Nat.mul_add, Nat.mul_add n k 1, Nat.mul_one, Nat.pow_add, show lo + 1 + k = lo + (k + 1) by lia, Nat.mul_comm (2 ^ (n * k)) (2 ^ n), Nat.mul_assoc]
    lia
theorem val_lt {n : Nat} {ds : Nat → Nat} : ∀ {k lo : Nat}, (∀ i, lo ≤ i → i < lo + k → ds i < 2 ^ n) → val n ds lo k < 2 ^ (n * k)
  | 0, lo, _ => by simp [val]
  | k + 1, lo, h => by
    have h1 := h lo (Nat.le_refl _) (by lia)
    have h2 := val_lt (n := n) (ds := ds) (k := k) (lo := lo + 1) fun i a b => h i (by lia) (by lia)
    show ds lo + 2 ^ n * val n ds (lo + 1) k < 2 ^ (n * (k + 1))
    rw [Nat.mul_add, Nat.mul_one, Nat.pow_add, Nat.mul_comm (2 ^ (n * k)) (2 ^ n)]
    have : 2 ^ n * (val n ds (lo + 1) k + 1) ≤ 2 ^ n * 2 ^ (n * k) := Nat.mul_le_mul_left _ h2
    rw [Nat.mul_add] at this
    lia
end Mine
namespace Mine
noncomputable def qd (n a b i : Nat) : Nat := ((a / 2 ^ (n * (i + 1)) % b) * 2 ^ n + dig n a i) / b
theorem long_step {A b p : Nat} (hb : 0 < b) (hp : 0 < p) : ((A / p % b) * p + A % p) / b + p * (A / p / b) = A / b := by
  have e1 := Nat.div_add_mod A p
  have e2 := Nat.div_add_mod (A / p) b
  have : A = b * (A / p / b * p) + (A / p % b * p + A % p) := by
    have h : p * (A / p) = b * (A / p / b * p) + A / p % b * p := by
      calc p * (A / p) = (A / p) * p := Nat.mul_comm _ _
        _ = (b * (A / p / b) + A / p % b) * p := by rw [e2]
        _ = b * (A / p / b * p) + A / p % b * p := by rw [Nat.add_mul, Nat.mul_assoc]
    lia
  calc ((A / p % b) * p + A % p) / b + p * (A / p / b) = (A / p / b * p) + ((A / p % b) * p + A % p) / b := by rw [Nat.mul_comm p, Nat.add_comm]
    _ = (b * (A / p / b * p) + (A / p % b * p + A % p)) / b := (Nat.mul_add_div hb _ _).symm
    _ = A / b := by rw [← this]
theorem div_pow (n a lo : Nat) : a / 2 ^ (n * (lo + 1)) = a / 2 ^ (n * lo) / 2 ^ n := by
  rw [Nat.div_div_eq_div_mul, ← Nat.pow_add, Nat.mul_add, Nat.mul_one]
theorem qd_step {n a b lo : Nat} (hb : 0 < b) : qd n a b lo + 2 ^ n * (a / 2 ^ (n * (lo + 1)) / b) = a / 2 ^ (n * lo) / b := by
  unfold qd dig
  rw [div_pow]
  exact long_step hb (Nat.two_pow_pos n)
theorem qd_val {n a b : Nat} (hb : 0 < b) : ∀ (k lo : Nat), val n (qd n a b) lo k + 2 ^ (n * k) * (a / 2 ^ (n * (lo + k)) / b) = a / 2 ^ (n * lo) / b
  | 0, lo => by simp [val]
  | k + 1, lo => by
    have ih := qd_val (n := n) (a := a) hb k (lo + 1)
    rw [show lo + 1 + k = lo + (k + 1) by lia] at ih
    have st := qd_step (n := n) (a := a) (lo := lo) hb
    rw [← ih, Nat.mul_add] at st
    show qd n a b lo + 2 ^ n * val n (qd n a b) (lo + 1) k + 2 ^ (n * (k + 1)) * (a / 2 ^ (n * (lo + (k + 1))) / b) = _
    rw [show n * (k + 1) = n + n * k by rw [Nat.mul_add, Nat.mul_one, Nat.add_comm], Nat.pow_add, Nat.mul_assoc, Nat.add_assoc]
    exact st
theorem qd_all {n a b c : Nat} (hb : 0 < b) (h : a < 2 ^ (n * c)) : val n (qd n a b) 0 c = a / b := by
  have := qd_val (n := n) (a := a) hb c 0
  rw [Nat.zero_add, Nat.div_eq_of_lt h] at this
  simpa using this
theorem qd_lt {n a b i : Nat} (hb : 0 < b) : qd n a b i < 2 ^ n := by
  unfold qd dig
  rw [Nat.div_lt_iff_lt_mul hb]
  have h1 : a / 2 ^ (n * (i + 1)) % b < b := Nat.mod_lt _ hb
  have h2 : a / 2 ^ (n * i) % 2 ^ n < 2 ^ n := Nat.mod_lt _ (Nat.two_pow_pos n)
  have h3 : (a / 2 ^ (n * (i + 1)) % b + 1) * 2 ^ n ≤ b * 2 ^ n := Nat.mul_le_mul_right _ h1
  rw [Nat.add_mul, Nat.one_mul, Nat.mul_comm b] at h3
  lia
theorem rem_step {n a b i : Nat} : ((a / 2 ^ (n * (i + 1)) % b) * 2 ^ n + dig n a i) % b = a / 2 ^ (n * i) % b := by
  unfold dig
  rw [div_pow]
  generalize a / 2 ^ (n * i) = A
  have e := Nat.div_add_mod A (2 ^ n)
  conv => rhs; rw [← e]
  rw [Nat.add_mod, Nat.mod_mul_mod, ← Nat.add_mod, Nat.mul_comm (A / 2 ^ n)]
end Mine
end
section
open PySem PySem.W PySem.Calls PyProof.Rows PyProof.Rows.LCg
namespace Mine
local macro_rules | `(tactic| walk_at "no such place") => `(tactic| fail)
local macro_rules | `(tactic| walk_at "eval Name") => `(tactic| (k_here; k_dflt (refine' nameX_Fb ?F ?c ?m ?d ?_ ?a ?b; (case a => rfl); (case b => rfl); (case F => k_asm); (case c => rfl); (case m => with_reducible assumption); (case d => with_reducible assumption); k_whole)))
noncomputable def inn8 : Stmt := nth (fnBody (nth top 8)) 1
noncomputable abbrev cl3 (x y z : Str) (c1 c2 c3 : Addr) : List (Str × Addr) := [(x, c1), (y, c2), (z, c3)]
noncomputable abbrev fn8 (cl : List (Str × Addr)) (doc pm cdv ct : Value) : FuncData :=
  fnX (Str.ofString "inner") (Str.ofString "_int2digits.<locals>.inner") (fnArgs inn8) (fnBody inn8) (fnScope inn8) cl .none .none doc pm none cdv ct
theorem dHalves {k lo : Nat} (hk2 : 2 ≤ k) : ∃ kl kr, k = kl + kr ∧ 0 < kl ∧ 0 < kr ∧ ((lo : Int) + ((lo + k : Nat) : Int)).fdiv (2 ^ Int.toNat 1) = ((lo + kl : Nat) : Int) := by
  refine ⟨k / 2, k - k / 2, by lia, by lia, by lia, ?_⟩
  rw [show ((2 : Int) ^ Int.toNat 1) = 2 from rfl, Int.fdiv_eq_ediv_of_nonneg _ (by decide)]
  lia
theorem dHalfs {a lo kl kr l r : Nat} (h0 : 0 < kl) (h1 : 0 < kr) (hd : a + (kl + kr) < r) (hle : lo + (kl + kr) ≤ l) : (a + 1 + kl < r ∧ a + 1 + kr < r) ∧ lo + kl ≤ l ∧ lo + kl + kr ≤ l ∧ kl < kl + kr ∧ kr < kl + kr ∧ kl ≤ l ∧ kr ≤ l := by
  refine ⟨⟨?_, ?_⟩, ?_, ?_, ?_, ?_, ?_, ?_⟩ <;> lia
theorem dHalfN {lo kl n : Nat} : (((lo + kl : Nat) : Int) - lo) * (n : Int) = ((n * kl : Nat) : Int) := by
  rw [show (((lo + kl : Nat) : Int) - lo) = (kl : Int) by lia, Int.mul_comm]
  simp
theorem dHalfA {lo kl kr : Nat} : (((lo + (kl + kr) : Nat)) : Int) = ((lo + kl + kr : Nat) : Int) := by rw [Nat.add_assoc]
theorem inner8_spec {prog : Program} {w : World} {mg mb : PySem.Str → Option Value} {p : Program} {ls : List Str} {f D c1 c2 c3 : Addr} {fo o1 o2 o3 : Obj} {doc pm cdv ct : Value} {n : Nat} {tn : Tok} (hn : n ≤ 8) (hfd : fo.data = .func (fn8 (cl3 (Str.ofString "n") (Str.ofString "inner") (Str.ofString "a_digits") c3 c2 c1) doc pm cdv ct)) (d1 : o1.data = .cell (some (.ref D))) (d2 : o2.data = .cell (some (.ref f))) (d3 : o3.data = .cell (some (.int n tn))) (hDa : D ∉ as) :
   ∀ (k : Nat) {A : Around} {E : Value → Shared → Prop} {s : Shared} {Q : Value → Shared → Prop} {lo : Nat} {x : Nat} {t1 t2 t3 : Tok} {ys : List Value} {oD : Obj}
   (X : (K w.params).In s.heap) (T : TopRead p ls mg mb s.heap) (hd : A.depth + k < recursionLimit)
   (hf : s.heap.get? f = some fo) (hcd : s.heap.CodeRec cdv (Str.ofString "_int2digits.<locals>.inner"))
   (h1 : s.heap.get? c1 = some o1) (h2 : s.heap.get? c2 = some o2) (h3 : s.heap.get? c3 = some o3)
   (hD : s.heap.get? D = some oD) (hL : IsL oD ys) (hk : 0 < k) (hle : lo + k ≤ ys.length) (hsz : ys.length ≤ 64) (hx : x < 2 ^ (n * k)) (hx64 : x < 2 ^ 64)
   (hQ : ∀ (h' : Heap) (tk : Nat) (ys' : List Value) (oD' : Obj), (∀ b o, b ≠ D → s.heap.get? b = some o → h'.get? b = some o) → h'.get? D = some oD' → IsL oD' ys' → ys'.length = ys.length →
     (∀ i, i < k → ∃ t, ys'[lo + i]? = some (.int (dig n x i : Nat) t)) → (∀ j, j < lo ∨ lo + k ≤ j → ys'[j]? = ys[j]?) → Q .none {s with heap := h', toks := tk}),
   wpAny (model prog w) A (call (.ref f) [.int x t1, .int lo t2, .int (lo + k : Nat) t3]) Q E s := by
  intro k
  induction k using Nat.strongRecOn with
  | ind k ih =>
  intro A E s Q lo x t1 t2 t3 ys oD X T hd hf hcd h1 h2 h3 hD hL hk hle hsz hx hx64 hQ
  k_dflt (refine' enterX [(Str.ofString "x", .int x t1), (Str.ofString "L", .int lo t2), (Str.ofString "R", .int (lo + k : Nat) t3)] T.nolimit hf hfd hcd (Nat.lt_of_le_of_lt (Nat.le_add_right _ _) hd) ?kb ?ks ?k3 ?k4 ?k5 ?k6 ?k7 ?k8 ?_)
  case kb => conv => lhs; whnf
  case ks => conv => lhs; whnf
  case k3 => exact BindsTo.of_eq rfl
  case k4 => exact locs rfl
  case k5 => decide
  case k6 => exact rfl
  case k7 => exact rfl
  case k8 => exact rfl
  intro h₁ L F N
  have H : Aside s.heap [(D, oD)] := fun p hp => by rw [List.mem_singleton.mp hp]; exact hD
  have cellne : ∀ {c : Addr} {o : Obj} {v : Option Value}, s.heap.get? c = some o → o.data = .cell v → D ≠ c := by
    rintro c o v e hd rfl
    rw [hD] at e
    cases e
    obtain ⟨_, _, hd'⟩ := hL
    rw [hd'] at hd
    cases hd
  have fne : D ≠ f := by
    rintro rfl
    rw [hD] at hf
    cases hf
    obtain ⟨_, _, hd'⟩ := hL
    rw [hd'] at hfd
    cases hfd
  have X' := gh_K X (hid := [(D, oD)]) (fun p hp => by rw [List.mem_singleton.mp hp]; exact hDa)
  have T' := gh_top T H (fun p hp => by rw [List.mem_singleton.mp hp]; exact hL.noDict)
  have g1 : (gh s.heap [(D, oD)]).get? c1 = some o1 := gh_get h1 fun p hp => by rw [List.mem_singleton.mp hp]; exact cellne h1 d1
  have g2 : (gh s.heap [(D, oD)]).get? c2 = some o2 := gh_get h2 fun p hp => by rw [List.mem_singleton.mp hp]; exact cellne h2 d2
  have g3 : (gh s.heap [(D, oD)]).get? c3 = some o3 := gh_get h3 fun p hp => by rw [List.mem_singleton.mp hp]; exact cellne h3 d3
  have gf : (gh s.heap [(D, oD)]).get? f = some fo := gh_get hf fun p hp => by rw [List.mem_singleton.mp hp]; exact fne
  have F' := gh_fr F [(D, oD)]
  have N' := gh_news F N H
  have gk : ∀ b o, b ≠ D → s.heap.get? b = some o → (gh s.heap [(D, oD)]).get? b = some o := fun b o hb e => gh_get e fun p hp => by rw [List.mem_singleton.mp hp]; exact Ne.symm hb
  have gcd : (gh s.heap [(D, oD)]).CodeRec cdv (Str.ofString "_int2digits.<locals>.inner") := by
    obtain ⟨c, oc, vs, t, e, ho, hd, hv⟩ := hcd
    refine ⟨c, oc, vs, t, e, gk c oc ?_ ho, hd, hv⟩
    rintro rfl
    rw [hD] at ho
    cases ho
    obtain ⟨_, _, hd'⟩ := hL
    rw [hd'] at hd
    cases hd
  clear F N
  simp only [List.nil_append] at N'
  generalize gh s.heap [(D, oD)] = g at *
  have hDL : D ≠ L := (N' _ List.mem_cons_self).2.1
  have hDg : g.get? D = none := (N' _ List.mem_cons_self).2.2
  k_steps
  · rename Fr _ _ _ _ => F2
    rename News _ _ _ _ => N2
    rename (lo : Int) + 1 = _ => hk1
    obtain rfl : k = 1 := by lia
    refine wpAny_setItem_list (hL.list (N2 _ List.mem_cons_self).1) (by lia) (by lia) (by rw [List.size_toArray]; lia) fun h' hl' hs' => ?_
    obtain ⟨oD', eD', hL'⟩ := isL_of hl'
    have F3 := turned (o₁ := oD) (o₂ := oD') F2 hDg hDL (fun b o hb e => hs'.extBut b o hb e)
    have N3 : News g L h' [(D, oD')] := fun p hp => by rw [List.mem_singleton.mp hp]; exact ⟨eD', hDL, hDg⟩
    have hset : (ys.toArray.setIfInBounds (lo : Int).toNat (.int (x : Int) t1)).toList = ys.set lo (.int (x : Int) t1) := by simp
    rw [hset] at hL'
    clear F2 N2
    k_steps
    refine hQ _ _ _ oD' (fun b o hb e => F3.keep b o (gk b o hb e)) eD' hL' (by simp) (fun i hi => ?_) fun j hj => ?_
    · obtain rfl : i = 0 := by lia
      exact ⟨t1, by rw [dig_one (by simpa using hx), Nat.add_zero, List.getElem?_set_self (by lia)]⟩
    · rw [List.getElem?_set_ne (by lia)]
  · rename Fr _ _ _ _ => F2
    rename News _ _ _ _ => N2
    rename ¬ ((lo : Int) + 1 = _) => hk1
    have hk2 : 2 ≤ k := by lia
    obtain ⟨kl, kr, rfl, hl0, hr0, e1⟩ := dHalves (lo := lo) hk2
    obtain ⟨⟨dl, dr⟩, ll, lr, kll, krr, kl64, _⟩ := dHalfs hl0 hr0 hd hle
    clear hk2 hk1 hk
    rw [e1, dHalfN] at F2
    rw [e1, dHalfN]
    dsimp only at F2 ⊢
    refine shrN fun t' tk => ?_
    k_steps
    have hnk : n * kl ≤ 1000000 := Nat.le_trans (Nat.mul_le_mul hn (Nat.le_trans kl64 hsz)) (by decide)
    refine shlN (Nat.lt_of_le_of_lt (Nat.div_le_self _ _) hx64) hnk fun t' tk => ?_
    k_steps
    rename Fr _ _ _ _ => F4
    rename News _ _ _ _ => N4
    rw [xor_low] at F4
    dsimp only at F4 ⊢
    rw [xor_low]
    refine ih kl kll (Frag.In.keeps X' F4.keep) (T'.keeps F4.keep) dl (F4.keep _ _ gf) (gcd.keeps F4.keep) (F4.keep _ _ g1) (F4.keep _ _ g2) (F4.keep _ _ g3) (N4 _ List.mem_cons_self).1 hL hl0 ll hsz low_lt (Nat.lt_of_le_of_lt (Nat.mod_le _ _) hx64)
      fun h5 tk5 ys1 oD1 hk5 hD1 hL1 hlen1 hdig1 hrest1 => ?_
    have F5 := turned (o₁ := oD) (o₂ := oD1) F4 hDg hDL hk5
    have N5 : News g L h5 [(D, oD1)] := fun p hp => by rw [List.mem_singleton.mp hp]; exact ⟨hD1, hDL, hDg⟩
    clear F4 N4
    k_steps
    rw [dHalfA]
    refine ih kr krr (Frag.In.keeps X' F5.keep) (T'.keeps F5.keep) dr (F5.keep _ _ gf) (gcd.keeps F5.keep) (F5.keep _ _ g1) (F5.keep _ _ g2) (F5.keep _ _ g3) (N5 _ List.mem_cons_self).1 hL1 hr0 (by rw [hlen1]; exact lr) (by rw [hlen1]; exact hsz) (high_lt hx) (Nat.lt_of_le_of_lt (Nat.div_le_self _ _) hx64)
      fun h6 tk6 ys2 oD2 hk6 hD2 hL2 hlen2 hdig2 hrest2 => ?_
    have F6 := turned (o₁ := oD1) (o₂ := oD2) F5 hDg hDL hk6
    have N6 : News g L h6 [(D, oD2)] := fun p hp => by rw [List.mem_singleton.mp hp]; exact ⟨hD2, hDL, hDg⟩
    clear F5 N5
    k_steps
    refine hQ _ _ ys2 oD2 (fun b o hb e => F6.keep b o (gk b o hb e)) hD2 hL2 (hlen2.trans hlen1) (fun i hi => ?_) fun j hj => ?_
    · by_cases hik : i < kl
      · obtain ⟨t, e⟩ := hdig1 i hik
        exact ⟨t, by rw [hrest2 _ (.inl (Nat.add_lt_add_left hik lo)), e, dig_low hik]⟩
      · obtain ⟨i', rfl⟩ := Nat.exists_eq_add_of_le (Nat.le_of_not_lt hik)
        obtain ⟨t, e⟩ := hdig2 i' (Nat.lt_of_add_lt_add_left hi)
        rw [dig_high, Nat.add_assoc] at e
        exact ⟨t, e⟩
    · rw [hrest2 j (hj.imp (fun h => Nat.lt_of_lt_of_le h (Nat.le_add_right _ _)) fun h => Nat.add_assoc lo kl kr ▸ h), hrest1 j (hj.imp id fun h => Nat.le_trans (Nat.add_le_add_left (Nat.le_add_right kl kr) lo) h)]
end Mine
namespace Mine
local macro_rules | `(tactic| walk_at "eval Name") => `(tactic| (k_here; k_dflt (refine' nameX_Fb ?F ?c ?m ?d ?_ ?a ?b; (case a => rfl); (case b => rfl); (case F => k_asm); (case c => rfl); (case m => with_reducible assumption); (case d => with_reducible assumption); k_whole)))
noncomputable def inn9 : Stmt := nth (fnBody (nth top 9)) 0
noncomputable abbrev fn9 (cl : List (Str × Addr)) (doc pm cdv ct : Value) : FuncData :=
  fnX (Str.ofString "inner") (Str.ofString "_digits2int.<locals>.inner") (fnArgs inn9) (fnBody inn9) (fnScope inn9) cl .none .none doc pm none cdv ct
theorem inner9_spec {prog : Program} {w : World} {mg mb : PySem.Str → Option Value} {p : Program} {ls : List Str} {f D c1 c2 c3 : Addr} {fo o1 o2 o3 : Obj} {doc pm cdv ct : Value} {n : Nat} {tn : Tok} {ys : List Value} {ds : Nat → Nat} (hn : n ≤ 4) (hfd : fo.data = .func (fn9 (cl3 (Str.ofString "n") (Str.ofString "inner") (Str.ofString "digits") c3 c2 c1) doc pm cdv ct)) (d1 : o1.data = .cell (some (.ref D))) (d2 : o2.data = .cell (some (.ref f))) (d3 : o3.data = .cell (some (.int n tn)))
   (hds : ∀ i, i < ys.length → ds i < 2 ^ n ∧ ∃ t, ys[i]? = some (.int (ds i : Nat) t)) (hsz : ys.length ≤ 15) :
   ∀ (k : Nat) {A : Around} {E : Value → Shared → Prop} {s : Shared} {Q : Value → Shared → Prop} {lo : Nat} {t2 t3 : Tok}
   (X : (K w.params).In s.heap) (T : TopRead p ls mg mb s.heap) (hd : A.depth + k < recursionLimit)
   (hf : s.heap.get? f = some fo) (hcd : s.heap.CodeRec cdv (Str.ofString "_digits2int.<locals>.inner"))
   (h1 : s.heap.get? c1 = some o1) (h2 : s.heap.get? c2 = some o2) (h3 : s.heap.get? c3 = some o3)
   (hD : s.heap.IsList D ys.toArray) (hk : 0 < k) (hle : lo + k ≤ ys.length)
   (hQ : ∀ (h' : Heap) (tk : Nat) (t : Tok), Ext s.heap h' → Q (.int (val n ds lo k : Nat) t) {s with heap := h', toks := tk}),
   wpAny (model prog w) A (call (.ref f) [.int lo t2, .int (lo + k : Nat) t3]) Q E s := by
  intro k
  induction k using Nat.strongRecOn with
  | ind k ih =>
  intro A E s Q lo t2 t3 X T hd hf hcd h1 h2 h3 hD hk hle hQ
  k_dflt (refine' enterX [(Str.ofString "L", .int lo t2), (Str.ofString "R", .int (lo + k : Nat) t3)] T.nolimit hf hfd hcd (Nat.lt_of_le_of_lt (Nat.le_add_right _ _) hd) ?kb ?ks ?k3 ?k4 ?k5 ?k6 ?k7 ?k8 ?_)
  case kb => conv => lhs; whnf
  case ks => conv => lhs; whnf
  case k3 => exact BindsTo.of_eq rfl
  case k4 => exact locs rfl
  case k5 => decide
  case k6 => exact rfl
  case k7 => exact rfl
  case k8 => exact rfl
  intro h₁ L F N
  k_steps
  · rename Fr _ _ _ _ => F2
    rename News _ _ _ _ => N2
    rename (lo : Int) + 1 = _ => hk1
    obtain rfl : k = 1 := by lia
    obtain ⟨_, t, e⟩ := hds lo (by lia)
    refine PyProof.Rows.item_list (hD.at fun o e => F2.keep D o e) (by lia) (by lia) (by simpa using e) ?_
    k_steps
    have : val n ds lo 1 = ds lo := by simp [val]
    rw [this] at hQ
    exact hQ _ _ _ F2.keep
  · rename Fr _ _ _ _ => F2
    rename News _ _ _ _ => N2
    rename ¬ ((lo : Int) + 1 = _) => hk1
    have hk2 : 2 ≤ k := by lia
    obtain ⟨kl, kr, rfl, hl0, hr0, e1⟩ := dHalves (lo := lo) hk2
    obtain ⟨⟨dl, dr⟩, ll, lr, kll, krr, kl15, kr15⟩ := dHalfs hl0 hr0 hd hle
    clear hk2 hk1 hk
    have hnk : n * kl ≤ 1000000 := Nat.le_trans (Nat.mul_le_mul hn (Nat.le_trans kl15 hsz)) (by decide)
    rw [e1, dHalfN] at F2
    rw [e1, dHalfA]
    dsimp only at F2 ⊢
    refine ih kr krr (Frag.In.keeps X F2.keep) (T.keeps F2.keep) dr (F2.keep _ _ hf) (hcd.keeps F2.keep) (F2.keep _ _ h1) (F2.keep _ _ h2) (F2.keep _ _ h3) (hD.at fun o e => F2.keep D o e) hr0 lr fun h5 tk5 t5 he5 => ?_
    have F5 := F2.keeps he5
    have N5 := N2.grown he5
    clear F2 N2
    k_steps
    have hv1 : val n ds (lo + kl) kr < 2 ^ 64 := Nat.lt_of_lt_of_le (val_lt fun i a b => (hds i (Nat.lt_of_lt_of_le b lr)).1) (Nat.pow_le_pow_right (by decide) (Nat.le_trans (Nat.mul_le_mul hn (Nat.le_trans kr15 hsz)) (by decide)))
    refine shlN hv1 hnk fun t6 tk6 => ?_
    k_steps
    refine ih kl kll (Frag.In.keeps X F5.keep) (T.keeps F5.keep) dl (F5.keep _ _ hf) (hcd.keeps F5.keep) (F5.keep _ _ h1) (F5.keep _ _ h2) (F5.keep _ _ h3) (hD.at fun o e => F5.keep D o e) hl0 ll fun h7 tk7 t7 he7 => ?_
    have F7 := F5.keeps he7
    have N7 := N5.grown he7
    clear F5 N5
    k_steps
    have hval : ((val n ds (lo + kl) kr * 2 ^ (n * kl) : Nat) : Int) + ((val n ds lo kl : Nat) : Int) = ((val n ds lo (kl + kr) : Nat) : Int) := by
      rw [val_add n ds kl lo kr, Nat.add_comm (val n ds lo kl), Nat.mul_comm (2 ^ (n * kl))]
      rfl
    rw [← hval] at hQ
    exact hQ _ _ _ F7.keep
end Mine
namespace Mine
theorem as_get {P : Params} {D : Addr} (h : D ∈ as) : ∃ o, (K P).lookup D = some o := by
  have key : ∀ D ∈ as, ((K P).lookup D).isSome = true := List.all_eq_true.mp (by kernel_rfl)
  exact Option.isSome_iff_exists.mp (key D h)
theorem not_as {P : Params} {g : Heap} {D : Addr} (X : (K P).In g) (h : g.get? D = none) : D ∉ as := fun hm => by
  obtain ⟨o, e⟩ := as_get (P := P) hm
  rw [X D o e] at h
  cases h
noncomputable def Took (n : Nat) (o o' : Obj) (c : Addr) : Prop := (o = tabObj #[] ∧ n ≤ c) ∨ o = o'
noncomputable def TookR (n : Nat) (o o' : Obj) (c : Addr) (oc : Obj) (R : List (Addr × Obj)) : Prop := (o = tabObj #[] ∧ R = [] ∧ n ≤ c) ∨ (o = o' ∧ R = [(c, oc)])
theorem TookR.took {n : Nat} {o o' : Obj} {c : Addr} {oc : Obj} {R : List (Addr × Obj)} (x : TookR n o o' c oc R) : Took n o o' c := x.elim (fun h => .inl ⟨h.1, h.2.2⟩) fun h => .inr h.1
noncomputable def TabIn (l k : Nat) (qual : Str) (o : Obj) (R : List (Addr × Obj)) : Prop := (o = tabObj #[] ∧ R = []) ∨ ∃ c oc, o = tabObj #[rawInt l, rawInt k, .ref c] ∧ R = [(c, oc)] ∧ CodeOb oc qual
theorem list_ne_tab {l c D P : Nat} {qual : Str} {h : Heap} {o : Obj} {ys : Array Value} (x : h.IsList D ys) (e : h.get? P = some o) (t : TabAt l c qual h o) : D ≠ P := by
  rintro rfl
  obtain ⟨o', e', _, _, hd⟩ := x
  rw [e] at e'
  rcases t with rfl | ⟨_, rfl, _⟩
  · cases e'; cases hd
  · cases e'; cases hd
theorem CodeOb.may {oc : Obj} {qual : Str} (x : CodeOb oc qual) : May oc := by
  obtain ⟨vs, t, hd, _⟩ := x
  refine ⟨fun es ep e => ?_, fun e => ?_⟩
  · rw [hd] at e; cases e
  · rw [hd] at e; cases e
theorem tabIn_of {l k : Nat} {qual : Str} {h : Heap} {o : Obj} (x : TabAt l k qual h o) : ∃ R, TabIn l k qual o R ∧ ∀ p ∈ R, h.get? p.1 = some p.2 ∧ CodeOb p.2 qual := by
  rcases x with rfl | ⟨c, rfl, hr⟩
  · exact ⟨[], .inl ⟨rfl, rfl⟩, fun _ h => nomatch h⟩
  · obtain ⟨oc, e, ho⟩ := codeOb_of hr
    exact ⟨[(c, oc)], .inr ⟨c, oc, rfl, rfl, ho⟩, fun p hp => by rw [List.mem_singleton.mp hp]; exact ⟨e, ho⟩⟩
noncomputable def notCode (qual : Str) (o : Obj) : Bool := match o.data with
  | .fields vs => (match (vs[1]? : Option Value) with
    | some (Value.str q _) => q != qual
    | _ => true)
  | _ => true
theorem code_not_as {P : Params} {h : Heap} {c : Addr} {oc : Obj} {qual : Str} (hK : (K P).all (fun x => notCode qual x.2) = true) (X : (K P).In h) (e : h.get? c = some oc) (ho : CodeOb oc qual) : c ∉ as := fun hm => by
  obtain ⟨o, eo⟩ := as_get (P := P) hm
  have e2 := X c o eo
  rw [e] at e2
  cases e2
  have hb := List.all_eq_true.mp hK (c, oc) (mem_of_lookupK eo)
  obtain ⟨vs, t, hd, hv⟩ := ho
  have : notCode qual oc = false := by
    unfold notCode
    rw [hd]
    simp [hv]
  exact absurd (this.symm.trans hb) (by decide)
theorem nestG {M : Model} {A : Around} {E : Value → Shared → Prop} {s : Shared} {h₀ : Heap} {L a c P : Addr} {m mg mb : Str → Option Value} {cn : Str} {cs : Scope} {ccd : Value} {cl : List (Str × Addr)} {news R : List (Addr × Obj)} {g : Obj → List (Addr × Obj)}
  {p : Program} {loose : List Str} {mean : ExcName → Option Value} {name qual : Str} {params : Arguments} {body : List Stmt} {scope : Scope} {pos : Pos} {clos : List (Str × Addr)} {Q : Value → Shared → Prop} {o : Obj} {n : Nat} {q₀ : Addr × Obj}
  (F : Fr h₀ L s.heap m) (N : News h₀ L s.heap news) (T : Top p loose mean mg mb h₀) (C : CodeHd h₀ c P) (hcd : ccd = .ref c) (U : UpdF P o news g) (hT : TabIn pos.line pos.col qual o R) (hR : ∀ p ∈ R, p ∈ news) (hq₀ : q₀ ∈ news) (hn : n ≤ q₀.1)
    (hcl : closureFor scope (envX cn cs L a ccd cl) = pure clos)
    (h : ∀ f c' oc ctv doc h' tk, Fr h₀ L h' m → News h₀ L h' ((f, fnMade name qual params body scope clos doc ((mg "__name__").getD .none) c' ctv) :: (c', oc) :: g (tabObj #[rawInt pos.line, rawInt pos.col, .ref c'])) → CodeOb oc qual →
      TookR n o (tabObj #[rawInt pos.line, rawInt pos.col, .ref c']) c' oc R → (∀ q ∈ g o, (∀ p ∈ R, p.1 ≠ q.1) → @Ne Nat c' q.1) → (∀ q ∈ g o, q.1 < f) → c' < f → Q (.ref f) { s with heap := h', toks := tk }) :
    wpAny M A (makeFunction name qual params (.stmts body) scope (envX cn cs L a ccd cl) [] [] [] pos pos.line) Q E s := by
  obtain ⟨pre, post, e, hg, _, _⟩ := U.split
  have hgo : g o = news := by rw [hg, e]
  rcases hT with ⟨rfl, rfl⟩ | ⟨c', oc, rfl, rfl, hrec⟩
  · refine nest_K F N T C hcd U trivial rfl hcl fun f c' oc vs t ctv doc h' tk F' N' hd hv l1 l2 => ?_
    exact h f c' oc ctv doc h' tk F' N' ⟨vs, t, hd, hv⟩ (.inl ⟨rfl, rfl, Nat.le_trans hn (Nat.le_of_lt (l1 _ hq₀))⟩) (fun q hq _ => Nat.ne_of_gt (l1 q (hgo ▸ hq))) (fun q hq => Nat.lt_trans (l1 q (hgo ▸ hq)) l2) l2
  · refine nestHit_K (c' := c') (ps := #[rawInt pos.line, rawInt pos.col, .ref c']) F N T C hcd (e ▸ List.mem_append_right _ List.mem_cons_self) (by simp [TriplesOk, rawInt]) (by simp [codeAmong, rawInt]) hcl fun f ctv doc h' tk F' N' l1 => ?_
    have hc := hR (c', oc) List.mem_cons_self
    refine h f c' oc ctv doc h' tk F' (nSub N' fun q hq => ?_) hrec (.inr ⟨rfl, rfl⟩) (fun q _ hr => hr (c', oc) List.mem_cons_self) (fun q hq => l1 q (hgo ▸ hq)) (l1 _ hc)
    rw [hgo] at hq
    rcases List.mem_cons.mp hq with rfl | hq
    · exact List.mem_cons_self
    · rcases List.mem_cons.mp hq with rfl | hq
      · exact List.mem_cons_of_mem _ hc
      · exact List.mem_cons_of_mem _ hq
structure EntG (P : Params) (qual : Str) (h g : Heap) (L : Addr) (a : Addr) (o : Obj) (R : List (Addr × Obj)) : Prop where
  K : (Mine.K P).In g
  lt : ∀ p ∈ (a, o) :: R, p.1 < L
  old : ∀ b o', b ≠ a → (∀ p ∈ R, p.1 ≠ b) → h.get? b = some o' → g.get? b = some o'
  sub : ∀ b o', g.get? b = some o' → h.get? b = some o'
  gone : g.get? a = none
  inR : ∀ p ∈ R, h.get? p.1 = some p.2 ∧ CodeOb p.2 qual
theorem EntG.ne {P : Params} {qual : Str} {h g : Heap} {L a : Addr} {o : Obj} {R : List (Addr × Obj)} (x : EntG P qual h g L a o R) : (∀ p ∈ R, p.1 ≠ L) ∧ (∀ p ∈ R, p.1 ≠ L + 1) ∧ (∀ p ∈ R, p.1 ≠ L + 1 + 1) ∧ (∀ p ∈ R, p.1 ≠ L + 1 + 1 + 1) := by
  have k : ∀ p ∈ R, @LT.lt Nat _ p.1 L := fun p hp => x.lt p (List.mem_cons_of_mem _ hp)
  exact ⟨fun p hp => Nat.ne_of_lt (k p hp), fun p hp => Nat.ne_of_lt (Nat.lt_succ_of_lt (k p hp)), fun p hp => Nat.ne_of_lt (Nat.lt_succ_of_lt (Nat.lt_succ_of_lt (k p hp))), fun p hp => Nat.ne_of_lt (Nat.lt_succ_of_lt (Nat.lt_succ_of_lt (Nat.lt_succ_of_lt (k p hp))))⟩
theorem EntG.list {P : Params} {qual : Str} {h g : Heap} {L a D : Addr} {o : Obj} {R : List (Addr × Obj)} {l k : Nat} {ys : Array Value} (x : EntG P qual h g L a o R) (ht : h.get? a = some o) (hT : TabAt l k qual h o) (hD : h.IsList D ys) : g.IsList D ys :=
  hD.at fun o' e => x.old D o' (list_ne_tab hD ht hT) (fun p hp => by
    rintro rfl
    obtain ⟨e1, ho⟩ := x.inR p hp
    obtain ⟨o2, e2, _, _, hd⟩ := hD
    rw [e1] at e2
    cases e2
    obtain ⟨vs, t, hd', _⟩ := ho
    rw [hd] at hd'
    cases hd') e
theorem EntG.back {P : Params} {qual : Str} {h g h' : Heap} {L a c : Addr} {o o' oc : Obj} {R : List (Addr × Obj)} {n : Nat} {m : Str → Option Value} (x : EntG P qual h g L a o R) (F : Fr g L h' m) (hK : TookR n o o' c oc R) (ec : h'.get? c = some oc) : ExtBut [a] h h' := fun b ob hb e => by
  by_cases hr : ∃ p ∈ R, p.1 = b
  · obtain ⟨p, hp, rfl⟩ := hr
    rcases hK with ⟨_, rfl, _⟩ | ⟨_, rfl⟩
    · cases hp
    · obtain rfl := List.mem_singleton.mp hp
      rw [(x.inR (c, oc) hp).1] at e
      cases e
      exact ec
  · exact F.keep b ob (x.old b ob (by simpa using hb) (fun p hp q => hr ⟨p, hp, q⟩) e)
theorem entG {P : Params} {qual : Str} {h h₁ : Heap} {L a : Addr} {o : Obj} {l k : Nat} {p : Program} {loose : List Str} {mean : ExcName → Option Value} {mg mb : Str → Option Value} {m : Str → Option Value} {news : List (Addr × Obj)} (hK : (Mine.K P).all (fun x => notCode qual x.2) = true) (ha : a ∉ as)
    (X : (Mine.K P).In h) (T : Top p loose mean mg mb h) (F : Fr h L h₁ m) (N : News h L h₁ news) (ht : h.get? a = some o) (hT : TabAt l k qual h o) :
    ∃ g R, EntG P qual h g L a o R ∧ TabIn l k qual o R ∧ Top topProg (loose ++ (recsOf p).map (·.name) ++ (litsOf p).map (·.1) ++ (clssOf p loose).map (·.name)) mean mg mb g ∧ Fr g L h₁ m ∧ News g L h₁ (news ++ ((a, o) :: R)) := by
  obtain ⟨R, hTI, hR⟩ := tabIn_of hT
  have H : Aside h ((a, o) :: R) := fun p hp => by
    rcases List.mem_cons.mp hp with rfl | hp
    · exact ht
    · exact (hR p hp).1
  have N' := gh_news F N H
  refine ⟨gh h ((a, o) :: R), R, ⟨gh_K X fun p hp => ?_, gh_lt F H, fun b o' hb hr e => gh_get e fun p hp => ?_, fun b o' e => of_hideAll _ e, (N' (a, o) (List.mem_append_right _ List.mem_cons_self)).2.2, hR⟩, hTI, gh_Top T H fun p hp => ?_, gh_fr F _, N'⟩
  · rcases List.mem_cons.mp hp with rfl | hp
    · exact ha
    · exact code_not_as hK X (hR p hp).1 (hR p hp).2
  · rcases List.mem_cons.mp hp with rfl | hp
    · exact Ne.symm hb
    · exact hr p hp
  · rcases List.mem_cons.mp hp with rfl | hp
    · exact hT.may
    · exact (hR p hp).2.may
theorem K_q86 (P : Params) : (K P).all (fun x => notCode q86 x.2) = true := by kernel_rfl
theorem K_q93 (P : Params) : (K P).all (fun x => notCode q93 x.2) = true := by kernel_rfl
end Mine
namespace Mine
local macro_rules | `(tactic| walk_at "no such place") => `(tactic| fail)
local macro_rules | `(tactic| k_all) => `(tactic| first | assumption | (refine' all_cons ?a ?b; (case a => k_ne); (case b => k_all)))
local macro_rules | `(tactic| walk_at $k) => Mine.stopAt ["exec FunctionDef"] k
theorem digits2int_G {prog : Program} {w : World} {A : Around} {E : Value → Shared → Prop} {s : Shared} {mean : ExcName → Option Value} {mg mb : PySem.Str → Option Value} {ls : List Str} {D : Addr} {ys : List Value} {ds : Nat → Nat} {n : Nat} {tn : Tok} {o : Obj} {Q : Value → Shared → Prop}
   (X : (K w.params).In s.heap) (T : Top topProg ls mean mg mb s.heap) (hd : A.depth + 20 < recursionLimit) (ht : s.heap.get? 93 = some o) (hT : TabAt 96 4 q93 s.heap o)
   (hD : s.heap.IsList D ys.toArray) (hn : n ≤ 4) (hds : ∀ i, i < ys.length → ds i < 2 ^ n ∧ ∃ t, ys[i]? = some (.int (ds i : Nat) t)) (hsz : ys.length ≤ 15)
   (hQ : ∀ (h' : Heap) (tk : Nat) (t : Tok) (c : Addr) (oc : Obj), ExtBut [93] s.heap h' → h'.get? 93 = some (t93 c) → h'.get? c = some oc → CodeOb oc q93 → Took s.heap.objs.size o (t93 c) c → Q (.int (val n ds 0 ys.length : Nat) t) {s with heap := h', toks := tk}) :
   wpAny (model prog w) A (call (.ref 98) [.ref D, .int n tn]) Q E s := by
  k_dflt (refine' enterC [(Str.ofString "digits", .ref D), (Str.ofString "n", .int n tn)] X T.nolimit ?k1 ?k2 (by lia) ?kb ?ks ?k3 ?k4 ?k5 ?k6 ?k7 ?k8 ?_)
  case k1 => k_dflt k_is
  case k2 => k_dflt k_is
  case kb => conv => lhs; whnf
  case ks => conv => lhs; whnf
  case k3 => exact BindsTo.of_eq rfl
  case k4 => rfl
  case k5 => decide
  case k6 => exact rfl
  case k7 => exact rfl
  case k8 => exact rfl
  intro h₁ L tk cells F N Y lc
  obtain ⟨o1, o2, o3, rfl, d1, d2, d3⟩ := CellsAre3 Y
  obtain ⟨g, R, G, hTI, T', F', N'⟩ := entG (K_q93 _) (by decide) X T F N ht hT
  have X' := G.K
  have TR := topRead_of T'
  have gD := G.list ht hT hD
  have hsl : s.heap.objs.size ≤ L := F.above
  have C : CodeHd g 97 93 := ⟨o97 w.params, _, _, _, _, _, _, _, _, X' 97 _ (by kernel_rfl), rfl, rfl, rfl, rfl, rfl, rfl, rfl, rfl, by decide⟩
  have hl93 : (93 : Nat) < L := G.lt _ List.mem_cons_self
  obtain ⟨r0, r1, r2, r3⟩ := G.ne
  have N2 : News g L h₁ ((L + 1 + 1 + 1, o1) :: (L + 1 + 1, o2) :: (L + 1, o3) :: (93, o) :: R) := N'
  have hR93 : ∀ p ∈ R, p.1 ≠ 93 := fun p hp e => by
    have e1 := (G.inR p hp).1
    have ho := (G.inR p hp).2
    rw [e] at e1
    exact codeRec_ne (ho.rec e1) ht hT rfl
  clear F N N' hD
  k_steps
  refine Stop.mk (nestDef_K rfl rfl rfl (nestG (P := 93) (q₀ := (L + 1, o3)) (n := s.heap.objs.size) F' N2 T' C rfl (by k_updF) hTI (fun p hp => List.mem_cons_of_mem _ (List.mem_cons_of_mem _ (List.mem_cons_of_mem _ (List.mem_cons_of_mem _ hp)))) (by k_mem) (Nat.le_succ_of_le hsl) rfl fun f5 c5 oc5 ct5 dc5 h5 tk5 F5 N5 hc5 hK hne l5 lc5 => ?_))
  have n1 := hne (L + 1, o3) (by k_mem) r1
  have n2 := hne (L + 1 + 1, o2) (by k_mem) r2
  have n3 := hne (L + 1 + 1 + 1, o1) (by k_mem) r3
  clear hne
  have l5' := allLt_of l5
  simp only [AllLt] at l5'
  have N6 := nPickE N5 [0, 1, 2, 3, 4, 5]
  simp only [pickE, List.drop] at N6
  clear F' N2 l5 N5
  k_steps
  · rename_i h6 o6 F6 N6 d6 a6
    obtain rfl : ys = [] := by simpa using a6
    exact hQ h6 _ _ c5 oc5 (G.back F6 hK (N6.get (by k_mem))) (N6.get (by k_mem)) (N6.get (by k_mem)) hc5 hK.took
  · rename_i h6 o6 F6 N6 d6 a6
    have hpos : 0 < ys.length := by cases ys with | nil => cases a6 | cons => simp
    refine PyProof.Rows.len_list (gD.at fun o e => F6.keep D o e) (by rw [List.size_toArray]; lia) ?_
    rw [show ((ys.toArray.size : Nat) : Int) = ((0 + ys.length : Nat) : Int) by rw [List.size_toArray, Nat.zero_add]]
    k_steps
    refine inner9_spec (s := { s with heap := h6, toks := _ }) (lo := 0) hn (fo := _) rfl d3 d6 d2 hds hsz ys.length (Frag.In.keeps X' F6.keep) (TR.keeps F6.keep) (by show A.depth + 1 + ys.length < _; lia) (N6 _ List.mem_cons_self).1 (hc5.rec (N6.get (by k_mem))) (N6.get (by k_mem)) (N6.get (by k_mem)) (N6.get (by k_mem)) (gD.at fun o e => F6.keep D o e) hpos (by lia) fun h7 tk7 t7 he7 => ?_
    have F7 := F6.keeps he7
    have N7 := N6.grown he7
    exact hQ h7 tk7 t7 c5 oc5 (G.back F7 hK (N7.get (by k_mem))) (N7.get (by k_mem)) (N7.get (by k_mem)) hc5 hK.took
end Mine
namespace Mine
noncomputable def cnt (n a : Nat) : Nat := (Builtin.Int.intBits (a : Int) + n - 1) / n
theorem bits_le {a : Nat} (ha : a < 2 ^ 15) : Builtin.Int.intBits (a : Int) ≤ 15 := intBits_le_iff.mpr (by simpa using ha)
theorem cnt_le {n a : Nat} (h0 : 0 < n) (ha : a < 2 ^ 15) : cnt n a ≤ 15 := by
  unfold cnt
  have := bits_le ha
  refine Nat.div_le_of_le_mul ?_
  have : 1 * 15 ≤ n * 15 := Nat.mul_le_mul_right 15 h0
  have h2 : n + 14 ≤ n * 15 := by lia
  lia
theorem cnt_fdiv {n a : Nat} (h0 : 0 < n) : ((Builtin.Int.intBits (a : Int) : Int) + (n : Int) - 1).fdiv (n : Int) = ((cnt n a : Nat) : Int) := by
  rw [show ((Builtin.Int.intBits (a : Int) : Int) + (n : Int) - 1) = ((Builtin.Int.intBits (a : Int) + n - 1 : Nat) : Int) by lia, Int.fdiv_eq_ediv_of_nonneg _ (Int.natCast_nonneg n)]
  rfl
theorem bits_cnt {n a : Nat} (h0 : 0 < n) : Builtin.Int.intBits (a : Int) ≤ n * cnt n a := by
  unfold cnt
  generalize Builtin.Int.intBits (a : Int) = b
  have := Nat.lt_mul_div_succ (b + n - 1) h0
  rw [Nat.mul_add, Nat.mul_one] at this
  lia
theorem lt_cnt {n a : Nat} (h0 : 0 < n) : a < 2 ^ (n * cnt n a) := by
  have := (intBits_le_iff (m := n * cnt n a) (x := (a : Int))).mp (bits_cnt h0)
  simpa using this
theorem cnt_pos {n a : Nat} (h0 : 0 < n) (ha : (a : Int) ≠ 0) : 0 < cnt n a := by
  rcases Nat.eq_zero_or_pos (cnt n a) with h | h
  · have := lt_cnt (n := n) (a := a) h0
    rw [h, Nat.mul_zero] at this
    lia
  · exact h
theorem cnt_zero {n a : Nat} (h0 : 0 < n) (ha : (a : Int) = 0) : cnt n a = 0 := by
  unfold cnt
  rw [ha]
  show (0 + n - 1) / n = 0
  exact Nat.div_eq_of_lt (by lia)
local macro_rules | `(tactic| k_all) => `(tactic| first | assumption | (refine' all_cons ?a ?b; (case a => k_ne); (case b => k_all)))
local macro_rules | `(tactic| walk_at $k) => Mine.stopAt ["exec FunctionDef"] k
theorem int2digits_G {prog : Program} {w : World} {A : Around} {E : Value → Shared → Prop} {s : Shared} {mean : ExcName → Option Value} {mg mb : PySem.Str → Option Value} {ls : List Str} {a n : Nat} {ta tn : Tok} {o : Obj} {Q : Value → Shared → Prop}
   (X : (K w.params).In s.heap) (T : Top topProg ls mean mg mb s.heap) (hd : A.depth + 20 < recursionLimit) (ht : s.heap.get? 86 = some o) (hT : TabAt 81 4 q86 s.heap o)
   (hn0 : 0 < n) (hn : n ≤ 4) (ha : a < 2 ^ 15)
   (hQ : ∀ (h' : Heap) (tk : Nat) (r : Addr) (oD : Obj) (ys : List Value) (c : Addr) (oc : Obj), ExtBut [86] s.heap h' → h'.get? 86 = some (t86 c) → h'.get? c = some oc → CodeOb oc q86 → Took s.heap.objs.size o (t86 c) c → c ≠ r → s.heap.objs.size ≤ r → h'.get? r = some oD → IsL oD ys → ys.length = cnt n a →
     (∀ i, i < cnt n a → ∃ t, ys[i]? = some (.int (dig n a i : Nat) t)) → Q (.ref r) {s with heap := h', toks := tk}) :
   wpAny (model prog w) A (call (.ref 91) [.int a ta, .int n tn]) Q E s := by
  k_dflt (refine' enterC [(Str.ofString "a", .int a ta), (Str.ofString "n", .int n tn)] X T.nolimit ?k1 ?k2 (by lia) ?kb ?ks ?k3 ?k4 ?k5 ?k6 ?k7 ?k8 ?_)
  case k1 => k_dflt k_is
  case k2 => k_dflt k_is
  case kb => conv => lhs; whnf
  case ks => conv => lhs; whnf
  case k3 => exact BindsTo.of_eq rfl
  case k4 => rfl
  case k5 => decide
  case k6 => exact rfl
  case k7 => exact rfl
  case k8 => exact rfl
  intro h₁ L tk0 cells F N Y lc
  obtain ⟨o1, o2, o3, rfl, d1, d2, d3⟩ := CellsAre3 Y
  obtain ⟨g, R, G, hTI, T', F', N'⟩ := entG (K_q86 _) (by decide) X T F N ht hT
  have X' := G.K
  have TR := topRead_of T'
  have hsl : s.heap.objs.size ≤ L := F.above
  have C : CodeHd g 90 86 := ⟨o90 w.params, _, _, _, _, _, _, _, _, X' 90 _ (by kernel_rfl), rfl, rfl, rfl, rfl, rfl, rfl, rfl, rfl, by decide⟩
  have hl86 : (86 : Nat) < L := G.lt _ List.mem_cons_self
  obtain ⟨r0, r1, r2, r3⟩ := G.ne
  have N2 : News g L h₁ ((L + 1 + 1 + 1, o1) :: (L + 1 + 1, o2) :: (L + 1, o3) :: (86, o) :: R) := N'
  have hR86 : ∀ p ∈ R, p.1 ≠ 86 := fun p hp e => by
    have e1 := (G.inR p hp).1
    have ho := (G.inR p hp).2
    rw [e] at e1
    exact codeRec_ne (ho.rec e1) ht hT rfl
  clear F N N'
  k_steps
  rename_i l5 h5 F5 N5 l15
  rw [cnt_fdiv hn0]
  have hc15 := cnt_le hn0 ha
  refine PySem.W.KMa.mul (vs := [.int 0 tk0]) (ws := List.replicate (cnt n a) (.int 0 tk0)) F5 N5 (News.isList N5 List.mem_cons_self) (by lia) (by lia) (by simp; lia) (by rw [Int.toNat_natCast]; exact List.flatten_replicate_singleton) fun D h6 F6 N6 lD => ?_
  have lD' := allLt_of lD
  simp only [AllLt] at lD'
  have rD : ∀ p ∈ R, p.1 ≠ D := fun p hp => Nat.ne_of_lt (lD p (by
    repeat (first | exact hp | refine List.mem_cons_of_mem _ ?_)))
  clear F5 N5 lD
  k_steps
  rename_i h7 oa F7 N7 da
  refine Stop.mk (nestDef_K rfl rfl rfl (nestG (P := 86) (q₀ := (L + 1, o3)) (n := s.heap.objs.size) F7 N7 T' C rfl (by k_updF) hTI (fun p hp => by repeat (first | exact hp | refine List.mem_cons_of_mem _ ?_)) (by k_mem) (Nat.le_succ_of_le hsl) rfl fun f5 c5 oc5 ct5 dc5 h8 tk8 F8 N8 hc5 hK hne l8 lc8 => ?_))
  have n1 := hne (L + 1, o3) (by k_mem) r1
  have n2 := hne (L + 1 + 1, oa) (by k_mem) r2
  have n3 := hne (L + 1 + 1 + 1, o1) (by k_mem) r3
  have hrecD : c5 ≠ D := hne (D, _) List.mem_cons_self rD
  have l8' := allLt_of l8
  simp only [AllLt] at l8'
  have N9 := nPickE N8 [0, 1, 2, 4, 5, 6, 7]
  simp only [pickE, List.drop] at N9
  have hsz : s.heap.objs.size ≤ D := by lia
  clear F7 N7 l8 N8 hne
  k_steps
  · rename_i h9 oi F9 N9 di ha0
    have hcp := cnt_pos hn0 ha0
    have hD9 := N9 (D, W.listOf (List.replicate (cnt n a) (Value.int 0 tk0)).toArray 0) (by k_mem)
    refine PyProof.Rows.len_list (News.isList N9 (show (D, W.listOf (List.replicate (cnt n a) (Value.int 0 tk0)).toArray 0) ∈ _ by k_mem)) (by rw [List.size_toArray, List.length_replicate]; lia) ?_
    rw [show (((List.replicate (cnt n a) (Value.int 0 tk0)).toArray.size : Nat) : Int) = ((0 + cnt n a : Nat) : Int) by rw [List.size_toArray, List.length_replicate, Nat.zero_add]]
    k_steps
    refine inner8_spec (s := { s with heap := h9, toks := _ }) (lo := 0) (ys := List.replicate (cnt n a) (Value.int 0 tk0)) (Nat.le_trans hn (by decide)) (fo := _) rfl da di d3 (not_as X' hD9.2.2) (cnt n a) (Frag.In.keeps X' F9.keep) (TR.keeps F9.keep) (by show A.depth + 1 + cnt n a < _; lia) (N9 _ List.mem_cons_self).1 (hc5.rec (N9.get (by k_mem))) (N9.get (by k_mem)) (N9.get (by k_mem)) (N9.get (by k_mem))
      hD9.1 ⟨rfl, 0, rfl⟩ hcp (by simp) (by rw [List.length_replicate]; lia) (lt_cnt hn0) (by lia) fun h10 tk10 ys10 oD10 hk10 hD10 hL10 hlen10 hdig10 _ => ?_
    have F10 := turned (o₁ := o3) (o₂ := o3) F9 hD9.2.2 hD9.2.1 hk10
    have N10 : News g L h10 [(L + 1 + 1, oa)] := fun p hp => by
      rw [List.mem_singleton.mp hp]
      have e := N9 (L + 1 + 1, oa) (by k_mem)
      exact ⟨hk10 _ _ (neN (by lia)) e.1, e.2⟩
    have e86 := hk10 86 _ (neN (by lia)) (N9.get (a := 86) (by k_mem))
    have ec5 := hk10 _ _ hrecD (N9.get (a := c5) (o := oc5) (by k_mem))
    clear N9 F9
    k_steps
    exact hQ _ _ D oD10 ys10 c5 oc5 (G.back F10 hK ec5) e86 ec5 hc5 hK.took hrecD hsz hD10 hL10 (by simpa using hlen10) (fun i hi => by simpa using hdig10 i hi)
  · rename_i h9 oi F9 N9 di ha0
    have hc0 := cnt_zero (n := n) hn0 ha0
    have ec5 := N9.get (a := c5) (o := oc5) (by k_mem)
    exact hQ _ _ D _ (List.replicate (cnt n a) (Value.int 0 tk0)) c5 oc5 (G.back F9 hK ec5) (N9.get (a := 86) (by k_mem)) ec5 hc5 hK.took hrecD hsz (N9.get (show (D, W.listOf (List.replicate (cnt n a) (Value.int 0 tk0)).toArray 0) ∈ _ by k_mem)) ⟨rfl, 0, rfl⟩ (by simp) (fun i hi => absurd (hc0 ▸ hi) (Nat.not_lt_zero i))
end Mine
namespace Mine
/- the code tables of the digit functions, empty or filled -/
structure TabsG (h : Heap) : Prop where
  a : ∃ o, h.get? 86 = some o ∧ TabAt 81 4 q86 h o
  b : ∃ o, h.get? 93 = some o ∧ TabAt 96 4 q93 h o
noncomputable def TabTo (P : Addr) (l k : Nat) (qual : Str) (h h' : Heap) : Prop :=
  h'.get? P = h.get? P ∨ ∃ c oc, h'.get? P = some (tabObj #[rawInt l, rawInt k, .ref c]) ∧ h'.get? c = some oc ∧ CodeOb oc qual ∧ h.objs.size ≤ c
structure TabsTo (h h' : Heap) : Prop where
  ext : ExtBut [86, 93] h h'
  a : TabTo 86 81 4 q86 h h'
  b : TabTo 93 96 4 q93 h h'
theorem nin2 {b : Addr} (h : b ≠ 86) (h' : b ≠ 93) : b ∉ ([86, 93] : List Addr) := fun x => by
  rcases List.mem_cons.mp x with e | x
  · exact h e
  · exact h' (List.mem_singleton.mp x)
theorem out2 {b : Addr} (h : b ∉ ([86, 93] : List Addr)) : b ≠ 86 ∧ b ≠ 93 := ⟨fun e => h (e ▸ .head _), fun e => h (e ▸ .tail _ (.head _))⟩
inductive TabV (l k : Nat) (qual : Str) (o : Obj) (n : Nat) (R : List (Addr × Obj)) : Obj → Prop
  | same : TabV l k qual o n R o
  | made (c : Addr) (oc : Obj) (hm : (c, oc) ∈ R) (ho : CodeOb oc qual) (hn : n ≤ c) : TabV l k qual o n R (tabObj #[rawInt l, rawInt k, .ref c])
inductive TabsV (n : Nat) (o1 o2 : Obj) : List (Addr × Obj) → Prop
  | intro (o1' o2' : Obj) (R : List (Addr × Obj)) (h1 : TabV 81 4 q86 o1 n R o1') (h2 : TabV 96 4 q93 o2 n R o2') (hR : ∀ p ∈ R, n ≤ p.1) : TabsV n o1 o2 ((86, o1') :: (93, o2') :: R)
theorem TabV.sub {l k n : Nat} {qual : Str} {o o' : Obj} {R R' : List (Addr × Obj)} (x : TabV l k qual o n R o') (h : ∀ p ∈ R, p ∈ R') : TabV l k qual o n R' o' := by
  cases x with
  | same => exact .same
  | made c oc hm ho hn => exact .made c oc (h _ hm) ho hn
structure EntT (P : Params) (h g : Heap) (L : Addr) (o1 o2 : Obj) : Prop where
  K : (Mine.K P).In g
  e1 : h.get? 86 = some o1
  t1 : TabAt 81 4 q86 h o1
  e2 : h.get? 93 = some o2
  t2 : TabAt 96 4 q93 h o2
  old : ∀ b o, b ∉ ([86, 93] : List Addr) → h.get? b = some o → g.get? b = some o
  n1 : g.get? 86 = none ∧ 86 ≠ L
  n2 : g.get? 93 = none ∧ 93 ≠ L
  hL : h.objs.size ≤ L
theorem entT {P : Params} {h h₁ : Heap} {L : Addr} {p : Program} {loose : List Str} {mean : ExcName → Option Value} {mg mb : Str → Option Value} {m : Str → Option Value} {news : List (Addr × Obj)}
    (X : (Mine.K P).In h) (T : Top p loose mean mg mb h) (F : Fr h L h₁ m) (N : News h L h₁ news) (G : TabsG h) :
    ∃ g o1 o2, EntT P h g L o1 o2 ∧ Top topProg (loose ++ (recsOf p).map (·.name) ++ (litsOf p).map (·.1) ++ (clssOf p loose).map (·.name)) mean mg mb g ∧ Fr g L h₁ m ∧ News g L h₁ (news ++ [(86, o1), (93, o2)]) := by
  obtain ⟨⟨o1, e1, t1⟩, o2, e2, t2⟩ := G
  have H : Aside h [(86, o1), (93, o2)] := fun p hp => by
    rcases List.mem_cons.mp hp with rfl | hp
    · exact e1
    · rw [List.mem_singleton.mp hp]; exact e2
  have N' := gh_news F N H
  refine ⟨gh h [(86, o1), (93, o2)], o1, o2, ⟨gh_K X fun p hp => ?_, e1, t1, e2, t2, fun b o hb e => gh_get e fun p hp => ?_, (N' (86, o1) (List.mem_append_right _ (.head _))).2.symm, (N' (93, o2) (List.mem_append_right _ (.tail _ (.head _)))).2.symm, F.above⟩, gh_Top T H fun p hp => ?_, gh_fr F _, N'⟩
  · rcases List.mem_cons.mp hp with rfl | hp
    · show (86 : Nat) ∉ as; decide
    · rw [List.mem_singleton.mp hp]; show (93 : Nat) ∉ as; decide
  · rcases List.mem_cons.mp hp with rfl | hp
    · exact Ne.symm (out2 hb).1
    · rw [List.mem_singleton.mp hp]; exact Ne.symm (out2 hb).2
  · rcases List.mem_cons.mp hp with rfl | hp
    · exact t1.may
    · rw [List.mem_singleton.mp hp]; exact t2.may
theorem tab_but {l k : Nat} {qual : Str} {h h' : Heap} {o o1 o2 : Obj} (x : TabAt l k qual h o) (e1 : h.get? 86 = some o1) (t1 : TabAt 81 4 q86 h o1) (e2 : h.get? 93 = some o2) (t2 : TabAt 96 4 q93 h o2) (hk : ExtBut [86, 93] h h') : TabAt l k qual h' o := by
  rcases x with rfl | ⟨c, rfl, hr⟩
  · exact .inl rfl
  · exact .inr ⟨c, rfl, codeRec_but hr hk (nin2 (codeRec_ne hr e1 t1) (codeRec_ne hr e2 t2))⟩
section
variable {P : Params} {h g h2 h3 : Heap} {L : Addr} {o1 o2 : Obj} {m : Str → Option Value} {U V : List (Addr × Obj)}
theorem EntT.but (x : EntT P h g L o1 o2) (F : Fr g L h2 m) : ExtBut [86, 93] h h2 := fun b o hb e => F.keep b o (x.old b o hb e)
theorem EntT.tabs (x : EntT P h g L o1 o2) (F : Fr g L h2 m) (N : News g L h2 U) (hV : TabsV h.objs.size o1 o2 V) (hm : ∀ p ∈ V, p ∈ U) : TabsG h2 := by
  obtain ⟨o1', o2', R, a, b, _⟩ := hV
  have hR : ∀ p ∈ R, h2.get? p.1 = some p.2 := fun p hp => (N p (hm p (.tail _ (.tail _ hp)))).1
  refine ⟨⟨o1', (N _ (hm _ (.head _))).1, ?_⟩, ⟨o2', (N _ (hm _ (.tail _ (.head _)))).1, ?_⟩⟩
  · cases a with
    | same => exact tab_but x.t1 x.e1 x.t1 x.e2 x.t2 (x.but F)
    | made c oc hc ho hn => exact .inr ⟨c, rfl, ho.rec (hR _ hc)⟩
  · cases b with
    | same => exact tab_but x.t2 x.e1 x.t1 x.e2 x.t2 (x.but F)
    | made c oc hc ho hn => exact .inr ⟨c, rfl, ho.rec (hR _ hc)⟩
theorem tabV_step {l k n : Nat} {qual : Str} {o o' : Obj} {R : List (Addr × Obj)} {Q : Addr} (F : Fr g L h2 m) (a : TabV l k qual o n R o') (hR : News g L h3 R) (e : h2.get? Q = some o') (x : TabTo Q l k qual h2 h3) (hn : n ≤ h2.objs.size) (hRn : ∀ p ∈ R, n ≤ p.1) :
    ∃ o'' R', TabV l k qual o n R' o'' ∧ h3.get? Q = some o'' ∧ (∀ p ∈ R, p ∈ R') ∧ News g L h3 R' ∧ (∀ p ∈ R', n ≤ p.1) ∧ ∀ d, @LT.lt Nat _ d h2.objs.size → (∀ p ∈ R, p.1 ≠ d) → ∀ p ∈ R', p.1 ≠ d := by
  rcases x with x | ⟨c, oc, ec, eo, ho, hc⟩
  · exact ⟨o', R, a, x.trans e, fun _ h => h, hR, hRn, fun _ _ h => h⟩
  · exact ⟨_, (c, oc) :: R, .made c oc (.head _) ho (Nat.le_trans hn hc), ec, fun _ h => .tail _ h, pushed F hR hc eo, allP_cons (Nat.le_trans hn hc) hRn, fun d hd h => allP_cons (Nat.ne_of_gt (Nat.lt_of_lt_of_le hd hc)) h⟩
theorem EntT.call (x : EntT P h g L o1 o2) (F : Fr g L h2 m) (N : News g L h2 (U ++ V)) (hV : TabsV h.objs.size o1 o2 V) (hU : ∀ p ∈ U, p.1 ∉ ([86, 93] : List Addr)) (t : TabsTo h2 h3) : Fr g L h3 m ∧ ∃ V', News g L h3 (U ++ V') ∧ TabsV h.objs.size o1 o2 V' ∧ ∀ d, @LT.lt Nat _ d h2.objs.size → (∀ p ∈ V, p.1 ≠ d) → ∀ p ∈ V', p.1 ≠ d := by
  have hnL : h.objs.size ≤ h2.objs.size := Nat.le_trans x.hL (Nat.le_of_lt F.ns.lt)
  have h93 : @LT.lt Nat _ 93 h.objs.size := Heap.lt_size x.e2
  have h86 : @LT.lt Nat _ 86 h.objs.size := Heap.lt_size x.e1
  have keep : ∀ p : Addr × Obj, p.1 ∉ ([86, 93] : List Addr) → p ∈ U ++ V → h3.get? p.1 = some p.2 ∧ p.1 ≠ L ∧ g.get? p.1 = none := fun p hp hm => ⟨t.ext _ _ hp (N p hm).1, (N p hm).2⟩
  obtain ⟨o1', o2', R, a, b, hR⟩ := hV
  have hR3 : News g L h3 R := fun p hp => keep p (nin2 (Nat.ne_of_gt (Nat.lt_of_lt_of_le h86 (hR p hp))) (Nat.ne_of_gt (Nat.lt_of_lt_of_le h93 (hR p hp)))) (List.mem_append_right _ (.tail _ (.tail _ hp)))
  obtain ⟨o1'', R1, a1, e1, s1, N1, l1, q1⟩ := tabV_step F a hR3 (N (86, o1') (List.mem_append_right _ (.head _))).1 t.a hnL hR
  obtain ⟨o2'', R2, b2, e2, s2, N2, l2, q2⟩ := tabV_step F (b.sub s1) N1 (N (93, o2') (List.mem_append_right _ (.tail _ (.head _)))).1 t.b hnL l1
  refine ⟨⟨F.ns.at' fun o e => t.ext L o (nin2 (Ne.symm x.n1.2) (Ne.symm x.n2.2)) e, fun b o e => t.ext b o (nin2 (fun y => ?_) (fun y => ?_)) (F.keep b o e), F.above⟩, (86, o1'') :: (93, o2'') :: R2, fun p hp => ?_, ⟨o1'', o2'', R2, a1.sub s2, b2, l2⟩, fun d hd h => allP_cons (h (86, o1') (.head _)) (allP_cons (h (93, o2') (.tail _ (.head _))) (q2 d hd (q1 d hd fun p hp => h p (.tail _ (.tail _ hp)))))⟩
  · rw [y, x.n1.1] at e; cases e
  · rw [y, x.n2.1] at e; cases e
  · rcases List.mem_append.mp hp with hu | hp
    · exact keep p (hU p hu) (List.mem_append_left _ hu)
    · rcases List.mem_cons.mp hp with rfl | hp
      · exact ⟨e1, x.n1.symm⟩
      · rcases List.mem_cons.mp hp with rfl | hp
        · exact ⟨e2, x.n2.symm⟩
        · exact N2 p hp
theorem EntT.res {r : Addr} {o : Obj} (x : EntT P h g L o1 o2) (F : Fr g L h2 m) (N : News g L h2 (U ++ V)) (hV : TabsV h.objs.size o1 o2 V) (hU : ∀ p ∈ U, p.1 ∉ ([86, 93] : List Addr)) (t : TabsTo h2 h3) (hr : h2.objs.size ≤ r) (er : h3.get? r = some o) :
    ∃ V', Fr g L h3 m ∧ News g L h3 ((r, o) :: (U ++ V')) ∧ TabsV h.objs.size o1 o2 V' ∧ @LT.lt Nat _ L r ∧ ∀ d, @LT.lt Nat _ d h2.objs.size → (∀ p ∈ V, p.1 ≠ d) → ∀ p ∈ V', p.1 ≠ d := by
  obtain ⟨F3, V', N3, hV', hs⟩ := x.call F N hV hU t
  exact ⟨V', F3, pushed F N3 hr er, hV', Nat.lt_of_lt_of_le F.ns.lt hr, hs⟩
theorem EntT.back (x : EntT P h g L o1 o2) (F : Fr g L h2 m) (N : News g L h2 U) (hV : TabsV h.objs.size o1 o2 V) (hm : ∀ p ∈ V, p ∈ U) : TabsTo h h2 := by
  obtain ⟨o1', o2', R, a, b, _⟩ := hV
  have hR : ∀ p ∈ R, h2.get? p.1 = some p.2 := fun p hp => (N p (hm p (.tail _ (.tail _ hp)))).1
  refine ⟨x.but F, ?_, ?_⟩
  · have e := (N _ (hm _ (.head _))).1
    cases a with
    | same => exact .inl (e.trans x.e1.symm)
    | made c oc hc ho hn => exact .inr ⟨c, oc, e, hR _ hc, ho, hn⟩
  · have e := (N _ (hm _ (.tail _ (.head _)))).1
    cases b with
    | same => exact .inl (e.trans x.e2.symm)
    | made c oc hc ho hn => exact .inr ⟨c, oc, e, hR _ hc, ho, hn⟩
theorem EntT.start (x : EntT P h g L o1 o2) : TabsV h.objs.size o1 o2 [(86, o1), (93, o2)] := ⟨o1, o2, [], .same, .same, fun _ h => nomatch h⟩
theorem EntT.new (x : EntT P h g L o1 o2) {r : Addr} (hr : @LE.le Nat _ L r) : r ∉ ([86, 93] : List Addr) :=
  nin2 (Nat.ne_of_gt (Nat.lt_of_lt_of_le (Heap.lt_size x.e1) (Nat.le_trans x.hL hr))) (Nat.ne_of_gt (Nat.lt_of_lt_of_le (Heap.lt_size x.e2) (Nat.le_trans x.hL hr)))
theorem EntT.start_ne (x : EntT P h g L o1 o2) {d : Addr} (hd : @LE.le Nat _ L d) : ∀ p ∈ [((86 : Addr), o1), (93, o2)], p.1 ≠ d := fun p hp e => x.new hd (e ▸ by
  rcases List.mem_cons.mp hp with rfl | hp
  · exact .head _
  · rw [List.mem_singleton.mp hp]; exact .tail _ (.head _))
end
theorem Ext.tabs {h h' : Heap} (x : Ext h h') (G : TabsG h) : TabsTo h h' := by
  obtain ⟨⟨o1, e1, _⟩, o2, e2, _⟩ := G
  exact ⟨x.but _, .inl ((x _ _ e1).trans e1.symm), .inl ((x _ _ e2).trans e2.symm)⟩
theorem TabsG.ext {h h' : Heap} (G : TabsG h) (x : Ext h h') : TabsG h' := by
  obtain ⟨⟨o1, e1, t1⟩, o2, e2, t2⟩ := G
  exact ⟨⟨o1, x _ _ e1, tab_but t1 e1 t1 e2 t2 (x.but _)⟩, o2, x _ _ e2, tab_but t2 e1 t1 e2 t2 (x.but _)⟩
theorem int2digits_T {prog : Program} {w : World} {A : Around} {E : Value → Shared → Prop} {s : Shared} {mean : ExcName → Option Value} {mg mb : PySem.Str → Option Value} {ls : List Str} {a n : Nat} {ta tn : Tok} {Q : Value → Shared → Prop}
   (X : (K w.params).In s.heap) (T : Top topProg ls mean mg mb s.heap) (hd : A.depth + 20 < recursionLimit) (G : TabsG s.heap) (hn0 : 0 < n) (hn : n ≤ 4) (ha : a < 2 ^ 15)
   (hQ : ∀ (h' : Heap) (tk : Nat) (r : Addr) (oD : Obj) (ys : List Value), TabsTo s.heap h' → s.heap.objs.size ≤ r → h'.get? r = some oD → IsL oD ys → ys.length = cnt n a →
     (∀ i, i < cnt n a → ∃ t, ys[i]? = some (.int (dig n a i : Nat) t)) → Q (.ref r) {s with heap := h', toks := tk}) :
   wpAny (model prog w) A (call (.ref 91) [.int a ta, .int n tn]) Q E s := by
  obtain ⟨⟨o1, e1, t1⟩, o2, e2, t2⟩ := G
  refine int2digits_G X T hd e1 t1 hn0 hn ha fun h' tk r oD ys c oc x1 x2 x3 x4 hK _ hsz x5 x6 x7 x8 => hQ h' tk r oD ys ⟨fun b o hb e => x1 b o (fun q => (out2 hb).1 (List.mem_singleton.mp q)) e, ?_, .inl ((x1 93 o2 (by decide) e2).trans e2.symm)⟩ hsz x5 x6 x7 x8
  rcases hK with ⟨_, hc⟩ | rfl
  · exact .inr ⟨c, oc, x2, x3, x4, hc⟩
  · exact .inl (x2.trans e1.symm)
theorem digits2int_T {prog : Program} {w : World} {A : Around} {E : Value → Shared → Prop} {s : Shared} {mean : ExcName → Option Value} {mg mb : PySem.Str → Option Value} {ls : List Str} {D : Addr} {ys : List Value} {ds : Nat → Nat} {n : Nat} {tn : Tok} {Q : Value → Shared → Prop}
   (X : (K w.params).In s.heap) (T : Top topProg ls mean mg mb s.heap) (hd : A.depth + 20 < recursionLimit) (G : TabsG s.heap)
   (hD : s.heap.IsList D ys.toArray) (hn : n ≤ 4) (hds : ∀ i, i < ys.length → ds i < 2 ^ n ∧ ∃ t, ys[i]? = some (.int (ds i : Nat) t)) (hsz : ys.length ≤ 15)
   (hQ : ∀ (h' : Heap) (tk : Nat) (t : Tok), TabsTo s.heap h' → Q (.int (val n ds 0 ys.length : Nat) t) {s with heap := h', toks := tk}) :
   wpAny (model prog w) A (call (.ref 98) [.ref D, .int n tn]) Q E s := by
  obtain ⟨⟨o1, e1, t1⟩, o2, e2, t2⟩ := G
  refine digits2int_G X T hd e2 t2 hD hn hds hsz fun h' tk t c oc x1 x2 x3 x4 hK => hQ h' tk t ⟨fun b o hb e => x1 b o (fun q => (out2 hb).2 (List.mem_singleton.mp q)) e, .inl ((x1 86 o1 (by decide) e1).trans e1.symm), ?_⟩
  rcases hK with ⟨_, hc⟩ | rfl
  · exact .inr ⟨c, oc, x2, x3, x4, hc⟩
  · exact .inl (x2.trans e2.symm)
end Mine
namespace Mine
local macro_rules | `(tactic| walk_at "no such place") => `(tactic| fail)
local macro_rules | `(tactic| walk_at $k) => Mine.stopAt ["call builtin:list.reverse", "exec For Name Call cons nil"] k
theorem bits_b {b : Nat} (h0 : 0 < b) (hb : b < 16) : 0 < Builtin.Int.intBits (b : Int) ∧ Builtin.Int.intBits (b : Int) ≤ 4 ∧ b < 2 ^ Builtin.Int.intBits (b : Int) := by
  refine ⟨?_, intBits_le_iff.mpr (by simpa using hb), by simpa using (intBits_le_iff (m := Builtin.Int.intBits (b : Int)) (x := (b : Int))).mp (Nat.le_refl _)⟩
  rcases Nat.eq_zero_or_pos (Builtin.Int.intBits (b : Int)) with h | h
  · have := (intBits_le_iff (m := 0) (x := (b : Int))).mp (Nat.le_of_eq h)
    simp at this
    lia
  · exact h
theorem starts_rev' {prog : Program} {w : World} {A : Around} {s : Shared} {x : Str} {px : Pos} {it l : Addr} {its : Array Value} {n : Nat} (hn : its.size = n) (hh : A.handled = none) (hit : s.heap.IsRevIter it l ((its.size : Int) - 1)) (hl : s.heap.IsList l its) (hne : l ≠ it) :
    Starts prog w A (.Name x px) (.ref it) s [it] [l] n (fun i v _ => its[n - 1 - i]? = some v) := hn ▸ starts_rev hh hit hl hne
theorem snoc_obj (qs : List Value) (y : Value) : ({ cls := .type "list", data := .seq (qs.toArray.push y) (qs.length + 1) } : Obj) = W.listOf (qs ++ [y]).toArray (qs ++ [y]).length := lst_snoc qs y
theorem news_append {h₀ h h' : Heap} {L D : Addr} {o o' : Obj} {rest : List (Addr × Obj)} (N : News h₀ L h ((D, o) :: rest)) (hr : ∀ p ∈ rest, p.1 ≠ D) (hs : Heap.SameBut D h h') (e : h'.get? D = some o') : News h₀ L h' ((D, o') :: rest) := fun p hp => by
  rcases List.mem_cons.mp hp with rfl | hp
  · exact ⟨e, (N _ List.mem_cons_self).2⟩
  · have z := N p (List.mem_cons_of_mem _ hp)
    exact ⟨hs.extBut _ _ (hr p hp) z.1, z.2⟩
theorem all_in {p : Addr × Obj} {bs : List Addr} (h : p.1 ∉ bs) : ∀ q ∈ [p], q.1 ∉ bs := fun q hq => List.mem_singleton.mp hq ▸ h
inductive DivJ (n a b c : Nat) (tb : Tok) (Qa : Addr) (i : Nat) (m : Str → Option Value) (mo : List (Addr × Obj)) : Prop
  | intro (qs : List Value) (tn tr : Tok) (hmo : mo = [(Qa, W.listOf qs.toArray qs.length)]) (hlen : qs.length = i) (hqs : ∀ j, j < i → ∃ t, qs[j]? = some (.int (qd n a b (c - 1 - j) : Nat) t))
      (hm : Holds m [(Str.ofString "b", .int b tb), (Str.ofString "n", .int n tn), (Str.ofString "r", .int (a / 2 ^ (n * (c - i)) % b : Nat) tr), (Str.ofString "q_digits", .ref Qa)])
theorem div_first {n a b c : Nat} {tb tn tr : Tok} {Qa : Addr} {m : Str → Option Value} (hac : a < 2 ^ (n * c)) (hm : Holds m [(Str.ofString "b", .int b tb), (Str.ofString "n", .int n tn), (Str.ofString "r", .int (0 : Nat) tr), (Str.ofString "q_digits", .ref Qa)]) : DivJ n a b c tb Qa 0 m [(Qa, W.listOf #[] 0)] := by
  have hz : a / 2 ^ (n * (c - 0)) % b = 0 := by rw [Nat.sub_zero, Nat.div_eq_of_lt hac, Nat.zero_mod]
  exact ⟨[], tn, tr, rfl, rfl, fun j hj => absurd hj (Nat.not_lt_zero _), by rw [hz]; exact hm⟩
theorem div_facts {n a b c i : Nat} (hi : i < c) : (((a / 2 ^ (n * (c - i)) % b * 2 ^ n : Nat) : Int) + ((dig n a (c - 1 - i) : Nat) : Int)).fdiv (b : Int) = ((qd n a b (c - 1 - i) : Nat) : Int) ∧
    (((a / 2 ^ (n * (c - i)) % b * 2 ^ n : Nat) : Int) + ((dig n a (c - 1 - i) : Nat) : Int)).fmod (b : Int) = ((a / 2 ^ (n * (c - (i + 1))) % b : Nat) : Int) := by
  constructor
  · rw [Int.fdiv_eq_ediv_of_nonneg _ (Int.natCast_nonneg b)]
    unfold qd
    rw [show c - 1 - i + 1 = c - i by lia]
    simp
  · rw [Int.fmod_eq_emod_of_nonneg _ (Int.natCast_nonneg b)]
    rw [show c - (i + 1) = c - 1 - i by lia, ← rem_step (n := n) (a := a) (b := b) (i := c - 1 - i), show c - 1 - i + 1 = c - i by lia]
    simp
theorem div_small {n a b c i : Nat} (hb0 : 0 < b) (hb : b < 16) (hn4 : n ≤ 4) : a / 2 ^ (n * (c - i)) % b < b ∧ a / 2 ^ (n * (c - i)) % b * 2 ^ n ≤ 256 ∧ dig n a (c - 1 - i) < 2 ^ n ∧ 2 ^ n ≤ 16 := by
  have h1 : a / 2 ^ (n * (c - i)) % b < b := Nat.mod_lt _ hb0
  have hp2 : 2 ^ n ≤ 16 := Nat.pow_le_pow_right (by decide) hn4
  exact ⟨h1, Nat.mul_le_mul (show _ ≤ 16 by lia) hp2, Nat.mod_lt _ (Nat.two_pow_pos n), hp2⟩
theorem div_snoc {n a b c i : Nat} {qs : List Value} {t : Tok} (hl : qs.length = i) (h : ∀ j, j < i → ∃ t, qs[j]? = some (.int (qd n a b (c - 1 - j) : Nat) t)) : ∀ j, j < i + 1 → ∃ u, (qs ++ [Value.int (qd n a b (c - 1 - i) : Nat) t])[j]? = some (.int (qd n a b (c - 1 - j) : Nat) u) := fun j hj => by
  by_cases hji : j < i
  · obtain ⟨u, e⟩ := h j hji
    exact ⟨u, by rw [List.getElem?_append_left (by lia)]; exact e⟩
  · obtain rfl : j = i := by lia
    exact ⟨t, by rw [← hl]; simp⟩
theorem div_back {n a b c : Nat} {qs : List Value} (hl : qs.length = c) (hb0 : 0 < b) (h : ∀ j, j < c → ∃ t, qs[j]? = some (.int (qd n a b (c - 1 - j) : Nat) t)) : ∀ i, i < qs.reverse.length → qd n a b i < 2 ^ n ∧ ∃ t, qs.reverse[i]? = some (.int (qd n a b i : Nat) t) := fun i hi => by
  rw [List.length_reverse, hl] at hi
  obtain ⟨t, e⟩ := h (c - 1 - i) (by lia)
  refine ⟨qd_lt hb0, t, ?_⟩
  rw [List.getElem?_reverse (by lia), hl, e, show c - 1 - (c - 1 - i) = i by lia]
theorem divmod_pos_G {prog : Program} {w : World} {A : Around} {E : Value → Shared → Prop} {s : Shared} {mean : ExcName → Option Value} {mg mb : PySem.Str → Option Value} {ls : List Str} {a b : Nat} {ta tb : Tok} {Q : Value → Shared → Prop}
   (X : (K w.params).In s.heap) (T : Top topProg ls mean mg mb s.heap) (hh : A.handled = none) (hd : A.depth + 30 < recursionLimit) (G : TabsG s.heap)
   (ha : a < 2 ^ 15) (hb0 : 0 < b) (hb : b < 16)
   (hQ : ∀ (h' : Heap) (tk : Nat) (r : Addr) (t1 t2 : Tok), TabsTo s.heap h' → s.heap.objs.size ≤ r → h'.get? r = some { cls := .type "tuple", data := .seq #[.int (a / b : Nat) t1, .int (a % b : Nat) t2] } →
     Q (.ref r) {s with heap := h', toks := tk}) :
   wpAny (model prog w) A (call (.ref 105) [.int a ta, .int b tb]) Q E s := by
  k_dflt (refine' enterE [(Str.ofString "a", .int a ta), (Str.ofString "b", .int b tb)] X T.nolimit ?k1 ?k2 (by lia) ?kb ?ks ?k3 ?k4 ?k5 ?k6 ?k7 ?k8 ?_)
  case k1 => k_dflt k_is
  case k2 => k_dflt k_is
  case kb => conv => lhs; whnf
  case ks => conv => lhs; whnf
  case k3 => exact BindsTo.of_eq rfl
  case k4 => exact locs rfl
  case k5 => decide
  case k6 => exact rfl
  case k7 => exact rfl
  case k8 => exact rfl
  intro h₁ L F N
  obtain ⟨g, o1, o2, x, T', F', N'⟩ := entT X T F N G
  clear F N
  have X' := x.K
  have TR := topRead_of T'
  obtain ⟨hn0, hn4, hbn⟩ := bits_b hb0 hb
  have hV := x.start
  rw [List.nil_append] at N'
  generalize [((86 : Addr), o1), (93, o2)] = V at *
  k_steps
  rename Fr _ _ _ _ => F2
  rename News _ _ _ _ => N2
  refine int2digits_T (s := {s with heap := _, toks := _}) (Frag.In.keeps X' F2.keep) (T'.keeps F2.keep) (by show A.depth + 1 + 20 < _; lia) (x.tabs F2 N2 hV fun _ h => h) hn0 hn4 ha fun h3 tk3 r oD ys t3 hr eD hL hlen hys => ?_
  obtain ⟨V, F3, N3, hV, hLr, _⟩ := x.res (U := []) F2 N2 hV (fun _ h => nomatch h) t3 hr eD
  clear F2 N2
  have hc : cnt (Builtin.Int.intBits (b : Int)) a ≤ 15 := cnt_le hn0 ha
  have hac : a < 2 ^ (Builtin.Int.intBits (b : Int) * cnt (Builtin.Int.intBits (b : Int)) a) := lt_cnt hn0
  generalize hn : Builtin.Int.intBits (b : Int) = n at *
  generalize hcn : cnt n a = c at *
  rw [List.nil_append] at N3
  k_steps
  rename_i Qa _ lQ _ F7 N7
  have lQr : @LT.lt Nat _ r Qa := lQ.1
  have lQV := lQ.2
  clear lQ
  have hr7 := hL.list (N7.get (a := r) (.tail _ (.head _)))
  refine Stop.mk (forM (h₀ := g) (L := L) rfl ?_)
  k_steps
  rename_i it h8 F8 N8 l18
  clear hr7 hbn
  refine ⟨[it], [r], c, _, [Qa], [(Qa, W.listOf #[] 0)], (r, oD) :: V, _, DivJ n a b c tb Qa, starts_rev' (by rw [List.size_toArray, hlen]) hh ⟨_, N8.get (.head _), rfl, by simp [revObj]⟩ (hL.list (N8.get (.tail _ (.tail _ (.head _))))) (ne_lt l18.2.1), F8, nSub N8 fun p hp => .tail _ hp, rfl,
    fun b hb => List.mem_singleton.mp hb ▸ ⟨fun x => ne_gt lQr (List.mem_singleton.mp x), fun x => ne_lt l18.1 (List.mem_singleton.mp x), all_cons (ne_lt lQr) fun p hp => ne_lt (mem_allLt lQV p hp)⟩,
    fun b hb => List.mem_singleton.mp hb ▸ ⟨(N8 _ (.head _)).2.2, all_cons (ne_lt l18.2.1) fun p hp => ne_lt (mem_allLt l18.2.2 p hp)⟩, div_first hac ⟨rfl, rfl, rfl, rfl, trivial⟩, ?_, ?_⟩
  · intro i v m₁ mo tail s₁ E' Q' hi F₁ N₁ hap hmo hq hr' hs hv hj
    obtain ⟨qs, tn, tr, rfl, hqi, hqs, hm⟩ := hj
    have F₂ := pins F₁ hm
    obtain ⟨t9, e9⟩ := hys (c - 1 - i) (by lia)
    rw [List.getElem?_toArray, e9] at hv
    obtain rfl := Option.some.inj hv
    have ht : ∀ p ∈ tail, p ∈ (r, oD) :: V ++ tail := fun p hp => List.mem_append_right _ hp
    have hW : ∀ p ∈ (r, oD) :: V ++ tail, p.1 ≠ Qa := fun p hp e => hap p hp (e ▸ .head _)
    rw [List.singleton_append] at N₁
    generalize (r, oD) :: V ++ tail = Wt at *
    obtain ⟨hrb, hx1, hx2, hp2⟩ := div_small (n := n) (a := a) (c := c) (i := i) hb0 hb hn4
    clear F₁ hm F8 N8 hap hmo hr' hs hys e9 hv
    k_steps
    rename Fr _ _ _ _ => F11
    rename News _ _ _ _ => N11
    rw [show (((a / 2 ^ (n * (c - i)) % b : Nat) : Int) * 2 ^ ((n : Nat) : Int).toNat) = ((a / 2 ^ (n * (c - i)) % b * 2 ^ n : Nat) : Int) by simp]
    refine div2n1n_spec (s := { s₁ with heap := _, toks := _ }) (Frag.In.keeps X' F11.keep) (TR.keeps F11.keep) (by show A.depth + 1 < _; lia) (by lia) (by lia) (by lia) (by lia) (by lia) fun h12 tk12 r12 t12 t13 he12 hs12 e12 => ?_
    have F12 := F11.keeps he12
    have N12 := pushed F11 (N11.grown he12) hs12 e12
    rw [(div_facts hi).1, (div_facts hi).2] at N12
    clear F11 N11 hx1 hx2 hp2 hrb he12 hs12 e12
    refine assignP F12 N12 rfl hh ⟨_, N12.get (.head _), rfl, _, rfl⟩ rfl rfl rfl fun h13 tk13 F13 N13 => ?_
    have N13 := nPick N13 [] 1
    simp only [pickL, List.drop] at N13
    clear F12 N12
    k_steps
    rename Fr _ _ _ _ => F13
    rename News _ _ _ _ => N13
    have hQg := N13 _ (.head _)
    refine append_at (hsz := by rw [List.size_toArray, hqi]; exact Nat.le_trans (Nat.le_of_lt (Nat.lt_of_lt_of_le hi hc)) (by decide)) hQg.1 fun h14 hs14 e14 => ?_
    have F14 := F13.change hs14 hQg.2.1 hQg.2.2
    rw [snoc_obj] at e14
    have N14 := news_append N13 hW hs14 e14
    clear F13 N13 hQg hs14 e14
    k_steps
    rename Fr _ _ _ _ => F15
    rename News _ _ _ _ => N15
    exact hq _ _ _ [(Qa, W.listOf (qs ++ [Value.int (qd n a b (c - 1 - i) : Nat) t12]).toArray _)] _ F15 N15 (sub_cons (.head _) fun q hq => .tail _ (ht q hq)) rfl ⟨_, tn, t13, rfl, by rw [List.length_append, hqi]; rfl, div_snoc hqi hqs, rfl, rfl, rfl, rfl, trivial⟩
  · intro h' tk m' mo F' N' hmo hap hj
    obtain ⟨qs, tn, tr, rfl, hqi, hqs, hm⟩ := hj
    have F10 := pins F' hm
    have N10 : News g L h' ((Qa, W.listOf qs.toArray qs.length) :: V) := nSub N' (sub_cons (.head _) fun q hq => .tail _ (.tail _ hq))
    have hc15 : qs.reverse.length ≤ 15 := by rw [List.length_reverse, hqi]; exact hc
    clear F' N' hm F8 N8 hap hmo
    k_steps
    refine Stop.mk (kl_reverse (its := qs.toArray) (n := qs.length) F10 N10 (l := qs.reverse) (by simp) (Upd.head fun p hp => ne_lt (mem_allLt lQV p hp)) (by show qs.length ≤ _; rw [hqi]; exact Nat.le_trans hc (by decide)) fun h11 F11 N11 => ?_)
    clear F10 N10
    k_steps
    refine digits2int_T (s := { s with heap := h11, toks := _ }) (ys := qs.reverse) (ds := qd n a b) (Frag.In.keeps X' F11.keep) (T'.keeps F11.keep) (by show A.depth + 1 + 20 < _; lia) (x.tabs F11 N11 hV fun _ h => .tail _ h) ⟨_, N11.get (.head _), rfl, _, rfl⟩ hn4 (div_back hqi hb0 hqs) hc15 fun h13 tk13 t13 t3 => ?_
    obtain ⟨F13, V', N13, hV', _⟩ := x.call (U := [(Qa, _)]) F11 N11 hV (all_in (x.new (Nat.le_of_lt (Nat.lt_trans hLr lQr)))) t3
    clear F11 N11
    rw [List.length_reverse, hqi, qd_all hb0 hac]
    k_steps
    rename_i h14 D14 h15 F15 N15 l15'
    rw [Nat.sub_self, Nat.mul_zero, Nat.pow_zero, Nat.div_one] at N15
    exact hQ _ _ D14 _ _ (x.back F15 N15 hV' fun _ h => .tail _ (.tail _ h)) (Nat.le_trans x.hL (Nat.le_of_lt (Nat.lt_trans (Nat.lt_trans hLr lQr) (l15' _ (.head _))))) (N15.get (.head _))
end Mine
end
section
namespace Mine
open PySem PyProof.Rows
theorem fdiv_neg2 (a b : Int) : (-a).fdiv (-b) = a.fdiv b := Int.neg_fdiv_neg a b
theorem fmod_neg2 (a b : Int) : -((-a).fmod (-b)) = a.fmod b := by
  rw [Int.fmod_def, Int.fmod_def, Int.neg_fdiv_neg, Int.neg_mul]
  lia
theorem div_not {a b : Int} (hb : 0 < b) : Builtin.bitNot ((Builtin.bitNot a).fdiv b) = a.fdiv b ∧ b + Builtin.bitNot ((Builtin.bitNot a).fmod b) = a.fmod b := by
  unfold Builtin.bitNot
  have h1 := Int.emod_add_mul_ediv (-a - 1) b
  have h2 := Int.emod_nonneg (-a - 1) (Int.ne_of_gt hb)
  have h3 := Int.emod_lt_of_pos (-a - 1) hb
  rw [Int.fdiv_eq_ediv_of_nonneg _ (Int.le_of_lt hb), Int.fdiv_eq_ediv_of_nonneg _ (Int.le_of_lt hb), Int.fmod_eq_emod_of_nonneg _ (Int.le_of_lt hb), Int.fmod_eq_emod_of_nonneg _ (Int.le_of_lt hb)]
  have key : a / b = -((-a - 1) / b) - 1 ∧ a % b = b - (-a - 1) % b - 1 := by
    have e := (Int.ediv_emod_unique (a := a) (b := b) (r := b - (-a - 1) % b - 1) (q := -((-a - 1) / b) - 1) hb).mpr ⟨?_, by lia, by lia⟩
    · exact e
    · rw [Int.mul_sub, Int.mul_neg, Int.mul_one]
      lia
  rw [key.1, key.2]
  lia
end Mine
namespace Mine
theorem fmod_bound {a m : Int} (h : m ≠ 0) : ¬ ((if m < 0 then -m else m) ≤ if a.fmod m < 0 then -a.fmod m else a.fmod m) ∧ ¬ (a.fmod m * m < 0) := by
  rcases Int.lt_or_gt_of_ne h with hm | hm
  · have h1 : 0 ≤ (-a).fmod (-m) := Int.fmod_nonneg_of_pos _ (by lia)
    have h2 : (-a).fmod (-m) < -m := Int.fmod_lt_of_pos _ (by lia)
    have e := fmod_neg2 a m
    have h3 : a.fmod m ≤ 0 := by lia
    refine ⟨by rw [if_pos hm]; split <;> lia, ?_⟩
    exact Int.not_lt.mpr (Int.mul_nonneg_of_nonpos_of_nonpos h3 (Int.le_of_lt hm))
  · have h1 : 0 ≤ a.fmod m := Int.fmod_nonneg_of_pos _ hm
    have h2 : a.fmod m < m := Int.fmod_lt_of_pos _ hm
    refine ⟨by rw [if_neg (Int.not_lt.mpr (Int.le_of_lt hm)), if_neg (Int.not_lt.mpr h1)]; lia, ?_⟩
    exact Int.not_lt.mpr (Int.mul_nonneg h1 (Int.le_of_lt hm))
end Mine
end
section
open PySem PySem.W PySem.Calls PyProof.Rows PyProof.Rows.LCg
namespace Mine
theorem neg_rank {a b : Int} {k : Nat} (hb : b < 0) (hk : (if b < 0 then 2 else 0) + (if a < 0 then 1 else 0) ≤ k) : (0 + if -a < 0 then 1 else 0) < k ∧ (if -b < 0 then 2 else 0) + (if -a < 0 then 1 else 0) ≤ (0 + if -a < 0 then 1 else 0) := by
  rw [if_pos hb] at hk
  rw [if_neg (show ¬ (-b < 0) by lia)]
  refine ⟨?_, Nat.le_refl _⟩
  split <;> lia
theorem not_rank {a b : Int} {k : Nat} (hb : ¬ b < 0) (ha : a < 0) (hk : (if b < 0 then 2 else 0) + (if a < 0 then 1 else 0) ≤ k) : 0 < k ∧ (if b < 0 then 2 else 0) + (if Builtin.bitNot a < 0 then 1 else 0) ≤ 0 := by
  rw [if_neg hb, if_pos ha] at hk
  rw [if_neg hb, if_neg (show ¬ (Builtin.bitNot a < 0) by unfold Builtin.bitNot; lia)]
  exact ⟨hk, Nat.le_refl _⟩
section
variable {prog : Program} {w : World} {mean : ExcName → Option Value} {mg mb : PySem.Str → Option Value}
noncomputable def DivSpec (prog : Program) (w : World) (mean : ExcName → Option Value) (mg mb : PySem.Str → Option Value) (k : Nat) : Prop := ∀ {A : Around} {E : Value → Shared → Prop} {s : Shared} {ls : List Str} {a b : Int} {ta tb : Tok} {Q : Value → Shared → Prop}
   (X : (K w.params).In s.heap) (T : Top topProg ls mean mg mb s.heap) (hh : A.handled = none) (hd : A.depth + 40 + k < recursionLimit) (G : TabsG s.heap)
   (hk : (if b < 0 then 2 else 0) + (if a < 0 then 1 else 0) ≤ k)
   (ha : a.natAbs < 32000) (hb0 : b ≠ 0) (hb : b.natAbs < 16)
   (hQ : ∀ (h' : Heap) (tk : Nat) (r : Addr) (t1 t2 : Tok), TabsTo s.heap h' → s.heap.objs.size ≤ r → h'.get? r = some { cls := .type "tuple", data := .seq #[.int (a.fdiv b) t1, .int (a.fmod b) t2] } →
     Q (.ref r) {s with heap := h', toks := tk}),
   wpAny (model prog w) A (call (.ref 112) [.int a ta, .int b tb]) Q E s
end
theorem int_divmod_G {prog : Program} {w : World} {mean : ExcName → Option Value} {mg mb : PySem.Str → Option Value} : ∀ (k : Nat), DivSpec prog w mean mg mb k := by
  intro k
  induction k using Nat.strongRecOn with
  | ind k ih =>
  intro A E s ls a b ta tb Q X T hh hd G hk ha hb0 hb hQ
  k_dflt (refine' enterE [(Str.ofString "a", .int a ta), (Str.ofString "b", .int b tb)] X T.nolimit ?k1 ?k2 (by lia) ?kb ?ks ?k3 ?k4 ?k5 ?k6 ?k7 ?k8 ?_)
  case k1 => k_dflt k_is
  case k2 => k_dflt k_is
  case kb => conv => lhs; whnf
  case ks => conv => lhs; whnf
  case k3 => exact BindsTo.of_eq rfl
  case k4 => exact locs rfl
  case k5 => decide
  case k6 => exact rfl
  case k7 => exact rfl
  case k8 => exact rfl
  intro h₁ L F N
  obtain ⟨g, o1, o2, x, T', F', N'⟩ := entT X T F N G
  clear F N
  have X' := x.K
  have TR := topRead_of T'
  have hV := x.start
  rw [List.nil_append] at N'
  generalize [((86 : Addr), o1), (93, o2)] = V at *
  k_steps
  · exact absurd (by assumption) hb0
  · rename b < 0 => hneg
    have hr := neg_rank hneg hk
    refine ih _ hr.1 (s := { s with heap := h₁, toks := _ }) (Frag.In.keeps X' F'.keep) (T'.keeps F'.keep) hh (by show A.depth + 1 + 40 + _ < _; lia) (x.tabs F' N' hV fun _ h => h) hr.2 (by lia) (by lia) (by lia) fun h2 tk2 r t1 t2 t3 hs2 e2 => ?_
    obtain ⟨V2, F2, N2, hV2, hLr, _⟩ := x.res (U := []) F' N' hV (fun _ h => nomatch h) t3 hs2 e2
    rw [List.nil_append] at N2
    clear F' N'
    k_steps
    refine assignP F2 N2 rfl hh ⟨_, N2.get (.head _), rfl, _, rfl⟩ rfl rfl rfl fun h3 tk3 F3 N3 => ?_
    clear F2 N2
    k_steps
    rename_i D4 h4 F4 N4 l4
    have e := N4.get (a := D4) (.head _)
    rw [fdiv_neg2, fmod_neg2] at e
    exact hQ _ _ D4 _ _ (x.back F4 N4 hV2 fun _ h => .tail _ (.tail _ h)) (Nat.le_trans x.hL (Nat.le_of_lt (Nat.lt_trans hLr l4.1))) e
  · rename ¬ b < 0 => hb1
    rename a < 0 => ha1
    have hr := not_rank hb1 ha1 hk
    refine ih 0 hr.1 (s := { s with heap := h₁, toks := _ }) (Frag.In.keeps X' F'.keep) (T'.keeps F'.keep) hh (by show A.depth + 1 + 40 + _ < _; lia) (x.tabs F' N' hV fun _ h => h) hr.2 (by unfold Builtin.bitNot; lia) hb0 hb fun h2 tk2 r t1 t2 t3 hs2 e2 => ?_
    obtain ⟨V2, F2, N2, hV2, hLr, _⟩ := x.res (U := []) F' N' hV (fun _ h => nomatch h) t3 hs2 e2
    rw [List.nil_append] at N2
    clear F' N'
    k_steps
    refine assignP F2 N2 rfl hh ⟨_, N2.get (.head _), rfl, _, rfl⟩ rfl rfl rfl fun h3 tk3 F3 N3 => ?_
    clear F2 N2
    k_steps
    rename_i D4 h4 F4 N4 l4
    have e := N4.get (a := D4) (.head _)
    have hdn := div_not (a := a) (b := b) (by lia)
    rw [hdn.1, hdn.2] at e
    exact hQ _ _ D4 _ _ (x.back F4 N4 hV2 fun _ h => .tail _ (.tail _ h)) (Nat.le_trans x.hL (Nat.le_of_lt (Nat.lt_trans hLr l4.1))) e
  · rename ¬ b < 0 => hb1
    rename ¬ a < 0 => ha1
    obtain ⟨an, rfl⟩ : ∃ n : Nat, a = n := ⟨a.toNat, by lia⟩
    obtain ⟨bn, rfl⟩ : ∃ n : Nat, b = n := ⟨b.toNat, by lia⟩
    refine divmod_pos_G (s := { s with heap := h₁, toks := _ }) (Frag.In.keeps X' F'.keep) (T'.keeps F'.keep) hh (by show A.depth + 1 + 30 < _; lia) (x.tabs F' N' hV fun _ h => h) (by lia) (by lia) (by lia) fun h2 tk2 r t1 t2 t3 hs2 e2 => ?_
    obtain ⟨V2, F2, N2, hV2, hLr, _⟩ := x.res (U := []) F' N' hV (fun _ h => nomatch h) t3 hs2 e2
    refine hQ h2 tk2 r t1 t2 (x.back F2 N2 hV2 fun _ h => .tail _ h) (Nat.le_trans x.hL (Nat.le_of_lt hLr)) ?_
    rw [e2, Int.fdiv_eq_ediv_of_nonneg _ (Int.natCast_nonneg _), Int.fmod_eq_emod_of_nonneg _ (Int.natCast_nonneg _)]
    rfl
end Mine
namespace Mine
local macro_rules | `(tactic| k_all) => `(tactic| first | assumption | (refine' all_cons ?a ?b; (case a => k_ne); (case b => k_all)))
local macro_rules | `(tactic| walk_at $k) => Mine.stopAt ["exec Assign cons ListComp", "eval ListComp"] k
theorem CellsAre2 {cm : Str → Option Value} {n n' : Str} {c c' : Addr} {cells : List (Addr × Obj)} (x : CellsAre cm [(n, c), (n', c')] cells) :
    ∃ o o', cells = [(c, o), (c', o')] ∧ o.data = .cell (cm n) ∧ o'.data = .cell (cm n') := x.two
theorem range_ok : ∀ c : Nat, c < 16 → Builtin.Range.small 0 (c : Int) 1 = true ∧ Builtin.Range.rangeSize 0 (c : Int) 1 = (c : Int) := by decide
noncomputable abbrev b200 : List Stmt := fnBody (nth top 22)
noncomputable abbrev sc200 : Scope := fnScope (nth top 22)
noncomputable abbrev env200 (L : Addr) : Env := envX (Str.ofString "_law_rests") sc200 L 200 (.ref 199) (cellsFrom (L + 1) sc200.names [])
theorem rest_rank {a b : Int} : (if b < 0 then 2 else 0) + (if a < 0 then 1 else 0) ≤ 3 := by split <;> split <;> lia
theorem rest_facts {first modulus : Int} {count : Nat} (hb0 : modulus ≠ 0) (hc0 : 0 < count) :
    (first.fdiv modulus * modulus + first.fmod modulus = first ∧ (first + count - 1).fdiv modulus * modulus + (first + count - 1).fmod modulus = first + count - 1) ∧
    (first + count - 1).fmod modulus = (first.fmod modulus + ((count - 1 : Nat) : Int)).fmod modulus := by
  refine ⟨⟨by rw [Int.mul_comm]; exact Int.mul_fdiv_add_fmod first modulus, by rw [Int.mul_comm]; exact Int.mul_fdiv_add_fmod _ modulus⟩, ?_⟩
  rw [Int.fmod_add_fmod]
  congr 1
  lia
inductive RestJ (rest modulus : Int) (count i : Nat) (ys : List Value) : Prop
  | intro (hlen : ys.length = i) (hle : i ≤ count) (h : ∀ j, j < i → ∃ t, ys[j]? = some (.int ((rest + (j : Nat)).fmod modulus) t))
theorem RestJ.step {rest modulus : Int} {count i : Nat} {ys : List Value} {t : Tok} (x : RestJ rest modulus count i ys) (hi : i < count) : RestJ rest modulus count (i + 1) (ys ++ [.int ((rest + (0 + (i : Nat))).fmod modulus) t]) := by
  obtain ⟨h1, h2, h3⟩ := x
  refine ⟨by rw [List.length_append, h1]; rfl, hi, fun j hj => ?_⟩
  by_cases hji : j < i
  · obtain ⟨t, e⟩ := h3 j hji
    exact ⟨t, by rw [List.getElem?_append_left (by lia)]; exact e⟩
  · obtain rfl : j = i := by lia
    exact ⟨t, by rw [← h1]; simp⟩
section
variable {prog : Program} {w : World} {A : Around} {s : Shared} {hB g : Heap} {mean : ExcName → Option Value} {mg mb : PySem.Str → Option Value} {ls : List Str} {L : Addr} {m : Str → Option Value} {V : List (Addr × Obj)} {oA oB o1 o2 : Obj}
   {first modulus rest last : Int} {count : Nat} {ta tb tc td : Tok} {va vb vc : Value}
theorem rseg0 {E : Value → Shared → Prop} {Q : Flow → Shared → Prop} {u : Option Value} (x : EntT w.params hB g L oA oB) (T' : Top topProg ls mean mg mb g) (hh : A.handled = none) (hd : A.depth + 60 < recursionLimit) (F : Fr g L s.heap m) (hm : Holds m [(Str.ofString "first", .int first ta), (Str.ofString "count", .int (count : Nat) tb)]) (N : News g L s.heap ((L + 1 + 1, o1) :: (L + 1, o2) :: V)) (d1 : o1.data = .cell u) (d2 : o2.data = .cell (some (.int modulus tc))) (hV : TabsV hB.objs.size oA oB V) (hVn : ∀ p ∈ V, p.1 ≠ L + 1 + 1)
   (ha : first.natAbs < 31000) (hc : count < 16) (hb0 : modulus ≠ 0) (hb : modulus.natAbs < 16)
   (hQ : ∀ (h : Heap) (tk : Nat) (m' : Str → Option Value) (o1' : Obj) (V' : List (Addr × Obj)) (t1 t2 t3 t4 : Tok), Fr g L h m' → Holds m' [(Str.ofString "first", .int first ta), (Str.ofString "count", .int (count : Nat) tb), (Str.ofString "one", .int (first.fdiv modulus) t1), (Str.ofString "other", .int ((first + count - 1).fdiv modulus) t2), (Str.ofString "last", .int ((first + count - 1).fmod modulus) t3)] →
      News g L h ((L + 1 + 1, o1') :: (L + 1, o2) :: V') → o1'.data = .cell (some (.int (first.fmod modulus) t4)) → TabsV hB.objs.size oA oB V' → Q .next { s with heap := h, toks := tk }) :
   wpAny (model prog w) (A.deeper (env200 L)) (exec (nth b200 0) (env200 L)) Q E s := by
  have X' := x.K
  have TR := topRead_of T'
  have F1 := pins F hm
  clear F hm
  rw [show nth b200 0 = _ from (by conv => lhs; whnf)]
  unfold env200
  rw [show sc200 = _ from (by conv => lhs; whnf)]
  have nU : ∀ {d : Addr}, @LE.le Nat _ L d → d ∉ ([86, 93] : List Addr) := fun h => x.new h
  have hU : ∀ p ∈ [(L + 1 + 1, o1), (L + 1, o2)], p.1 ∉ ([86, 93] : List Addr) := allP_cons (nU (Nat.le_add_right L 2)) (allP_cons (nU (Nat.le_add_right L 1)) fun _ h => nomatch h)
  k_steps
  rename Fr _ _ _ _ => F2
  rename News _ _ _ _ => N2
  refine int_divmod_G 3 (Frag.In.keeps X' F2.keep) (T'.keeps F2.keep) hh (by show A.depth + 1 + 40 + 3 < _; lia) (x.tabs F2 N2 hV fun _ h => .tail _ (.tail _ h)) rest_rank (by lia) hb0 hb fun h2 tk2 r1 u1 u2 t3 hs2 e2 => ?_
  have lL := Heap.lt_size (N2 _ (.head _)).1
  obtain ⟨V1, F3, N3, hV1, hr1, hs1⟩ := x.res (U := [(L + 1 + 1, o1), (L + 1, o2)]) F2 N2 hV hU t3 hs2 e2
  have hVn1 := hs1 _ lL hVn
  have n1 : @Ne Nat r1 (L + 1 + 1) := Nat.ne_of_gt (Nat.lt_of_lt_of_le lL hs2)
  clear F2 N2 t3 hs2 e2 hs1 hV hVn lL
  rw [List.cons_append, List.cons_append, List.nil_append] at N3
  k_steps
  rename Fr _ _ _ _ => F2
  rename News _ _ _ _ => N2
  refine int_divmod_G 3 (Frag.In.keeps X' F2.keep) (T'.keeps F2.keep) hh (by show A.depth + 1 + 40 + 3 < _; lia) (x.tabs F2 N2 hV1 fun _ h => .tail _ (.tail _ (.tail _ h))) rest_rank (by lia) hb0 hb fun h3 tk3 r2 u3 u4 t3 hs3 e3 => ?_
  have lL := Heap.lt_size (N2 _ (.tail _ (.head _))).1
  obtain ⟨V2, F4, N4, hV2, hr2, hs2⟩ := x.res (U := [(r1, _), (L + 1 + 1, o1), (L + 1, o2)]) F2 N2 hV1 (allP_cons (nU (Nat.le_of_lt hr1)) hU) t3 hs3 e3
  have hVn2 := hs2 _ lL hVn1
  have n2 : @Ne Nat r2 (L + 1 + 1) := Nat.ne_of_gt (Nat.lt_of_lt_of_le lL hs3)
  clear F2 N2 t3 hs3 e3 hs2 hV1 hVn1 lL
  rw [List.cons_append, List.cons_append, List.cons_append, List.nil_append] at N4
  k_steps
  rename_i T4 h4 F5 N5 l4
  have n4 : @Ne Nat T4 (L + 1 + 1) := Nat.ne_of_gt l4.2.2.1
  refine assignT2 F5 N5 hh ⟨_, N5.get (a := T4) (.head _), rfl, _, rfl⟩ fun h5 F5 N5 => ?_
  refine assignT2 F5 N5 hh ⟨_, N5.get (a := r1) (.tail _ (.tail _ (.head _))), rfl, _, rfl⟩ fun h6 F6 N6 => ?_
  clear F5 l4
  k_steps
  rename_i h7 o7 F7 N7 d7
  refine assignT2 F7 N7 hh ⟨_, N7.get (a := r2) (.tail _ (.head _)), rfl, _, rfl⟩ fun h8 F8 N8 => ?_
  have N8 := nPick N8 [] 3
  simp only [pickL, List.drop] at N8
  clear F7 N7
  k_steps
  rename Fr _ _ _ _ => F9
  rename News _ _ _ _ => N9
  exact hQ _ _ _ o7 V2 _ _ _ _ F9 ⟨rfl, rfl, rfl, rfl, rfl, trivial⟩ N9 d7 hV2
theorem rseg1 {E : Value → Shared → Prop} {Q : Flow → Shared → Prop} (X' : (K w.params).In g) (T' : Top topProg ls mean mg mb g) (hh : A.handled = none) (hu : A.units + 100 < cLine) (F : Fr g L s.heap m) (hm : Holds m [(Str.ofString "first", va), (Str.ofString "count", .int (count : Nat) tb), (Str.ofString "one", vb), (Str.ofString "other", vc), (Str.ofString "last", .int last td)]) (N : News g L s.heap ((L + 1 + 1, o1) :: (L + 1, o2) :: V)) (d1 : o1.data = .cell (some (.int rest ta))) (d2 : o2.data = .cell (some (.int modulus tc))) (hc : count < 16) (hb0 : modulus ≠ 0)
   (hQ : ∀ (h : Heap) (tk : Nat) (m' : Str → Option Value) (D : Addr) (ys : List Value), Fr g L h m' → Holds m' [(Str.ofString "first", va), (Str.ofString "count", .int (count : Nat) tb), (Str.ofString "one", vb), (Str.ofString "other", vc), (Str.ofString "last", .int last td), (Str.ofString "rests", .ref D)] →
      News g L h ((D, lst ys) :: (L + 1 + 1, o1) :: (L + 1, o2) :: V) → @LT.lt Nat _ L D → RestJ rest modulus count count ys → Q .next { s with heap := h, toks := tk }) :
   wpAny (model prog w) (A.deeper (env200 L)) (exec (nth b200 1) (env200 L)) Q E s := by
  have TR := topRead_of T'
  have F1 := pins F hm
  clear F hm
  rw [show nth b200 1 = _ from (by conv => lhs; whnf)]
  unfold env200
  rw [show sc200 = _ from (by conv => lhs; whnf)]
  k_steps
  refine' Stop.mk (assignOfN F1 rfl ?k1 ?k2 rfl ?k3 rfl rfl rfl ?_)
  case k1 => rfl
  case k2 => exact rfl
  case k3 => decide
  k_steps
  rename IsRange _ _ _ _ _ _ _ _ => hr
  rename Fr _ _ _ _ => F2
  rename News _ _ _ _ => N2
  refine ⟨[], count, _, _, RestJ rest modulus count, [], starts_range hh hr (range_ok _ hc).1 (range_ok _ hc).2, F2, N2, (fun _ h => nomatch h), ⟨rfl, Nat.zero_le _, fun j hj => absurd hj (Nat.not_lt_zero _)⟩, ?_, ?_, ?_⟩
  · intro i ys ⟨h, h', _⟩
    exact Nat.le_trans (Nat.le_of_eq h) (Nat.le_trans h' (Nat.le_trans (Nat.le_of_lt hc) (by decide)))
  · intro D C oC mC i v hv0 ys tail s₁ E' Qe hi hC hCv F₁ N₁ hap hq hv hj
    obtain ⟨tv, rfl⟩ := hv
    clear F2 N2 hQ
    k_steps
    rename Fr _ _ _ _ => F4
    rename News _ _ _ _ => N4
    exact hq _ _ _ _ F4 N4 (sub_pre [] _ _ _ _) (hj.step hi)
  · intro D h7 tk7 ys hLD F7 N7 hap7 hj
    clear F2 N2
    exact hQ _ _ _ D ys F7 ⟨rfl, rfl, rfl, rfl, rfl, rfl, trivial⟩ N7 hLD hj
theorem rseg2 {Q : Flow → Shared → Prop} {D : Addr} {ys : List Value} {t1 t2 te : Tok} (X' : (K w.params).In g) (T' : Top topProg ls mean mg mb g) (hh : A.handled = none) (hd : A.depth + 60 < recursionLimit) (hu : A.units + 100 < cLine) (F : Fr g L s.heap m) (hm : Holds m [(Str.ofString "first", .int first ta), (Str.ofString "count", .int (count : Nat) tb), (Str.ofString "one", .int (first.fdiv modulus) t1), (Str.ofString "other", .int ((first + count - 1).fdiv modulus) t2), (Str.ofString "last", .int ((first + count - 1).fmod modulus) td), (Str.ofString "rests", .ref D)]) (N : News g L s.heap ((D, lst ys) :: (L + 1 + 1, o1) :: (L + 1, o2) :: V)) (d1 : o1.data = .cell (some (.int (first.fmod modulus) te))) (d2 : o2.data = .cell (some (.int modulus tc))) (hc : count < 16) (hc0 : 0 < count) (hb0 : modulus ≠ 0) (hb : modulus.natAbs < 16) (ha : first.natAbs < 31000)
   (hys : RestJ (first.fmod modulus) modulus count count ys)
   (hQ : ∀ (h : Heap) (tk : Nat) (m' : Str → Option Value), Fr g L h m' → News g L h ((D, lst ys) :: V) → Q (.ret (.ref D)) { s with heap := h, toks := tk }) :
   wpAny (model prog w) (A.deeper (env200 L)) (execs [nth b200 2, nth b200 3] (env200 L)) Q (fun _ _ => False) s := by
  have TR := topRead_of T'
  have F1 := pins F hm
  clear F hm
  rw [show nth b200 2 = _ from (by conv => lhs; whnf), show nth b200 3 = _ from (by conv => lhs; whnf)]
  unfold env200
  rw [show sc200 = _ from (by conv => lhs; whnf)]
  obtain ⟨⟨f1, f2⟩, f4⟩ := rest_facts (first := first) hb0 hc0
  have f3 : [first.fdiv modulus * modulus + first.fmod modulus, (first + count - 1).fdiv modulus * modulus + (first + count - 1).fmod modulus] = [first, first + count - 1] := by rw [f1, f2]
  obtain ⟨g1, g2⟩ := fmod_bound (a := first) hb0
  obtain ⟨hlen, _, hy⟩ := hys
  k_steps
  rename Fr _ _ _ _ => F13
  rename News _ _ _ _ => N13
  obtain ⟨tl, el⟩ := hy (count - 1) (by lia)
  have hlD := (isL_lst ys).list (N13.get (a := D) (.tail _ (.tail _ (.head _))))
  refine tail_any hlD.typeIs slot_list_getitem.lookup (wpAny_getItem_list_neg (x := .int ((first.fmod modulus + ((count - 1 : Nat) : Int)).fmod modulus) tl) hlD (by decide) (by rw [List.size_toArray, hlen]; lia) (by decide) (by rw [List.size_toArray, hlen, show ((-1 : Int) + (count : Int)).toNat = count - 1 by lia]; simpa using el) ?_) (by with_unfolding_all rfl)
  k_steps
  · exact hQ _ _ _ F13 (nPick N13 [2] 5)
  · exact absurd f4 (by assumption)
end
theorem law_rests_G {prog : Program} {w : World} {A : Around} {E : Value → Shared → Prop} {s : Shared} {mean : ExcName → Option Value} {mg mb : PySem.Str → Option Value} {ls : List Str} {first modulus : Int} {count : Nat} {ta tb tc : Tok} {Q : Value → Shared → Prop}
   (X : (K w.params).In s.heap) (T : Top topProg ls mean mg mb s.heap) (hh : A.handled = none) (hd : A.depth + 60 < recursionLimit) (hu : A.units + 100 < cLine) (G : TabsG s.heap)
   (ha : first.natAbs < 31000) (hc0 : 0 < count) (hc : count < 16) (hb0 : modulus ≠ 0) (hb : modulus.natAbs < 16)
   (hQ : ∀ (h' : Heap) (tk : Nat) (r : Addr) (ys : List Value), TabsTo s.heap h' → s.heap.objs.size ≤ r → h'.get? r = some (lst ys) → ys.length = count → (∀ i, i < count → ∃ t, ys[i]? = some (.int ((first + (i : Nat)).fmod modulus) t)) →
     Q (.ref r) {s with heap := h', toks := tk}) :
   wpAny (model prog w) A (call (.ref 200) [.int first ta, .int (count : Nat) tb, .int modulus tc]) Q E s := by
  k_dflt (refine' enterC [(Str.ofString "first", .int first ta), (Str.ofString "count", .int (count : Nat) tb), (Str.ofString "modulus", .int modulus tc)] X T.nolimit ?k1 ?k2 (by lia) ?kb ?ks ?k3 ?k4 ?k5 ?k6 ?k7 ?k8 ?_)
  case k1 => k_dflt k_is
  case k2 => k_dflt k_is
  case kb => conv => lhs; whnf
  case ks => conv => lhs; whnf
  case k3 => exact BindsTo.of_eq rfl
  case k4 => rfl
  case k5 => decide
  case k6 => exact rfl
  case k7 => exact rfl
  case k8 => exact rfl
  intro h₁ L tk0 cells F N Y lc
  obtain ⟨o1, o2, rfl, d1, d2⟩ := CellsAre2 Y
  obtain ⟨g, oA, oB, x, T', F', N'⟩ := entT X T F N G
  clear F N
  have hV := x.start
  have hVn := x.start_ne (Nat.le_add_right L 2)
  rw [List.cons_append, List.cons_append, List.nil_append] at N'
  generalize [((86 : Addr), oA), (93, oB)] = V at *
  show wpAny _ (A.deeper (env200 L)) (execs b200 (env200 L)) _ _ _
  rw [show b200 = [nth b200 0, nth b200 1, nth b200 2, nth b200 3] from by kernel_rfl]
  refine wpAny_execs_cons ?_
  refine rseg0 (s := { s with heap := h₁, toks := tk0 }) x T' hh hd F' ⟨rfl, rfl, trivial⟩ N' d1 d2 hV hVn ha hc hb0 hb fun h2 tk2 m2 o3 V2 t1 t2 t3 t4 F2 hm2 N2 d3 hV2 => ?_
  refine wpAny_execs_cons ?_
  refine rseg1 (s := { s with heap := h2, toks := tk2 }) x.K T' hh hu F2 hm2 N2 d3 d2 hc hb0 fun h3 tk3 m3 D ys F3 hm3 N3 lD hj => ?_
  refine rseg2 (s := { s with heap := h3, toks := tk3 }) x.K T' hh hd hu F3 hm3 N3 d3 d2 hc hc0 hb0 hb ha hj fun h4 tk4 m4 F4 N4 => ?_
  obtain ⟨hlen, _, hy⟩ := hj
  refine hQ h4 tk4 D ys (x.back F4 N4 hV2 fun _ h => .tail _ h) (Nat.le_trans x.hL (Nat.le_of_lt lD)) (N4.get (.head _)) hlen fun i hi => ?_
  obtain ⟨t, e⟩ := hy i hi
  exact ⟨t, by rw [e, Int.fmod_add_fmod]⟩
end Mine
namespace Mine
local macro_rules | `(tactic| walk_at "no such place") => `(tactic| fail)
local macro_rules | `(tactic| walk_at $k) => Mine.stopAt ["exec While Compare cons nil"] k
noncomputable def Bis (f : Nat → Int) (x : Int) (n lo hi r : Nat) : Prop := lo ≤ r ∧ r ≤ hi ∧ (∀ i, lo ≤ i → i < r → f i ≤ x) ∧ ∀ i, r ≤ i → i < hi → x < f i
structure BisR (f : Nat → Int) (x : Int) (n lo₀ hi₀ lo hi : Nat) : Prop where
  a : lo₀ ≤ lo
  b : lo ≤ hi
  c : hi ≤ hi₀
  d : hi₀ ≤ n
  e : ∀ i, lo₀ ≤ i → i < lo → f i ≤ x
  g : ∀ i, hi ≤ i → i < hi₀ → x < f i
theorem BisR.start {f : Nat → Int} {x : Int} {n lo₀ hi₀ : Nat} (h : lo₀ ≤ hi₀) (h' : hi₀ ≤ n) : BisR f x n lo₀ hi₀ lo₀ hi₀ :=
  ⟨Nat.le_refl _, h, Nat.le_refl _, h', fun i h h' => absurd h' (Nat.not_lt.mpr h), fun i h h' => absurd h' (Nat.not_lt.mpr h)⟩
theorem BisR.mid {f : Nat → Int} {x : Int} {n lo₀ hi₀ lo hi : Nat} (r : BisR f x n lo₀ hi₀ lo hi) (h : (lo : Int) < hi) : ∃ mid : Nat, ((lo : Int) + hi).fdiv 2 = (mid : Int) ∧ lo ≤ mid ∧ mid < hi ∧ mid < n := by
  obtain ⟨_, _, c, d, _, _⟩ := r
  exact ⟨(lo + hi) / 2, by rw [Int.fdiv_eq_ediv_of_nonneg _ (by decide)]; lia, by lia, by lia, by lia⟩
theorem BisR.left {f : Nat → Int} {x : Int} {n lo₀ hi₀ lo hi mid : Nat} (r : BisR f x n lo₀ hi₀ lo hi) (mono : ∀ i j, i ≤ j → j < n → f i ≤ f j) (h1 : lo ≤ mid) (h2 : mid < hi) (hx : x < f mid) : BisR f x n lo₀ hi₀ lo mid ∧ mid - lo < hi - lo :=
  ⟨⟨r.a, h1, Nat.le_trans (Nat.le_of_lt h2) r.c, r.d, r.e, fun i h h' => Int.lt_of_lt_of_le hx (mono mid i h (Nat.lt_of_lt_of_le h' r.d))⟩, Nat.sub_lt_sub_right h1 h2⟩
theorem BisR.right {f : Nat → Int} {x : Int} {n lo₀ hi₀ lo hi mid : Nat} (r : BisR f x n lo₀ hi₀ lo hi) (mono : ∀ i j, i ≤ j → j < n → f i ≤ f j) (h1 : lo ≤ mid) (h2 : mid < hi) (hx : ¬ x < f mid) : BisR f x n lo₀ hi₀ (mid + 1) hi ∧ hi - (mid + 1) < hi - lo :=
  ⟨⟨Nat.le_trans r.a (Nat.le_succ_of_le h1), h2, r.c, r.d, fun i _ h => Int.le_trans (mono i mid (Nat.le_of_lt_succ h) (Nat.lt_of_lt_of_le h2 (Nat.le_trans r.c r.d))) (Int.not_lt.mp hx), r.g⟩, Nat.sub_lt_sub_left (Nat.lt_of_le_of_lt h1 h2) (Nat.lt_succ_of_le h1)⟩
theorem BisR.done {f : Nat → Int} {x : Int} {n lo₀ hi₀ lo hi : Nat} (r : BisR f x n lo₀ hi₀ lo hi) (h : ¬ (lo : Int) < hi) : Bis f x n lo₀ hi₀ lo := by
  obtain ⟨a, b, c, d, e, g⟩ := r
  obtain rfl : lo = hi := by lia
  exact ⟨a, c, e, g⟩
inductive BisJ (f : Nat → Int) (x : Int) (n lo₀ hi₀ : Nat) (hold : Nat → Nat → Tok → Tok → List (Str × Value)) (k : Nat) (m : Str → Option Value) (news : List (Addr × Obj)) : Prop
  | intro (lo hi : Nat) (ta tb : Tok) (hn : news = []) (hm : Holds m (hold lo hi ta tb)) (hk : k = hi - lo) (r : BisR f x n lo₀ hi₀ lo hi)
theorem bisect_spec {prog : Program} {w : World} {A : Around} {E : Value → Shared → Prop} {s : Shared} {mg mb : PySem.Str → Option Value} {ls : List Str} {l : Addr} {vs : List Value} {f : Nat → Int} {n : Nat} {x : Int} {tx : Tok} {Q : Value → Shared → Prop}
   (X : (K w.params).In s.heap) (T : TopRead topProg ls mg mb s.heap) (hd : A.depth < recursionLimit) (hl : s.heap.IsList l vs.toArray) (hn : vs.length = n) (hn8 : n ≤ 8) (hv : ∀ i, i < n → ∃ t, vs[i]? = some (.int (f i) t))
   (mono : ∀ i j, i ≤ j → j < n → f i ≤ f j)
   (hQ : ∀ h' tk r t, Bis f x n 0 n r → Ext s.heap h' → Q (.int (r : Nat) t) {s with heap := h', toks := tk}) :
   wpAny (model prog w) A (call (.ref 121) [.ref l, .int x tx]) Q E s := by
  k_dflt (refine' enterE [(Str.ofString "a", .ref l), (Str.ofString "x", .int x tx), (Str.ofString "lo", .int 0 347), (Str.ofString "hi", .none), (Str.ofString "key", .none)] X T.nolimit ?k1 ?k2 hd ?kb ?ks ?k3 ?k4 ?k5 ?k6 ?k7 ?k8 ?_)
  case k1 => k_dflt k_is
  case k2 => k_dflt k_is
  case kb => conv => lhs; whnf
  case ks => conv => lhs; whnf
  case k3 => exact kp_binds X fun S => rfl
  case k4 => exact locs rfl
  case k5 => decide
  case k6 => exact rfl
  case k7 => exact rfl
  case k8 => exact rfl
  intro h₁ L F N
  k_steps
  have hl₁ : h₁.IsList l vs.toArray := hl.at fun o e => F.keep l o e
  refine PyProof.Rows.len_list (s := {s with heap := h₁, toks := tk}) hl₁ (by rw [List.size_toArray]; lia) ?_
  have hsz : ((vs.toArray.size : Nat) : Int) = (n : Int) := by rw [List.size_toArray, hn]
  rw [hsz]
  k_steps
  rename Fr _ _ _ _ => F1
  rename News _ _ _ _ => N1
  refine Stop.mk (While_inv (BisJ f x n 0 n fun lo hi ta tb => [(Str.ofString "a", .ref l), (Str.ofString "x", .int x tx), (Str.ofString "lo", .int (lo : Int) ta), (Str.ofString "hi", .int (hi : Int) tb)]) (n₀ := n) F1 N1 ⟨0, n, _, _, rfl, ⟨rfl, rfl, rfl, rfl, trivial⟩, rfl, .start (Nat.zero_le _) (Nat.le_refl _)⟩ ?_)
  rintro k m₁ news₁ h₂ tk₂ F₂ N₂ ⟨lo, hi, ta, tb, rfl, hm, rfl, r⟩
  have F₃ := pins F₂ hm
  clear F₂ F1 N1 hm hl₁
  k_steps
  · rename Fr _ _ _ _ => F4
    rename News _ _ _ _ => N4
    rename (lo : Int) < _ => hlt
    obtain ⟨mid, hmid, hm1, hm2, hmn⟩ := r.mid hlt
    rw [hmid] at F4 ⊢
    dsimp only at F4 ⊢
    obtain ⟨ti, hvi⟩ := hv mid hmn
    clear hmid hlt
    refine PyProof.Rows.item_list (hl.at fun o e => F4.keep l o e) (by lia) (by lia) (by simpa using hvi) ?_
    k_steps
    · rename Fr _ _ _ _ => F5
      rename News _ _ _ _ => N5
      rename x < f mid => hx
      have q := r.left mono hm1 hm2 hx
      exact WhileStep.intro F5 N5 q.2 ⟨lo, mid, _, _, rfl, ⟨rfl, rfl, rfl, rfl, trivial⟩, rfl, q.1⟩
    · rename Fr _ _ _ _ => F5
      rename News _ _ _ _ => N5
      rename ¬ x < f mid => hx
      have q := r.right mono hm1 hm2 hx
      exact WhileStep.intro F5 N5 q.2 ⟨mid + 1, hi, _, _, rfl, ⟨rfl, rfl, rfl, rfl, trivial⟩, rfl, q.1⟩
  · rename ¬ (lo : Int) < _ => hlt
    rename Fr _ _ _ _ => F4
    exact hQ _ _ _ _ (r.done hlt) F4.keep
end Mine
namespace Mine
local macro_rules | `(tactic| walk_at $k) => Mine.stopAt ["exec While Compare cons nil"] k
theorem FnAt.keeps {q : Addr} {h h' : Heap} (x : PySem.W.FnAt q h) (k : ∀ b o, h.get? b = some o → h'.get? b = some o) : PySem.W.FnAt q h' := by
  obtain ⟨oc, od, fd, sl, e⟩ := x
  exact ⟨oc, od, fd, sl, k _ _ e⟩
theorem callWith_FS {M : Model} {A : Around} {E : Value → Shared → Prop} {s : Shared} {env : Env} {pos : Pos} {first : List Value} {Q : Value → Shared → Prop} {q : Addr} {e : Expr} {rest : List Expr} (X : FnAt q s.heap) (h : wpAny M A (spliced (backTo pos (starEach (e :: rest) env))) (fun vs s₁ => Stop (FnAt q s₁.heap ∧ wpAny M A (call (.ref q) (first ++ vs)) Q E s₁)) E s)
    (he : starEach (e :: rest) env = (false, eval e env) :: starEach rest env := by rfl) (hplain : (backTo pos (starEach rest env)).any (·.1) = false := by rfl) :
    wpAny M A (callWith pos (.ref q) first (backTo pos (starEach (e :: rest) env)) []) Q E s := callWith_F X h he hplain
theorem bisect_key_spec {prog : Program} {w : World} {A : Around} {E : Value → Shared → Prop} {s : Shared} {mg mb : PySem.Str → Option Value} {ls : List Str} {l fk : Addr} {vs : List Value} {f : Nat → Int} {n lo₀ hi₀ : Nat} {x : Int} {tx t1 t2 : Tok} {Q : Value → Shared → Prop}
   (X : (K w.params).In s.heap) (T : TopRead topProg ls mg mb s.heap) (hd : A.depth < recursionLimit) (hfn : FnAt fk s.heap) (hl : s.heap.IsList l vs.toArray) (hn : vs.length = n) (hn8 : n ≤ 8) (hv : ∀ i, i < n → ∃ t, vs[i]? = some (.int (i : Nat) t)) (hlo₀ : lo₀ ≤ hi₀) (hhi₀ : hi₀ ≤ n)
   (hkey : ∀ (env : Env) (s' : Shared) (i : Nat) (t : Tok) (Q' : Value → Shared → Prop) (E' : Value → Shared → Prop), i < n → Ext s.heap s'.heap → (∀ h' tk t', Ext s'.heap h' → Q' (.int (f i) t') { s' with heap := h', toks := tk }) → wpAny (model prog w) (A.deeper env) (call (.ref fk) [.int (i : Nat) t]) Q' E' s')
   (mono : ∀ i j, i ≤ j → j < n → f i ≤ f j)
   (hQ : ∀ h' tk r t, Bis f x n lo₀ hi₀ r → Ext s.heap h' → Q (.int (r : Nat) t) {s with heap := h', toks := tk}) :
   wpAny (model prog w) A (call (.ref 121) [.ref l, .int x tx, .int (lo₀ : Nat) t1, .int (hi₀ : Nat) t2] [(Str.ofString "key", .ref fk)]) Q E s := by
  k_dflt (refine' enterE [(Str.ofString "a", .ref l), (Str.ofString "x", .int x tx), (Str.ofString "lo", .int (lo₀ : Nat) t1), (Str.ofString "hi", .int (hi₀ : Nat) t2), (Str.ofString "key", .ref fk)] X T.nolimit ?k1 ?k2 hd ?kb ?ks ?k3 ?k4 ?k5 ?k6 ?k7 ?k8 ?_)
  case k1 => k_dflt k_is
  case k2 => k_dflt k_is
  case kb => conv => lhs; whnf
  case ks => conv => lhs; whnf
  case k3 => exact kp_binds X fun S => rfl
  case k4 => exact locs rfl
  case k5 => decide
  case k6 => exact rfl
  case k7 => exact rfl
  case k8 => exact rfl
  intro h₁ L F N
  k_steps
  refine Stop.mk (While_inv (BisJ f x n lo₀ hi₀ fun lo hi ta tb => [(Str.ofString "a", .ref l), (Str.ofString "x", .int x tx), (Str.ofString "lo", .int (lo : Int) ta), (Str.ofString "hi", .int (hi : Int) tb), (Str.ofString "key", .ref fk)]) (n₀ := hi₀ - lo₀) F N ⟨lo₀, hi₀, _, _, rfl, ⟨rfl, rfl, rfl, rfl, rfl, trivial⟩, rfl, .start hlo₀ hhi₀⟩ ?_)
  rintro k m₁ news₁ h₂ tk₂ F₂ N₂ ⟨lo, hi, ta, tb, rfl, hm, rfl, r⟩
  have F₃ := pins F₂ hm
  clear F₂ F N hm
  k_steps
  · rename Fr _ _ _ _ => F4
    rename News _ _ _ _ => N4
    rename (lo : Int) < _ => hlt
    obtain ⟨mid, hmid, hm1, hm2, hmn⟩ := r.mid hlt
    rw [hmid] at F4
    dsimp only at F4 ⊢
    obtain ⟨ti, hvi⟩ := hv mid hmn
    refine callWith_FS (FnAt.keeps hfn F4.keep) ?_
    k_steps
    refine PyProof.Rows.item_list (hl.at fun o e => F4.keep l o e) (by lia) (by lia) (by simpa using hvi) ?_
    k_steps
    refine Stop.mk ⟨FnAt.keeps hfn F4.keep, ?_⟩
    refine hkey _ _ mid _ _ _ hmn F4.keep fun h' tk t' he => ?_
    have F5 := F4.keeps he
    have N5 := N4.grown he
    clear F4 N4
    k_steps
    · rename Fr _ _ _ _ => F5
      rename News _ _ _ _ => N5
      rename x < f mid => hx
      have q := r.left mono hm1 hm2 hx
      exact WhileStep.intro F5 N5 q.2 ⟨lo, mid, _, _, rfl, ⟨rfl, rfl, rfl, rfl, rfl, trivial⟩, rfl, q.1⟩
    · rename Fr _ _ _ _ => F5
      rename News _ _ _ _ => N5
      rename ¬ x < f mid => hx
      have q := r.right mono hm1 hm2 hx
      exact WhileStep.intro F5 N5 q.2 ⟨mid + 1, hi, _, _, rfl, ⟨rfl, rfl, rfl, rfl, rfl, trivial⟩, rfl, q.1⟩
  · rename ¬ (lo : Int) < _ => hlt
    rename Fr _ _ _ _ => F4
    exact hQ _ _ _ _ (r.done hlt) F4.keep
end Mine
namespace Mine
local macro_rules | `(tactic| walk_at $k) => Mine.stopAt ["subscriptTail"] k
theorem enterLam {prog : Program} {w : World} {A : Around} {E : Value → Shared → Prop} {s : Shared} {Q : Value → Shared → Prop} {name qual : PySem.Str} {params : Arguments} {body : Expr} {scope : Scope} {cl : List (Str × Addr)} {pm ctv : Value} {c' f : Addr} {vals : List Value} {kw : List (PySem.Str × Value)} (binds : List (PySem.Str × Value))
    (hlim : s.heap.NoLimit) (ho : s.heap.get? f = some (kla_obj name qual params body scope cl pm c' ctv)) (hcd : s.heap.CodeRec (.ref c') qual) (hroom : A.depth < recursionLimit)
    (hbind : BindsTo s (kla_fn name qual params body scope cl pm (.ref c') ctv) ⟨vals, kw⟩ binds) (hloc : ∀ y ∈ binds, scope.names.lookup y.1 = some .local)
    (hcell : ∀ x ∈ scope.names, x.2 ≠ .cell) (hco : scope.isCoroutine = false) (hgen : scope.isGenerator = false) (hk : scope.kind = .function)
    (h : ∀ h₁ L, Fr s.heap L h₁ (fun y => binds.reverse.lookup y) → News s.heap L h₁ [] →
      wpAny (model prog w) (A.deeper (envX qual scope L f (.ref c') cl)) (eval body (envX qual scope L f (.ref c') cl)) Q (fun _ _ => False) { s with heap := h₁, toks := s.toks + binds.length }) :
    wpAny (model prog w) A (call (.ref f) vals kw) Q E s := by
  refine wpAny_call ?_
  refine kla_callFunE hroom ho rfl hco hgen rfl hcd (hbind _ _ _ _ ?_)
  refine wpAny_newFunctionEnv hcell hloc (fun h₁ hns hsb => ⟨hlim.fresh _ hsb, ?_⟩) hk
  show codeAny _ _ (.expr body (envX qual scope s.heap.objs.size f (.ref c') cl)) _ _
  have hk₁ : ∀ b o, s.heap.get? b = some o → h₁.get? b = some o := fun b o e => hsb.extBut b o (Nat.ne_of_lt (Heap.lt_size e)) (Heap.get?_push_of_some _ e)
  exact kla_codeExpr (wpAny_mono (h h₁ s.heap.objs.size ⟨hns, hk₁, Nat.le_refl _⟩ News.nil) (fun _ _ x => x) fun _ _ x => x.elim)
theorem lam192 {prog : Program} {w : World} {A : Around} {E : Value → Shared → Prop} {s : Shared} {Q : Value → Shared → Prop} {mg mb : PySem.Str → Option Value} {ls : List Str} {name qual : PySem.Str} {p0 p1 p2 p3 : Pos} {c P : Addr} {oc : Obj} {ps : List Value} {n i : Nat} {x : Int} {t tp : Tok} {pm ctv : Value} {c' f : Addr}
    (T : TopRead topProg ls mg mb s.heap) (ho : s.heap.get? f = some (kla_obj name qual { posonlyargs := [], args := [{ arg := Str.ofString "k", annotation := none, pos := p0 }], vararg := none, kwonlyargs := [], kw_defaults := [], kwarg := none, defaults := [] }
      ((Expr.Name (Str.ofString "products") p1).Subscript (Expr.Name (Str.ofString "k") p2) p3) { kind := ScopeKind.function, names := [(Str.ofString "k", NameKind.local), (Str.ofString "products", NameKind.free)], isGenerator := false, isCoroutine := false } [(Str.ofString "products", c)] pm c' ctv))
    (hcd : s.heap.CodeRec (.ref c') qual) (hroom : A.depth < recursionLimit) (hc : s.heap.get? c = some oc) (hoc : oc.data = .cell (some (.ref P))) (hP : s.heap.get? P = some (W.listOf ps.toArray n)) (hi : i < 100) (hx : ps[i]? = some (.int x tp))
    (hq : ∀ h' tk, Ext s.heap h' → Q (.int x tp) { s with heap := h', toks := tk }) :
    wpAny (model prog w) A (call (.ref f) [.int (i : Nat) t] []) Q E s := by
  refine enterLam [(Str.ofString "k", .int (i : Nat) t)] T.nolimit ho hcd hroom (BindsTo.of_eq rfl) (locs rfl) (by decide) rfl rfl rfl fun hz Lz Fz Nz => ?_
  refine Subscript_ ?_
  refine nameX_Fb Fz rfl hc hoc ?_
  refine nameX_L Fz rfl ?_
  refine (PyProof.Rows.item_list ((show IsL (W.listOf ps.toArray n) ps from ⟨rfl, _, rfl⟩).list (Fz.keep _ _ hP)) (by lia) (by lia) (by simpa using hx) ?_)
  exact hq _ _ Fz.keep
end Mine
namespace Mine
noncomputable def isInt (e : Expr) (j : Int) : Bool := match e with
  | .Constant c _ _ => match c with
    | .int i => decide (i = j)
    | _ => false
  | _ => false
theorem isInt_eq {e : Expr} {j : Int} (h : isInt e j = true) : ∃ k p, e = .Constant (.int j) k p := by
  unfold isInt at h
  split at h
  · split at h
    · exact ⟨_, _, by rw [of_decide_eq_true h]⟩
    · cases h
  · cases h
noncomputable def intCs (es : List Expr) (is : List Int) : Bool := match es with
  | [] => is.isEmpty
  | e :: r => match is with
    | [] => false
    | j :: js => isInt e j && intCs r js
theorem intsTake {vs : List Value} {ns : List Int} (h : IntsAre vs ns) : ∀ n, IntsAre (vs.take n) (ns.take n) := by
  induction h with
  | nil => intro n; simp; exact .nil
  | cons x t r ih =>
    intro n
    cases n with
    | zero => exact .nil
    | succ n => exact .cons x t (ih n)
section
variable {M : Model} {A : Around} {E : Value → Shared → Prop} {env : Env} {pos : Pos}
theorem args_ints (es : List Expr) : ∀ (is : List Int), intCs es is = true → ∀ (s : Shared) (Q : List Value → Shared → Prop), (∀ vs tk, IntsAre vs is → Q vs { s with toks := tk }) → wpAny M A (spliced (backTo pos (starEach es env))) Q E s := by
  induction es with
  | nil =>
    intro is h s Q hq
    cases is with
    | nil => exact args_nil (hq [] s.toks .nil)
    | cons j js => cases h
  | cons e r ih =>
    intro is h s Q hq
    cases is with
    | nil => cases h
    | cons j js =>
      have h' : (isInt e j && intCs r js) = true := h
      rw [Bool.and_eq_true] at h'
      obtain ⟨k, p, rfl⟩ := isInt_eq h'.1
      exact args_cons (wpAny_Constant_int (ih js h'.2 _ _ fun vs tk hv => hq _ tk (.cons _ _ hv)))
end
section
variable {M : Model} {A : Around} {E : Value → Shared → Prop} {env : Env} {pos : Pos} {s : Shared} {g : Heap} {L : Addr} {m : Str → Option Value} {news : List (Addr × Obj)} {Q : Value → Shared → Prop}
theorem listInts {es : List Expr} (is : List Int) (F : Fr g L s.heap m) (N : News g L s.heap news) (hI : intCs es is = true) (hlen : is.length ≤ 100)
    (hQ : ∀ (h' : Heap) (tk : Nat) (l : Addr) (vs : List Value), Fr g L h' m → News g L h' ((l, W.listOf vs.toArray 0) :: news) → IntsAre vs is → (∀ p ∈ news, p.1 < l) → Q (.ref l) { s with heap := h', toks := tk }) : wpAny M A (eval (.List es pos) env) Q E s :=
  List_ (args_ints es is hI s _ fun vs tk hv => newList_N (s := { s with toks := tk }) F N (fun h' F' N' => hQ h' tk _ vs F' N' hv fun p hp => Heap.lt_size (N p hp).1)
    (Nat.le_trans (Nat.le_trans (Nat.le_of_eq hv.length) hlen) (by decide)))
end
end Mine
end
section
open PySem PySem.W PySem.Calls PyProof.Rows
namespace Mine
noncomputable def fronts : List Nat := [119808, 119860, 119912, 120016, 120172, 120224, 120276, 120328, 120380, 120432]
noncomputable def letters : List Nat := [97, 98, 99, 100, 101, 102, 103, 104, 105, 106, 107, 108, 109, 110, 111, 112]
theorem low_ok : (letters.all fun c => b3map c == ⟨#[c]⟩ && !b1set (c : Int)) = true := by kernel_rfl
theorem up_ok : (letters.all fun c => b3map (c - 32) == ⟨#[c]⟩ && !b1set ((c - 32 : Nat) : Int)) = true := by kernel_rfl
theorem great_ok : (fronts.all fun g => letters.all fun c => b3map (g + c - 97) == ⟨#[c]⟩ && !b1set ((g + c - 97 : Nat) : Int)) = true := by kernel_rfl
theorem unseen_ok : (b1.all fun u => b3map u == ⟨#[u]⟩ && b1set (u : Int)) = true := by kernel_rfl
noncomputable def pairs2 : List (List Nat × Nat) := [([103, 98], 13191), ([107, 97], 13188), ([107, 98], 13189), ([109, 97], 13187), ([109, 98], 13190), ([110, 97], 13185), ([110, 102], 13195), ([112, 97], 13184), ([112, 102], 13194)]
theorem two_ok : (pairs2.all fun p => b3map p.2 == ⟨p.1.toArray⟩ && !b1set (p.2 : Int)) = true := by kernel_rfl
theorem upper_ok : (letters.all fun c => Txt.upper ⟨#[c]⟩ == ⟨#[c - 32]⟩) = true := by kernel_rfl
end Mine
end
section
open PySem PySem.W PySem.Calls PyProof.Rows
namespace Mine
theorem slice_take {l : List Nat} {j : Nat} (hj : j ≤ l.length) : Txt.slice ⟨l.toArray⟩ none (some (j : Int)) = ⟨(l.take j).toArray⟩ := by
  have h := slice_closes_to (x := ⟨l.toArray⟩) (j := (j : Int)) ⟨by lia, by simp; lia⟩
  rw [beq_iff_eq.mp h]
  simp
theorem slice_drop {l : List Nat} {j : Nat} (hj : j ≤ l.length) : Txt.slice ⟨l.toArray⟩ (some (j : Int)) none = ⟨(l.drop j).toArray⟩ := by
  have h := slice_closes_from (x := ⟨l.toArray⟩) (i := (j : Int)) ⟨by lia, by simp; lia⟩
  rw [beq_iff_eq.mp h]
  simp
  rw [List.take_of_length_le (by simp)]
theorem slice_one (c : Nat) (rest : List Nat) : Txt.slice ⟨(c :: rest).toArray⟩ none (some 1) = ⟨#[c]⟩ := by
  have := slice_take (l := c :: rest) (j := 1) (by simp)
  simpa using this
theorem slice_two (c : Nat) (rest : List Nat) : Txt.slice ⟨(c :: rest).toArray⟩ none (some 2) = ⟨((c :: rest).take 2).toArray⟩ := by
  cases rest with
  | nil =>
    have h1 : (⟨[c].toArray⟩ : Str).length = 1 := rfl
    unfold Txt.slice
    rw [h1, if_pos (by decide)]
    rfl
  | cons d r =>
    have := slice_take (l := c :: d :: r) (j := 2) (by simp)
    simpa using this
noncomputable def twos (u0 u1 u2 u3 u4 u5 u6 u7 u8 : Tok) : List (Str × Value) := [(Str.ofString "gb", .int 13191 u0), (Str.ofString "ka", .int 13188 u1), (Str.ofString "kb", .int 13189 u2), (Str.ofString "ma", .int 13187 u3), (Str.ofString "mb", .int 13190 u4), (Str.ofString "na", .int 13185 u5), (Str.ofString "nf", .int 13195 u6), (Str.ofString "pa", .int 13184 u7), (Str.ofString "pf", .int 13194 u8)]
noncomputable def greats : List Int := [119808, 119860, 119912, 120016, 120172, 120224, 120276, 120328, 120380, 120432]
theorem two_found {u0 u1 u2 u3 u4 u5 u6 u7 u8 : Tok} {l : List Nat} (h : (valueAt (twos u0 u1 u2 u3 u4 u5 u6 u7 u8) (⟨l.toArray⟩ : Str)).isSome = true) :
    ∃ (n : Nat) (t : Tok), valueAt (twos u0 u1 u2 u3 u4 u5 u6 u7 u8) (⟨l.toArray⟩ : Str) = some (.int (n : Int) t) ∧ (l, n) ∈ pairs2 := by
  obtain ⟨v, hv⟩ := Option.isSome_iff_exists.mp h
  have key : ∀ (kvs : List (Str × Value)) (k : Str) (v : Value), valueAt kvs k = some v → (k, v) ∈ kvs := by
    intro kvs k v e
    unfold valueAt at e
    obtain ⟨p, hp, rfl⟩ := Option.map_eq_some_iff.mp e
    have := List.find?_some hp
    have e1 : p.1 = k := by simpa using this
    have := List.mem_of_find?_eq_some hp
    rw [← e1]
    exact this
  have hm := key _ _ _ hv
  have str : ∀ (z : Str) (a b : Nat), z = ⟨#[a, b]⟩ → (⟨l.toArray⟩ : Str) = z → l = [a, b] := by
    rintro z a b rfl e
    have := congrArg (fun s : Str => s.cps.toList) e
    simpa using this
  simp only [twos, List.mem_cons, List.mem_nil_iff, or_false, Prod.mk.injEq] at hm
  rcases hm with ⟨e, rfl⟩ | ⟨e, rfl⟩ | ⟨e, rfl⟩ | ⟨e, rfl⟩ | ⟨e, rfl⟩ | ⟨e, rfl⟩ | ⟨e, rfl⟩ | ⟨e, rfl⟩ | ⟨e, rfl⟩
  · exact ⟨13191, _, hv, by rw [str _ 103 98 (by decide) e]; decide⟩
  · exact ⟨13188, _, hv, by rw [str _ 107 97 (by decide) e]; decide⟩
  · exact ⟨13189, _, hv, by rw [str _ 107 98 (by decide) e]; decide⟩
  · exact ⟨13187, _, hv, by rw [str _ 109 97 (by decide) e]; decide⟩
  · exact ⟨13190, _, hv, by rw [str _ 109 98 (by decide) e]; decide⟩
  · exact ⟨13185, _, hv, by rw [str _ 110 97 (by decide) e]; decide⟩
  · exact ⟨13195, _, hv, by rw [str _ 110 102 (by decide) e]; decide⟩
  · exact ⟨13184, _, hv, by rw [str _ 112 97 (by decide) e]; decide⟩
  · exact ⟨13194, _, hv, by rw [str _ 112 102 (by decide) e]; decide⟩
theorem mem_letters {c : Nat} (h : 97 ≤ c ∧ c ≤ 112) : c ∈ letters := by
  have key : ∀ c, c < 113 → 97 ≤ c → c ∈ letters := by decide
  exact key c (by lia) h.1
theorem low_front {c : Nat} (h : 97 ≤ c ∧ c ≤ 112) : b3map c = ⟨#[c]⟩ ∧ b1set (c : Int) = false := by
  have := List.all_eq_true.mp low_ok c (mem_letters h)
  simpa using this
theorem up_front {c : Nat} (h : 97 ≤ c ∧ c ≤ 112) : b3map (c - 32) = ⟨#[c]⟩ ∧ b1set ((c - 32 : Nat) : Int) = false ∧ Txt.upper ⟨#[c]⟩ = ⟨#[c - 32]⟩ := by
  have h1 := List.all_eq_true.mp up_ok c (mem_letters h)
  have h2 := List.all_eq_true.mp upper_ok c (mem_letters h)
  simp only [Bool.and_eq_true, beq_iff_eq, Bool.not_eq_true'] at h1 h2
  exact ⟨h1.1, h1.2, h2⟩
theorem great_front {c g : Nat} (hg : g ∈ fronts) (h : 97 ≤ c ∧ c ≤ 112) : b3map (g + c - 97) = ⟨#[c]⟩ ∧ b1set ((g + c - 97 : Nat) : Int) = false := by
  have := List.all_eq_true.mp (List.all_eq_true.mp great_ok g hg) c (mem_letters h)
  simpa using this
theorem two_front {l : List Nat} {n : Nat} (h : (l, n) ∈ pairs2) : b3map n = ⟨l.toArray⟩ ∧ b1set (n : Int) = false ∧ l.length = 2 ∧ n < 20000 ∧ 10 < n := by
  have h1 := List.all_eq_true.mp two_ok _ h
  have h2 : ∀ p ∈ pairs2, p.1.length = 2 ∧ p.2 < 20000 ∧ 10 < p.2 := by decide
  simp only [Bool.and_eq_true, beq_iff_eq, Bool.not_eq_true'] at h1
  exact ⟨h1.1, h1.2, h2 _ h⟩
theorem unseen_front {u : Nat} (h : u ∈ b1) : b3map u = ⟨#[u]⟩ ∧ b1set (u : Int) = true ∧ 10 < u ∧ u < 70000 := by
  have h1 := List.all_eq_true.mp unseen_ok u h
  have h2 : ∀ u ∈ b1, 10 < u ∧ u < 70000 := by decide
  simp only [Bool.and_eq_true, beq_iff_eq] at h1
  exact ⟨h1.1, h1.2, h2 u h⟩
end Mine
end
section
open PySem PySem.W PySem.Calls PyProof.Rows PyProof.Rows.LCg
namespace Mine
local macro_rules | `(tactic| walk_at $k) => Mine.stopAt ["exec For Tuple BinOp cons nil", "exec While Compare cons nil", "eval ListComp", "subscriptTail", "call ref"] k
inductive StopHere : Prop where | mk
local macro_rules | `(tactic| walk_at "eval IfExp") => `(tactic| (rename StopHere => shX; clear shX; k_here; refine Stop.out ?_))
theorem ints_get {us : List Value} {ns : List Int} (h : IntsAre us ns) : us.length = ns.length ∧ ∀ (i : Nat) (x : Int), ns[i]? = some x → ∃ t : Tok, us[i]? = some (Value.int x t) := by
  induction h with
  | nil => exact ⟨rfl, fun i x e => by simp at e⟩
  | cons n t _ ih =>
    refine ⟨by simp [ih.1], fun i x e => ?_⟩
    cases i with
    | zero => simp at e; exact ⟨t, by simp [e]⟩
    | succ i => simpa using ih.2 i x (by simpa using e)
theorem fronts_get {f : Nat} (h2 : 1 < f) (h12 : f < 12) : ∃ g : Nat, greats[f - 2]? = some (g : Int) ∧ g ∈ fronts ∧ 119000 < g ∧ g < 121000 := by
  have key : ∀ f, f < 12 → 1 < f → ∃ g ∈ fronts, greats[f - 2]? = some (g : Int) ∧ 119000 < g ∧ g < 121000 := by decide
  obtain ⟨g, h1, h2, h3⟩ := key f h12 h2
  exact ⟨g, h2, h1, h3⟩
theorem b1_unseen (k : Int) : (b1set k != (List.map Int.ofNat b1).any fun x => x == k) = false := by
  have : b1set k = (List.map Int.ofNat b1).any fun x => x == k := by
    unfold b1set
    rw [List.any_map]
    congr 1
    funext c
    show (k == (c : Int)) = ((c : Int) == k)
    exact BEq.comm
  rw [this]
  simp
noncomputable abbrev b190 : List Stmt := fnBody (nth top 20)
noncomputable abbrev sc190 : Scope := fnScope (nth top 20)
noncomputable abbrev env190 (L : Addr) : Env := envX (Str.ofString "_law_front") sc190 L 190 (.ref 189) (cellsFrom (L + 1) sc190.names [])
noncomputable def whB (s : Stmt) : List Stmt := by
  cases s with
  | While _ b _ _ => exact b
  | _ => exact []
noncomputable def forB0 (s : Stmt) : List Stmt := by
  cases s with
  | For _ _ b _ _ => exact b
  | _ => exact []
noncomputable def forT0 (s : Stmt) : Expr := by
  cases s with
  | For t _ _ _ _ => exact t
  | _ => exact .Constant .none 0 ⟨0, 0, 0, 0⟩
noncomputable def forI0 (s : Stmt) : Expr := by
  cases s with
  | For _ i _ _ _ => exact i
  | _ => exact .Constant .none 0 ⟨0, 0, 0, 0⟩
noncomputable def forP0 (s : Stmt) : Pos := by
  cases s with
  | For _ _ _ _ p => exact p
  | _ => exact ⟨0, 0, 0, 0⟩
theorem two_of {α : Type} : ∀ {p : List α}, p.length = 2 → ∃ x y, p = [x, y] := by
  intro p h
  cases p with
  | nil => cases h
  | cons x r =>
    cases r with
    | nil => cases h
    | cons y r =>
      cases r with
      | nil => exact ⟨x, y, rfl⟩
      | cons z r => cases h
noncomputable abbrev wb190 : List Stmt := whB (nth b190 4)
noncomputable abbrev fb190 : List Stmt := forB0 (nth wb190 3)
theorem pins_eq {m : Str → Option Value} {ps : List (Str × Value)} (e : Holds m ps) : (fun y => (ps.lookup y).or (m y)) = m := funext fun y => by
  cases h : ps.lookup y with
  | none => rfl
  | some v => exact (e.get h).symm
theorem cat_str (a b : List Nat) : (⟨a.toArray⟩ : Str) ++ ⟨b.toArray⟩ = ⟨(a ++ b).toArray⟩ := by show (⟨a.toArray ++ b.toArray⟩ : Str) = _; simp
noncomputable def Typed (ty : Nat) (mn : List Nat) : Prop := 10 < ty ∧ ty < 200000 ∧ b3map ty = (if mn = [] then ⟨#[ty]⟩ else ⟨mn.toArray⟩) ∧ b1set (ty : Int) = decide (mn = [])
theorem ne_empty {mn : List Nat} : ((⟨mn.toArray⟩ : Str) != Str.ofString "") = !decide (mn = []) := by
  cases mn with
  | nil => decide
  | cons a r =>
    have : ((⟨(a :: r).toArray⟩ : Str) != Str.ofString "") = true := bne_iff_ne.mpr fun h => by
      have h' := congrArg (fun z : Str => z.cps.size) h
      simp at h'
      exact absurd (h'.trans (by decide : (Str.ofString "").cps.size = 0)) (by lia)
    rw [this]
    rfl
theorem xtest {prog : Program} {w : World} {A : Around} {E : Value → Shared → Prop} {s : Shared} {g : Heap} {mean : ExcName → Option Value} {mg mb : PySem.Str → Option Value} {ls : List Str} {Q : Flow → Shared → Prop}
   {L V : Addr} {oc : Obj} {vs : List Value} {rest : List (Addr × Obj)} {m : Str → Option Value} {ty : Nat} {mn : List Nat} {t1 t2 : Tok}
   (X : (K w.params).In g) (T : Top topProg ls mean mg mb g) (hh : A.handled = none) (hd : A.depth + 10 < recursionLimit) (hu : A.units + 90 < cLine)
   (F : Fr g L s.heap m) (N : News g L s.heap ((L + 1, oc) :: (V, W.listOf vs.toArray 0) :: rest)) (dc : oc.data = .cell (some (.ref V))) (hV : IntsAre vs (b1.map Int.ofNat)) (hty : Typed ty mn)
   (h1 : m (Str.ofString "typed") = some (.str ⟨#[ty]⟩ t1)) (h2 : m (Str.ofString "meaning") = some (.str ⟨mn.toArray⟩ t2))
   (hQ : ∀ (h' : Heap) (tk : Nat) (nw : List (Addr × Obj)), Fr g L h' m → News g L h' nw → (∀ p ∈ (L + 1, oc) :: (V, W.listOf vs.toArray 0) :: rest, p ∈ nw) → Q .next { s with heap := h', toks := tk }) :
   wpAny (model prog w) A (exec (nth fb190 0) (env190 L)) Q E s := by
  have TR := topRead_of T
  have hm := pins_eq (m := m) (ps := [(Str.ofString "typed", .str ⟨#[ty]⟩ t1), (Str.ofString "meaning", .str ⟨mn.toArray⟩ t2)]) ⟨h1, h2, trivial⟩
  rw [← hm] at F
  rw [show nth fb190 0 = _ from (by conv => lhs; whnf)]
  unfold env190
  rw [show sc190 = _ from (by conv => lhs; whnf)]
  obtain ⟨y1, y2, y3, y4⟩ := hty
  k_steps
  rename Fr _ _ _ _ => F2
  rename News _ _ _ _ => N2
  refine Stop.mk (map_table_b3_spec (c := ty) (Frag.In.keeps X F2.keep) (TR.keeps F2.keep) (room (j := 0) hd) fun h3 tk3 t3 he3 => ?_)
  have F3 := F2.keeps he3
  have N3 := N2.grown he3
  clear F2 N2
  refine cutQ (fun Q' => ∀ (t' : Tok) (tk : Nat), Q' (.str (b3map ty) t') { s with heap := h3, toks := tk }) (fun Q' hq => ?_) fun t' tk => ?_
  · rw [y3] at hq
    clear y3 y4
    by_cases hm : mn = []
    · rw [if_pos hm] at hq
      have hne : ((⟨mn.toArray⟩ : Str) != Str.ofString "") = false := by rw [ne_empty, decide_eq_true hm]; rfl
      k_steps
      exact hq _ _
    · rw [if_neg hm] at hq
      have hne : ((⟨mn.toArray⟩ : Str) != Str.ofString "") = true := by rw [ne_empty, decide_eq_false hm]; rfl
      k_steps
      exact hq _ _
  · have hS : (b3map ty != b3map ty) = false := by simp
    k_steps
    rename Fr _ _ _ _ => F4
    rename News _ _ _ _ => N4
    refine' Stop.mk (compOfT F4 ?k1 rfl ?k3 rfl ?_)
    case k1 => exact rfl
    case k3 => decide
    k_steps
    rename IsRange _ _ _ _ _ _ _ _ => rg
    rename Fr _ _ _ _ => F5
    rename News _ _ _ _ => N5
    refine ⟨[], 3, fun j v _ => ∃ t, v = .int ((ty : Int) - 1 + (j : Nat)) t, _, fun _ ys => ys = [], [], starts_range hh rg (small_one (by lia) (by lia) (by lia) (by lia)) (by rw [rangeSize_nat]; congr 1; lia), F5, N5, (fun _ h => nomatch h), rfl, ?_, ?_, ?_⟩
    · rintro j ys rfl
      exact Nat.zero_le _
    · intro D C oC mC j v _ ys tail s₁ E' Qe Qs hj hC hCv F₁ N₁ hap hq hq' hP hys
      obtain ⟨tv, rfl⟩ := hP
      obtain ⟨kk, hkk⟩ : ∃ kk : Nat, (ty : Int) - 1 + (j : Nat) = (kk : Int) := ⟨ty - 1 + j, by lia⟩
      rw [hkk] at hCv
      have hkk1 : kk < 200010 := by lia
      clear F5 N5 rg
      k_steps
      rename Fr _ _ _ _ => F6
      rename News _ _ _ _ => N6
      rw [Int.toNat_natCast]
      refine Stop.mk (in_table_b1_spec (c := kk) (Frag.In.keeps X F6.keep) (TR.keeps F6.keep) (room (j := 0) hd) fun h7 tk7 he7 => ?_)
      have F7 := F6.keeps he7
      have N7 := N6.grown he7
      clear F6 N6
      have hbk := b1_unseen (kk : Int)
      k_steps
      rename Fr _ _ _ _ => F8
      rename News _ _ _ _ => N8
      exact hq' _ _ _ F8 N8 (sub_pre [] _ _ _ _) hys
    · intro D h17 tk17 ys hLD F7 N7 hap hys
      obtain rfl := hys
      clear F5 N5
      k_steps
      rename Fr _ _ _ _ => F8
      rename News _ _ _ _ => N8
      exact hQ _ _ _ (hm ▸ F8) N8 (fun p hp => List.mem_cons_of_mem _ (List.mem_cons_of_mem _ hp))
theorem xtext {prog : Program} {w : World} {A : Around} {E : Value → Shared → Prop} {s : Shared} {g : Heap} {mean : ExcName → Option Value} {mg mb : PySem.Str → Option Value} {ls : List Str} {Q : Flow → Shared → Prop}
   {L : Addr} {news : List (Addr × Obj)} {m : Str → Option Value} {ty : Nat} {mn done : List Nat} {t1 t3 : Tok}
   (X : (K w.params).In g) (T : Top topProg ls mean mg mb g) (hh : A.handled = none) (hd : A.depth + 10 < recursionLimit)
   (F : Fr g L s.heap m) (N : News g L s.heap news) (hty : Typed ty mn) (hl : done.length + mn.length ≤ 30)
   (h1 : m (Str.ofString "typed") = some (.str ⟨#[ty]⟩ t1)) (h3 : m (Str.ofString "text") = some (.str ⟨done.toArray⟩ t3))
   (hQ : ∀ (h' : Heap) (tk : Nat) (tx : Tok), Fr g L h' (fun y => if y = Str.ofString "text" then some (.str ⟨(done ++ mn).toArray⟩ tx) else m y) → News g L h' news → Q .next { s with heap := h', toks := tk }) :
   wpAny (model prog w) A (exec (nth fb190 1) (env190 L)) Q E s := by
  have TR := topRead_of T
  have hm := pins_eq (m := m) (ps := [(Str.ofString "typed", .str ⟨#[ty]⟩ t1), (Str.ofString "text", .str ⟨done.toArray⟩ t3)]) ⟨h1, h3, trivial⟩
  rw [← hm] at F hQ
  clear hm
  rw [show nth fb190 1 = _ from (by conv => lhs; whnf)]
  unfold env190
  rw [show sc190 = _ from (by conv => lhs; whnf)]
  obtain ⟨y1, y2, y3, y4⟩ := hty
  k_steps
  rename Fr _ _ _ _ => F2
  rename News _ _ _ _ => N2
  refine Stop.mk (in_table_b1_spec (c := ty) (Frag.In.keeps X F2.keep) (TR.keeps F2.keep) (room (j := 0) hd) fun h3 tk3 he3 => ?_)
  have F3 := F2.keeps he3
  have N3 := N2.grown he3
  clear F2 N2
  rw [y4]
  by_cases hm : mn = []
  · subst hm
    rw [List.append_nil] at hQ
    k_steps
    rename Fr _ _ _ _ => F4
    rename News _ _ _ _ => N4
    exact hQ _ _ _ F4 N4
  · rw [decide_eq_false hm]
    rw [if_neg hm] at y3
    k_steps
    rename Fr _ _ _ _ => F4
    rename News _ _ _ _ => N4
    refine Stop.mk (map_table_b3_spec (c := ty) (Frag.In.keeps X F4.keep) (TR.keeps F4.keep) (room (j := 0) hd) fun h5 tk5 t5 he5 => ?_)
    rw [y3]
    have F5 := F4.keeps he5
    have N5 := N4.grown he5
    clear F4 N4
    k_steps
    rename Fr _ _ _ _ => F6
    rename News _ _ _ _ => N6
    rw [cat_str] at F6
    exact hQ _ _ _ F6 N6
theorem xturn {prog : Program} {w : World} {A : Around} {E : Value → Shared → Prop} {s : Shared} {g : Heap} {mean : ExcName → Option Value} {mg mb : PySem.Str → Option Value} {ls : List Str} {Q : Flow → Shared → Prop}
   {L V : Addr} {oc : Obj} {vs : List Value} {rest : List (Addr × Obj)} {m : Str → Option Value} {ty : Nat} {mn done : List Nat} {t1 t2 t3 : Tok}
   (X : (K w.params).In g) (T : Top topProg ls mean mg mb g) (hh : A.handled = none) (hd : A.depth + 10 < recursionLimit) (hu : A.units + 90 < cLine)
   (F : Fr g L s.heap m) (N : News g L s.heap ((L + 1, oc) :: (V, W.listOf vs.toArray 0) :: rest)) (dc : oc.data = .cell (some (.ref V))) (hV : IntsAre vs (b1.map Int.ofNat)) (hty : Typed ty mn) (hl : done.length + mn.length ≤ 30)
   (h1 : m (Str.ofString "typed") = some (.str ⟨#[ty]⟩ t1)) (h2 : m (Str.ofString "meaning") = some (.str ⟨mn.toArray⟩ t2)) (h3 : m (Str.ofString "text") = some (.str ⟨done.toArray⟩ t3))
   (hQ : ∀ (h' : Heap) (tk : Nat) (tx : Tok) (nw : List (Addr × Obj)), Fr g L h' (fun y => if y = Str.ofString "text" then some (.str ⟨(done ++ mn).toArray⟩ tx) else m y) → News g L h' nw → (∀ p ∈ (L + 1, oc) :: (V, W.listOf vs.toArray 0) :: rest, p ∈ nw) → Q .next { s with heap := h', toks := tk }) :
   wpAny (model prog w) A (execs fb190 (env190 L)) Q E s := by
  rw [show fb190 = [nth fb190 0, nth fb190 1] from by kernel_rfl]
  refine wpAny_execs_cons (xtest X T hh hd hu F N dc hV hty h1 h2 fun h4 tk4 nw F4 N4 sub => ?_)
  refine wpAny_execs_cons (xtext (s := { s with heap := h4, toks := tk4 }) X T hh hd F4 N4 hty hl h1 h3 fun h5 tk5 tx F5 N5 => ?_)
  exact wpAny_execs_nil (hQ h5 tk5 tx nw F5 N5 sub)
noncomputable def SignsAt (its : List Value) (extra : List (Addr × Obj)) (ps : List (Nat × List Nat)) : Prop :=
  its.length = ps.length ∧ ∀ (i : Nat) (q : Nat × List Nat), ps[i]? = some q → ∃ (T : Addr) (t1 t2 : Tok), its[i]? = some (Value.ref T) ∧ (T, ({ cls := .type "tuple", data := .seq #[.str ⟨#[q.1]⟩ t1, .str ⟨q.2.toArray⟩ t2] } : Obj)) ∈ extra ∧ Typed q.1 q.2
theorem typed_unseen {u : Nat} (h : u ∈ b1) : Typed u [] := by
  obtain ⟨e1, e2, e3, e4⟩ := unseen_front h
  exact ⟨e3, by lia, e1, e2⟩
theorem unseen_at (k : Nat) : ∃ u : Nat, (List.map Int.ofNat b1).getD (((k : Int)).fmod 27).toNat 0 = (u : Int) ∧ u ∈ b1 := by
  have hlt : ((k : Int).fmod 27).toNat < 27 := by
    rw [Int.fmod_eq_emod_of_nonneg _ (by decide)]
    lia
  generalize ((k : Int).fmod 27).toNat = j at hlt
  have key : ∀ j, j < 27 → ∃ u ∈ b1, (List.map Int.ofNat b1).getD j 0 = (u : Int) := by decide
  obtain ⟨u, h1, h2⟩ := key j hlt
  exact ⟨u, h2, h1⟩
theorem xfor {prog : Program} {w : World} {A : Around} {s : Shared} {g : Heap} {mean : ExcName → Option Value} {mg mb : PySem.Str → Option Value} {ls : List Str} {Q : Flow → Shared → Prop}
   {L V G DD : Addr} {oc oD oG : Obj} {vs : List Value} {m : Str → Option Value} {sg n : Nat} {p done : List Nat} {pk : Int} {wv : Value} {t2 t3 t5 t6 t7 : Tok}
   (X : (K w.params).In g) (T : Top topProg ls mean mg mb g) (hh : A.handled = none) (hd : A.depth + 10 < recursionLimit) (hu : A.units + 90 < cLine)
   (F : Fr g L s.heap m) (N : News g L s.heap ((L + 1, oc) :: (V, W.listOf vs.toArray 0) :: (G, oG) :: (DD, oD) :: [])) (dc : oc.data = .cell (some (.ref V))) (hV : IntsAre vs (b1.map Int.ofNat))
   (hsg : Typed sg p) (hp0 : p ≠ []) (hl : done.length + p.length ≤ 30)
   (hm : Holds m [(Str.ofString "word", wv), (Str.ofString "number", .int (n : Nat) t2), (Str.ofString "text", .str ⟨done.toArray⟩ t3), (Str.ofString "two", .ref DD), (Str.ofString "great", .ref G), (Str.ofString "pick", .int pk t6), (Str.ofString "part", .str ⟨p.toArray⟩ t5), (Str.ofString "sign", .str ⟨#[sg]⟩ t7)])
   (hQ : ∀ (h' : Heap) (tk : Nat) (tx : Tok) (m' : Str → Option Value), Fr g L h' m' → News g L h' ((L + 1, oc) :: (V, W.listOf vs.toArray 0) :: (G, oG) :: (DD, oD) :: []) →
     Holds m' [(Str.ofString "word", wv), (Str.ofString "number", .int (n : Nat) t2), (Str.ofString "text", .str ⟨(done ++ p).toArray⟩ tx), (Str.ofString "two", .ref DD), (Str.ofString "great", .ref G), (Str.ofString "part", .str ⟨p.toArray⟩ t5)] → Q .next { s with heap := h', toks := tk }) :
   wpAny (model prog w) A (exec (nth wb190 3) (env190 L)) Q (fun _ _ => False) s := by
  have TR := topRead_of T
  have F1 := pins F hm
  clear F hm
  rw [show nth wb190 3 = .For (forT0 (nth wb190 3)) (forI0 (nth wb190 3)) fb190 [] (forP0 (nth wb190 3)) from by kernel_rfl, show forT0 (nth wb190 3) = _ from (by conv => lhs; whnf), show forI0 (nth wb190 3) = _ from (by conv => lhs; whnf)]
  unfold env190
  rw [show sc190 = _ from (by conv => lhs; whnf)]
  refine forP (h₀ := g) (L := L) rfl ?_
  refine cutQ (fun Q' => ∀ (h : Heap) (tk : Nat) (l : Addr) (cl : Nat) (its : List Value) (extra : List (Addr × Obj)) (ps : List (Nat × List Nat)) (m' : Str → Option Value), Fr g L h m' →
    Holds m' [(Str.ofString "word", wv), (Str.ofString "number", .int (n : Nat) t2), (Str.ofString "text", .str ⟨done.toArray⟩ t3), (Str.ofString "two", .ref DD), (Str.ofString "great", .ref G), (Str.ofString "part", .str ⟨p.toArray⟩ t5)] →
    News g L h ((l, W.listOf its.toArray cl) :: (extra ++ (L + 1, oc) :: (V, W.listOf vs.toArray 0) :: (G, oG) :: (DD, oD) :: [])) → SignsAt its extra ps → ps.flatMap (·.2) = p → Q' (.ref l) { s with heap := h, toks := tk }) (fun Q' hq => ?_) fun h tk l cl its extra ps m' F2 hm2 N2 hit hps => ?_
  · obtain ⟨u, hu1, hu2⟩ := unseen_at n
    have hTu := typed_unseen hu2
    obtain ⟨hu3, hu4, _, _⟩ := hTu
    obtain ⟨hs3, hs4, _, _⟩ := id hsg
    clear hQ
    k_steps
    · rename Fr _ _ _ _ => F3
      rename News _ _ _ _ => N3
      rw [hu1, Int.toNat_natCast] at N3
      refine hq _ _ _ 0 [_, _] [_, _] [(u, []), (sg, p)] _ F3 ⟨rfl, rfl, rfl, rfl, rfl, rfl, trivial⟩ (nPickE N3 [0, 4, 2, 5, 6, 7, 8]) ⟨rfl, fun i q hi => ?_⟩ (by simp)
      match i, hi with
      | 0, hi => cases hi; exact ⟨_, _, _, rfl, List.mem_cons_self, typed_unseen hu2⟩
      | 1, hi => cases hi; exact ⟨_, _, _, rfl, List.mem_cons_of_mem _ List.mem_cons_self, hsg⟩
    · rename Fr _ _ _ _ => F3
      rename News _ _ _ _ => N3
      refine hq _ _ _ 0 [_] [_] [(sg, p)] _ F3 ⟨rfl, rfl, rfl, rfl, rfl, rfl, trivial⟩ (nPickE N3 [0, 2, 4, 5, 6, 7]) ⟨rfl, fun i q hi => ?_⟩ (by simp)
      match i, hi with
      | 0, hi => cases hi; exact ⟨_, _, _, rfl, List.mem_cons_self, hsg⟩
  · obtain ⟨hlen, hit⟩ := hit
    refine ⟨[], [l], ps.length, fun i v _ => its.toArray[i]? = some v, _, m', fun i m => ∃ tx : Tok, Holds m [(Str.ofString "word", wv), (Str.ofString "number", .int (n : Nat) t2), (Str.ofString "text", .str ⟨(done ++ (ps.take i).flatMap (·.2)).toArray⟩ tx), (Str.ofString "two", .ref DD), (Str.ofString "great", .ref G), (Str.ofString "part", .str ⟨p.toArray⟩ t5)],
      starts_listT (by rw [List.size_toArray, hlen]) hh ⟨_, N2.get List.mem_cons_self, rfl, _, rfl⟩, F2, N2, (fun _ h => nomatch h), ⟨t3, by rw [List.take_zero]; show Holds m' _; rw [List.flatMap_nil, List.append_nil]; exact hm2⟩, ?_, ?_⟩
    · intro i v m₁ tail s₁ E' Q' hi F₁ N₁ hq hr hs hv hj
      obtain ⟨tx, hm⟩ := hj
      obtain ⟨T1, ta1, ta2, eT, hmT, hty⟩ := hit i _ (List.getElem?_eq_getElem hi)
      obtain rfl : v = .ref T1 := by
        rw [List.getElem?_toArray, eT] at hv
        exact (Option.some.inj hv).symm
      have F₂ := pins F₁ hm
      clear F1 F2 N2 F₁ N hQ
      refine assignP F₂ N₁ rfl hh ⟨_, N₁.get (List.mem_append_left _ (List.mem_cons_of_mem _ (List.mem_append_left _ hmT))), rfl, _, rfl⟩ rfl rfl rfl fun h12 tk12 F12 N12 => ?_
      have N13 : News g L h12 ((L + 1, oc) :: (V, W.listOf vs.toArray 0) :: ((l, W.listOf its.toArray cl) :: (extra ++ [(L + 1, oc), (V, W.listOf vs.toArray 0), (G, oG), (DD, oD)] ++ tail))) := nSub N12 fun x hx => by
        rcases List.mem_cons.mp hx with rfl | hx
        · exact List.mem_append_left _ (List.mem_cons_of_mem _ (List.mem_append_right _ List.mem_cons_self))
        · rcases List.mem_cons.mp hx with rfl | hx
          · exact List.mem_append_left _ (List.mem_cons_of_mem _ (List.mem_append_right _ (List.mem_cons_of_mem _ List.mem_cons_self)))
          · exact hx
      have hle : (done ++ (ps.take i).flatMap (·.2)).length + (ps[i].2).length ≤ 30 := by
        have e : (ps.take (i + 1)).flatMap (·.2) = (ps.take i).flatMap (·.2) ++ ps[i].2 := by rw [List.take_succ_eq_append_getElem hi, List.flatMap_append]; simp
        have h2 : ((ps.take (i + 1)).flatMap (·.2)).length ≤ p.length := by
          rw [← hps, ← List.take_append_drop (i + 1) ps, List.flatMap_append, List.length_append, List.take_append_drop]
          exact Nat.le_add_right _ _
        rw [e, List.length_append] at h2
        rw [List.length_append]
        lia
      refine xturn (s := { s₁ with heap := h12, toks := tk12 }) X T hh hd hu F12 N13 dc hV hty hle rfl rfl rfl fun h13 tk13 ty' nw F13 N14 sub => ?_
      refine hq _ _ _ _ F13 N14 (fun x hx => sub x (List.mem_cons_of_mem _ (List.mem_cons_of_mem _ (List.mem_cons_of_mem _ (List.mem_append_right _ hx))))) ⟨ty', rfl, rfl, ?_, rfl, rfl, rfl, trivial⟩
      rw [List.take_succ_eq_append_getElem hi, List.flatMap_append, ← List.append_assoc]
      simp
    · intro h9 tk9 m9 F9 N9 hj
      obtain ⟨tx, hm⟩ := hj
      rw [List.take_length, hps] at hm
      exact hQ _ _ tx _ F9 (nSub N9 fun x hx => List.mem_cons_of_mem _ (List.mem_append_right _ hx)) hm
noncomputable def TT (tt : List (Str × Value)) : Prop := ∀ p : List Nat, (valueAt tt (⟨p.toArray⟩ : Str)).isSome = true → ∃ (v : Nat) (t : Tok), valueAt tt (⟨p.toArray⟩ : Str) = some (.int (v : Int) t) ∧ (p, v) ∈ pairs2
noncomputable def PickedP (c : Nat) (f : Nat) (tt : List (Str × Value)) (p : List Nat) : Prop := p = [c] ∨ (f < 5 ∧ ∃ (v : Nat) (t : Tok), valueAt tt (⟨p.toArray⟩ : Str) = some (.int (v : Int) t) ∧ (p, v) ∈ pairs2)
section
variable {prog : Program} {w : World} {A : Around} {E : Value → Shared → Prop} {s : Shared} {g : Heap} {mean : ExcName → Option Value} {mg mb : PySem.Str → Option Value} {ls : List Str} {Q : Flow → Shared → Prop}
   {L V G DD : Addr} {oc oD oG : Obj} {vs : List Value} {m : Str → Option Value} {t1 t2 t3 t4 t5 t6 t7 : Tok} {c n : Nat} {rest done : List Nat}
theorem xpick (X : (K w.params).In g) (T : Top topProg ls mean mg mb g) (hh : A.handled = none)
   (F : Fr g L s.heap m) (N : News g L s.heap ((L + 1, oc) :: (V, W.listOf vs.toArray 0) :: (G, oG) :: (DD, oD) :: []))
   (hm : Holds m [(Str.ofString "word", .str ⟨(c :: rest).toArray⟩ t1), (Str.ofString "number", .int (n : Nat) t2), (Str.ofString "text", .str ⟨done.toArray⟩ t3), (Str.ofString "two", .ref DD), (Str.ofString "great", .ref G)])
   (hQ : ∀ (h' : Heap) (tk : Nat) (m' : Str → Option Value) (t2 t4 : Tok), Fr g L h' m' → News g L h' ((L + 1, oc) :: (V, W.listOf vs.toArray 0) :: (G, oG) :: (DD, oD) :: []) →
     Holds m' [(Str.ofString "word", .str ⟨(c :: rest).toArray⟩ t1), (Str.ofString "number", .int ((n / 17 : Nat) : Int) t2), (Str.ofString "text", .str ⟨done.toArray⟩ t3), (Str.ofString "two", .ref DD), (Str.ofString "great", .ref G), (Str.ofString "pick", .int ((n : Int).fmod 17) t4)] → Q .next { s with heap := h', toks := tk }) :
   wpAny (model prog w) A (exec (nth wb190 0) (env190 L)) Q E s := by
  have F1 := pins F hm
  clear F hm
  rw [show nth wb190 0 = _ from (by conv => lhs; whnf)]
  unfold env190
  rw [show sc190 = _ from (by conv => lhs; whnf)]
  k_steps
  rename_i T5 h5' F5 N5 q5
  refine unpack2 F5 N5 hh ⟨_, N5.get (a := T5) (by k_mem), rfl, _, rfl⟩ rfl fun h6' F6 N6 => ?_
  clear F5 N5
  refine assignInOrder_cons ?_
  have h17 : (n : Int).fdiv 17 = ((n / 17 : Nat) : Int) := by rw [Int.fdiv_eq_ediv_of_nonneg _ (by decide)]; rfl
  k_steps
  rename Fr _ _ _ _ => F7
  rename News _ _ _ _ => N7
  rw [h17] at F7
  exact hQ _ _ _ _ _ F7 (nPickE N7 [1, 2, 3, 4]) ⟨rfl, rfl, rfl, rfl, rfl, rfl, trivial⟩
theorem xpart {tt : List (Str × Value)} {num : Nat} (X : (K w.params).In g) (T : Top topProg ls mean mg mb g) (hh : A.handled = none) (hrl : rest.length ≤ 20) (hDk : Obj.IsDictOf (PySem.strKind prog w) oD tt) (hTT : TT tt) (loD : (DD == sysModules) = false)
   (F : Fr g L s.heap m) (N : News g L s.heap ((L + 1, oc) :: (V, W.listOf vs.toArray 0) :: (G, oG) :: (DD, oD) :: []))
   (hm : Holds m [(Str.ofString "word", .str ⟨(c :: rest).toArray⟩ t1), (Str.ofString "number", .int (num : Nat) t2), (Str.ofString "text", .str ⟨done.toArray⟩ t3), (Str.ofString "two", .ref DD), (Str.ofString "great", .ref G), (Str.ofString "pick", .int ((n : Int).fmod 17) t4)])
   (hQ : ∀ (h' : Heap) (tk : Nat) (m' : Str → Option Value) (p r : List Nat) (f : Nat) (t5 t6 : Tok), Fr g L h' m' → News g L h' ((L + 1, oc) :: (V, W.listOf vs.toArray 0) :: (G, oG) :: (DD, oD) :: []) →
     Holds m' [(Str.ofString "word", .str ⟨(c :: rest).toArray⟩ t1), (Str.ofString "number", .int (num : Nat) t2), (Str.ofString "text", .str ⟨done.toArray⟩ t3), (Str.ofString "two", .ref DD), (Str.ofString "great", .ref G), (Str.ofString "pick", .int ((n : Int).fmod 17) t4), (Str.ofString "part", .str ⟨p.toArray⟩ t5), (Str.ofString "form", .int (f : Int) t6)] →
     p ++ r = c :: rest → f < 12 → PickedP c f tt p → Q .next { s with heap := h', toks := tk }) :
   wpAny (model prog w) A (exec (nth wb190 1) (env190 L)) Q E s := by
  have F1 := pins F hm
  have hmE := pins_eq hm
  clear F
  rw [show nth wb190 1 = _ from (by conv => lhs; whnf)]
  unfold env190
  rw [show sc190 = _ from (by conv => lhs; whnf)]
  have hsz : (⟨(c :: rest).toArray⟩ : Str).length ≤ sizeLine := by
    show (c :: rest).toArray.size ≤ _
    simp
    exact Nat.le_trans (by lia : rest.length + 1 ≤ 21) (by decide)
  have hfd : ∃ f : Nat, ((n : Int).fmod 17).fmod 12 = f ∧ f < 12 ∧ (11 < (n : Int).fmod 17 → f < 5) := by
    rw [Int.fmod_eq_emod_of_nonneg _ (by decide), Int.fmod_eq_emod_of_nonneg _ (by decide)]
    exact ⟨n % 17 % 12, by lia, by lia, by lia⟩
  obtain ⟨f, hf, hf12, hf5⟩ := hfd
  have sh : StopHere := ⟨⟩
  k_steps
  rename Fr _ _ _ _ => F2
  rename News _ _ _ _ => N2
  refine Stop.mk (cutQ (fun Q' => ∀ (h : Heap) (tk : Nat) (p r : List Nat) (t5 : Tok) (nw : List (Addr × Obj)), Fr g L h m → News g L h nw → (∀ x ∈ (L + 1, oc) :: (V, W.listOf vs.toArray 0) :: (G, oG) :: (DD, oD) :: [], x ∈ nw) → p ++ r = c :: rest → PickedP c f tt p → Q' (.str ⟨p.toArray⟩ t5) { s with heap := h, toks := tk }) (fun Q' hq => ?_) fun h tk p r t5 nw F3 N3 sub hpr hpk => ?_)
  · clear hQ hm
    k_steps
    · refine wpAny_in_of (knd := PySem.strKind prog w) (k := Txt.slice ⟨(c :: rest).toArray⟩ none (some 2)) (strKind_is prog w _ _) loD (Heap.dictOf_iff.mpr ⟨oD, News.get (by assumption) (a := DD) (by k_mem), hDk⟩).mapOf ?_
      k_steps
      · rename (valueAt _ _).isSome = true => hsome
        rename Fr _ _ _ _ => F8
        rename News _ _ _ _ => N8
        rw [slice_two] at hsome ⊢
        exact hq _ _ ((c :: rest).take 2) ((c :: rest).drop 2) _ _ (hmE ▸ F8) N8 (fun x hx => hx) (List.take_append_drop _ _) (.inr ⟨hf5 (by assumption), hTT _ hsome⟩)
      · rename Fr _ _ _ _ => F8
        rename News _ _ _ _ => N8
        rw [slice_one]
        exact hq _ _ [c] rest _ _ (hmE ▸ F8) N8 (fun x hx => hx) rfl (.inl rfl)
    · rename Fr _ _ _ _ => F8
      rename News _ _ _ _ => N8
      rw [slice_one]
      exact hq _ _ [c] rest _ _ (hmE ▸ F8) N8 (fun x hx => hx) rfl (.inl rfl)
  · clear F2 N2 hmE
    have F4 := pins F3 hm
    have N4 := nSub N3 sub
    clear F3 N3 hm
    k_steps
    rename_i D8 h8 F8 N8 q8
    refine unpack2 F8 N8 hh ⟨_, N8.get (a := D8) (by k_mem), rfl, _, rfl⟩ rfl fun h9' F9 N9 => ?_
    clear F8 N8
    refine assignInOrder_cons ?_
    k_steps
    rename Fr _ _ _ _ => F10
    rename News _ _ _ _ => N10
    rw [hf] at F10
    exact hQ _ _ _ p r f _ _ F10 (nPickE N10 [1, 2, 3, 4]) ⟨rfl, rfl, rfl, rfl, rfl, rfl, rfl, rfl, trivial⟩ hpr hf12 hpk
theorem xsign {tt : List (Str × Value)} {num : Nat} {gs : List Value} {wv : Value} {p : List Nat} {f : Nat} {pk : Int} (X : (K w.params).In g) (T : Top topProg ls mean mg mb g) (hh : A.handled = none) (hDk : Obj.IsDictOf (PySem.strKind prog w) oD tt) (hgs : IntsAre gs greats) (loD : (DD == sysModules) = false)
   (F : Fr g L s.heap m) (N : News g L s.heap ((L + 1, oc) :: (V, W.listOf vs.toArray 0) :: (G, W.listOf gs.toArray 0) :: (DD, oD) :: []))
   (hm : Holds m [(Str.ofString "word", wv), (Str.ofString "number", .int (num : Nat) t2), (Str.ofString "text", .str ⟨done.toArray⟩ t3), (Str.ofString "two", .ref DD), (Str.ofString "great", .ref G), (Str.ofString "pick", .int pk t4), (Str.ofString "part", .str ⟨p.toArray⟩ t5), (Str.ofString "form", .int (f : Int) t6)])
   (hcl : 97 ≤ c ∧ c ≤ 112) (hf12 : f < 12) (hpk : PickedP c f tt p)
   (hQ : ∀ (h' : Heap) (tk : Nat) (m' : Str → Option Value) (sg : Nat) (t7 : Tok), Fr g L h' m' → News g L h' ((L + 1, oc) :: (V, W.listOf vs.toArray 0) :: (G, W.listOf gs.toArray 0) :: (DD, oD) :: []) →
     Holds m' [(Str.ofString "word", wv), (Str.ofString "number", .int (num : Nat) t2), (Str.ofString "text", .str ⟨done.toArray⟩ t3), (Str.ofString "two", .ref DD), (Str.ofString "great", .ref G), (Str.ofString "pick", .int pk t4), (Str.ofString "part", .str ⟨p.toArray⟩ t5), (Str.ofString "sign", .str ⟨#[sg]⟩ t7)] →
     Typed sg p → p ≠ [] → p.length ≤ 2 → Q .next { s with heap := h', toks := tk }) :
   wpAny (model prog w) A (exec (nth wb190 2) (env190 L)) Q E s := by
  have typed : ∀ {sg : Nat} {p : List Nat}, b3map sg = ⟨p.toArray⟩ → b1set (sg : Int) = false → 10 < sg → sg < 200000 → p ≠ [] → Typed sg p := fun h1 h2 h3 h4 hp => ⟨h3, h4, by rw [if_neg hp]; exact h1, by rw [decide_eq_false hp]; exact h2⟩
  have hq : ∀ (h' : Heap) (tk : Nat) (m' : Str → Option Value) (nw : List (Addr × Obj)) (sg : Nat) (t7 : Tok), Fr g L h' m' → News g L h' nw → (∀ x ∈ (L + 1, oc) :: (V, W.listOf vs.toArray 0) :: (G, W.listOf gs.toArray 0) :: (DD, oD) :: [], x ∈ nw) →
     Holds m' [(Str.ofString "word", wv), (Str.ofString "number", .int (num : Nat) t2), (Str.ofString "text", .str ⟨done.toArray⟩ t3), (Str.ofString "two", .ref DD), (Str.ofString "great", .ref G), (Str.ofString "pick", .int pk t4), (Str.ofString "part", .str ⟨p.toArray⟩ t5), (Str.ofString "sign", .str ⟨#[sg]⟩ t7)] →
     b3map sg = ⟨p.toArray⟩ → b1set (sg : Int) = false → 10 < sg → sg < 200000 → p ≠ [] → p.length ≤ 2 → Q .next { s with heap := h', toks := tk } :=
    fun h' tk m' nw sg t7 F' N' sub h e1 e2 e3 e4 e5 e6 => hQ h' tk m' sg t7 F' (nSub N' sub) h (typed e1 e2 e3 e4 e5) e5 e6
  clear hQ typed
  have F1 := pins F hm
  clear F hm
  rw [show nth wb190 2 = _ from (by conv => lhs; whnf)]
  unfold env190
  rw [show sc190 = _ from (by conv => lhs; whnf)]
  rcases hpk with rfl | ⟨hf5', v, tv, hv, hmem⟩
  · k_steps
    · rename (1 : Int) < (f : Int) => hf1
      obtain ⟨g0, hg0, hgm, hg1, hg2⟩ := fronts_get (f := f) (by lia) hf12
      obtain ⟨tg, htg⟩ := (ints_get hgs).2 _ _ hg0
      refine Stop.mk (PyProof.Rows.item_list ⟨_, News.get (by assumption) (a := G) (by k_mem), rfl, _, rfl⟩ (by lia) (by lia) (x := .int (g0 : Int) tg) (by rw [show ((f : Int) - 2).toNat = f - 2 by lia]; simpa using htg) ?_)
      k_steps
      rename Fr _ _ _ _ => F12
      rename News _ _ _ _ => N12
      obtain ⟨e1, e2⟩ := great_front hgm hcl
      have eg : ((g0 : Int) + (c : Int) - 97).toNat = g0 + c - 97 := by lia
      rw [eg] at F12
      exact hq _ _ _ _ (g0 + c - 97) _ F12 N12 (fun x hx => hx) ⟨rfl, rfl, rfl, rfl, rfl, rfl, rfl, rfl, trivial⟩ e1 e2 (by lia) (by lia) (by simp) (by simp)
    · refine SCL.upper (by show (1 : Nat) ≤ _; decide) fun tu => ?_
      obtain ⟨e1, e2, e3⟩ := up_front hcl
      rw [e3]
      k_steps
      rename_i U8 h8u F8u N8u q8u
      obtain ⟨tz, hlU⟩ : ∃ tz, h8u.IsList U8 #[Value.str ⟨#[c]⟩ t5, .str ⟨#[c - 32]⟩ tz] := ⟨_, _, N8u.get (a := U8) (by k_mem), rfl, _, rfl⟩
      have hf01 : f = 0 ∨ f = 1 := by lia
      rcases hf01 with rfl | rfl
      · refine Stop.mk (tail_any hlU.typeIs slot_list_getitem.lookup (wpAny_getItem_list hlU (by lia) (by lia) (x := .str ⟨#[c]⟩ t5) rfl ?_) (by with_unfolding_all rfl))
        k_steps
        rename Fr _ _ _ _ => F12
        rename News _ _ _ _ => N12
        obtain ⟨e1, e2⟩ := low_front hcl
        exact hq _ _ _ _ c _ F12 N12 (fun p hp => List.mem_cons_of_mem _ hp) ⟨rfl, rfl, rfl, rfl, rfl, rfl, rfl, rfl, trivial⟩ e1 e2 (by lia) (by lia) (by simp) (by simp)
      · refine Stop.mk (tail_any hlU.typeIs slot_list_getitem.lookup (wpAny_getItem_list hlU (by lia) (by lia) (x := .str ⟨#[c - 32]⟩ tz) rfl ?_) (by with_unfolding_all rfl))
        k_steps
        rename Fr _ _ _ _ => F12
        rename News _ _ _ _ => N12
        exact hq _ _ _ _ (c - 32) _ F12 N12 (fun p hp => List.mem_cons_of_mem _ hp) ⟨rfl, rfl, rfl, rfl, rfl, rfl, rfl, rfl, trivial⟩ e1 e2 (by lia) (by lia) (by simp) (by simp)
  · obtain ⟨e1, e2, e3, e4, e5⟩ := two_front hmem
    obtain ⟨x, y, rfl⟩ := two_of e3
    k_steps
    refine P.len_str (by show ¬ ((2 : Nat) : Int) ≥ _; decide) ?_
    rw [show (((⟨#[x, y]⟩ : Str).length : Nat) : Int) = 2 from rfl]
    k_steps
    have hdd : Heap.DictOf (PySem.strKind prog w) _ DD _ := Heap.dictOf_iff.mpr ⟨oD, News.get (by assumption) (a := DD) (by k_mem), hDk⟩
    refine Stop.mk (tail_any hdd.typeIs slot_dict_getitem.lookup (wpAny_getItem_of (strKind_is prog w _ _) hdd.mapOf hv ?_) (by with_unfolding_all rfl))
    k_steps
    rename Fr _ _ _ _ => F12
    rename News _ _ _ _ => N12
    exact hq _ _ _ _ v _ F12 N12 (fun x hx => hx) ⟨rfl, rfl, rfl, rfl, rfl, rfl, rfl, rfl, trivial⟩ e1 e2 (by lia) (by lia) (by simp) (by simp)
theorem xword {num : Nat} {p r : List Nat} (X : (K w.params).In g) (T : Top topProg ls mean mg mb g) (hh : A.handled = none) (hrl : rest.length ≤ 20) (hpr : p ++ r = c :: rest)
   (F : Fr g L s.heap m) (N : News g L s.heap ((L + 1, oc) :: (V, W.listOf vs.toArray 0) :: (G, oG) :: (DD, oD) :: []))
   (hm : Holds m [(Str.ofString "word", .str ⟨(c :: rest).toArray⟩ t1), (Str.ofString "number", .int (num : Nat) t2), (Str.ofString "text", .str ⟨(done ++ p).toArray⟩ t3), (Str.ofString "two", .ref DD), (Str.ofString "great", .ref G), (Str.ofString "part", .str ⟨p.toArray⟩ t5)])
   (hQ : ∀ (h' : Heap) (tk : Nat) (m' : Str → Option Value) (t1 : Tok), Fr g L h' m' → News g L h' ((L + 1, oc) :: (V, W.listOf vs.toArray 0) :: (G, oG) :: (DD, oD) :: []) →
     Holds m' [(Str.ofString "word", .str ⟨r.toArray⟩ t1), (Str.ofString "number", .int (num : Nat) t2), (Str.ofString "text", .str ⟨(done ++ p).toArray⟩ t3), (Str.ofString "two", .ref DD), (Str.ofString "great", .ref G)] → Q .next { s with heap := h', toks := tk }) :
   wpAny (model prog w) A (exec (nth wb190 4) (env190 L)) Q E s := by
  have F1 := pins F hm
  clear F hm
  rw [show nth wb190 4 = _ from (by conv => lhs; whnf)]
  unfold env190
  rw [show sc190 = _ from (by conv => lhs; whnf)]
  have hpl : p.length ≤ (c :: rest).length := by rw [← hpr]; simp
  have hdp : (c :: rest).drop p.length = r := by rw [← hpr]; simp
  k_steps
  refine P.len_str (by show ¬ ((p.toArray.size : Nat) : Int) ≥ _; simp at hpl ⊢; lia) ?_
  rw [show (((⟨p.toArray⟩ : Str).length : Nat) : Int) = (p.length : Int) by show ((p.toArray.size : Nat) : Int) = _; simp]
  k_steps
  rename Fr _ _ _ _ => F14
  rename News _ _ _ _ => N14
  rw [slice_drop hpl, hdp] at F14
  exact hQ _ _ _ _ F14 N14 ⟨rfl, rfl, rfl, rfl, rfl, trivial⟩
end
inductive FrontJ (cs : List Nat) (DD G : Addr) (NW : List (Addr × Obj)) : Nat → (Str → Option Value) → List (Addr × Obj) → Prop
  | intro (done rest : List Nat) (n : Nat) (t1 t2 t3 : Tok) (m : Str → Option Value) (hm : Holds m [(Str.ofString "word", .str ⟨rest.toArray⟩ t1), (Str.ofString "number", .int (n : Nat) t2), (Str.ofString "text", .str ⟨done.toArray⟩ t3), (Str.ofString "two", .ref DD), (Str.ofString "great", .ref G)]) (e : done ++ rest = cs) :
    FrontJ cs DD G NW rest.length m NW
local macro_rules | `(tactic| walk_at "exec Assign cons List") => `(tactic| (rename StopHere => shX; clear shX; k_here; refine Stop.out ?_))
set_option maxHeartbeats 8000000 in
theorem law_front_spec {prog : Program} {w : World} {A : Around} {E : Value → Shared → Prop} {s : Shared} {mean : ExcName → Option Value} {mg mb : PySem.Str → Option Value} {ls : List Str} {cs : List Nat} {number : Nat} {ta tb : Tok} {Q : Value → Shared → Prop}
   (X : (K w.params).In s.heap) (T : Top topProg ls mean mg mb s.heap) (hh : A.handled = none) (hd : A.depth + 40 < recursionLimit) (hu : A.units + 100 < cLine)
   (hcs : ∀ c ∈ cs, 97 ≤ c ∧ c ≤ 112) (hlen : cs.length ≤ 20)
   (hQ : ∀ (h' : Heap) (tk : Nat) (t : Tok), Ext s.heap h' → Q (.str ⟨cs.toArray⟩ t) {s with heap := h', toks := tk}) :
   wpAny (model prog w) A (call (.ref 190) [.str ⟨cs.toArray⟩ ta, .int (number : Nat) tb]) Q E s := by
  k_dflt (refine' enterC [(Str.ofString "word", .str ⟨cs.toArray⟩ ta), (Str.ofString "number", .int (number : Nat) tb)] X T.nolimit ?k1 ?k2 (by lia) ?kb ?ks ?k3 ?k4 ?k5 ?k6 ?k7 ?k8 ?_)
  case k1 => k_dflt k_is
  case k2 => k_dflt k_is
  case kb => conv => lhs; whnf
  case ks => conv => lhs; whnf
  case k3 => exact BindsTo.of_eq rfl
  case k4 => rfl
  case k5 => decide
  case k6 => exact rfl
  case k7 => exact rfl
  case k8 => exact rfl
  intro h₁ L tk0 cells F N Y lc
  obtain ⟨o1, rfl, d1⟩ := Y.one
  have TR := topRead_of T
  have hsL : s.heap.objs.size ≤ L := F.above
  walk1
  walk1
  walk1
  with_reducible refine listInts [173, 847, 6150, 6155, 6156, 6157, 8203, 8204, 8205, 8288, 65279] F N rfl (by decide) fun h2 tk2 l2 v2 F2 N2 hv2 lv2 => ?_
  have lv2 := allLt_of lv2
  simp only [AllLt] at lv2
  clear F N
  k_steps
  rename IsRange _ _ _ _ _ _ _ _ => rg
  rename Fr _ _ _ _ => F2
  rename News _ _ _ _ => N2
  refine PySem.W.kll_range (n := 16) hh F2 N2 rg (by decide) (by decide) (by decide) fun U us cU h3 tk3 F3 N3 l3 hI => ?_
  have l3' := allLt_of l3
  simp only [AllLt] at l3'
  clear F2 N2
  have sh : StopHere := ⟨⟩
  k_steps
  rename_i V vs _ hV _ h5 oc dc _ oD loD hD hfD apD _ h7 F7 N7
  obtain ⟨u0, u1, u2, u3, u4, u5, u6, u7, u8, hDk⟩ : ∃ u0 u1 u2 u3 u4 u5 u6 u7 u8 : Tok, Obj.IsDictOf (PySem.strKind prog w) oD (twos u0 u1 u2 u3 u4 u5 u6 u7 u8) := ⟨_, _, _, _, _, _, _, _, _, hD⟩
  have hVV : IntsAre vs (b1.map Int.ofNat) := hV
  have F8 := pins (ps := [(Str.ofString "word", .str ⟨cs.toArray⟩ ta), (Str.ofString "number", .int (number : Nat) tb), (Str.ofString "two", .ref h5.objs.size)]) F7 ⟨rfl, rfl, rfl, trivial⟩
  have N8 := nPickE N7 [0, 1, 4]
  dsimp only [pickE, List.drop] at N8
  obtain ⟨DD, hDD⟩ : ∃ DD, h5.objs.size = DD := ⟨_, rfl⟩
  rw [hDD] at N8 F8 loD
  clear hD hfD apD F7 N7 hDD lv2 l3' l3 hI rg hV
  refine Stop.mk ?_
  walk1
  with_reducible refine listInts greats F8 N8 rfl (by decide) fun h8 tk8 G gs F9 N9 hgs lG => ?_
  clear F8 N8 lG
  k_steps
  rename Fr _ _ _ _ => F10
  rename News _ _ _ _ => N11
  have N12 := nPickE N11 [3, 2, 0, 1]
  dsimp only [pickE, List.drop] at N12
  have hTT : TT (twos u0 u1 u2 u3 u4 u5 u6 u7 u8) := fun p h => two_found h
  generalize twos u0 u1 u2 u3 u4 u5 u6 u7 u8 = tt at *
  have loD' : (DD == sysModules) = false := loD
  refine Stop.mk (While_inv (FrontJ cs DD G [(L + 1, oc), (V, W.listOf vs.toArray 0), (G, W.listOf gs.toArray 0), (DD, oD)]) (n₀ := cs.length) F10 N12 (.intro [] cs number _ _ _ _ ⟨rfl, rfl, rfl, rfl, rfl, trivial⟩ rfl) ?_)
  intro k m₁ news₁ h₂ tk₂ F₂ N₂ hJ
  obtain ⟨done, rest, n, ta1, ta2, ta3, _, hm, hdr⟩ := hJ
  clear F10 N11 N12 loD
  cases rest with
  | nil =>
    have F₃ := pins F₂ hm
    clear F₂ hm
    k_steps
    obtain rfl : done = cs := by simpa using hdr
    rename Fr _ _ _ _ => F5
    exact hQ _ _ _ F5.keep
  | cons c rest =>
    have hrl : done.length + (rest.length + 1) = cs.length := by rw [← hdr]; simp
    have hcl : 97 ≤ c ∧ c ≤ 112 := hcs c (by rw [← hdr]; simp)
    have hr20 : rest.length ≤ 20 := by lia
    have hd2 : (A.deeper (env190 L)).depth + 10 < recursionLimit := by show A.depth + 1 + 10 < _; lia
    have hu2 : (A.deeper (env190 L)).units + 90 < cLine := by show A.units + _ + 90 < _; lia
    refine cutQ (fun Q' => ∀ tk, Q' true { s with heap := h₂, toks := tk }) (fun Q' hq => ?_) fun tk => ?_
    · have F₃ := pins F₂ hm
      have hne : ((⟨(c :: rest).toArray⟩ : Str) != Str.ofString "") = true := by rw [ne_empty]; rfl
      clear hQ F₂ hm
      k_steps
      exact hq _
    · rw [if_pos rfl]
      show wpAny _ (A.deeper (env190 L)) (execs wb190 (env190 L)) _ _ _
      rw [show wb190 = [nth wb190 0, nth wb190 1, nth wb190 2, nth wb190 3, nth wb190 4] from by kernel_rfl]
      refine wpAny_execs_cons (xpick (s := { s with heap := h₂, toks := tk }) X T hh F₂ N₂ hm fun h3 tk3 m3 t2 t4 F3 N3 hm3 => ?_)
      refine wpAny_execs_cons (xpart (s := { s with heap := h3, toks := tk3 }) X T hh hr20 hDk hTT loD' F3 N3 hm3 fun h4 tk4 m4 p r f t5 t6 F4 N4 hm4 hpr hf12 hpk => ?_)
      refine wpAny_execs_cons (xsign (s := { s with heap := h4, toks := tk4 }) X T hh hDk hgs loD' F4 N4 hm4 hcl hf12 hpk fun h5 tk5 m5 sg t7 F5 N5 hm5 hsg hp0 hp2 => ?_)
      refine wpAny_execs_cons (xfor (s := { s with heap := h5, toks := tk5 }) X T hh hd2 hu2 F5 N5 dc hVV hsg hp0 (by lia) hm5 fun h6 tk6 tx m6 F6 N6 hm6 => ?_)
      refine wpAny_execs_cons (xword (s := { s with heap := h6, toks := tk6 }) X T hh hr20 hpr F6 N6 hm6 fun h7 tk7 m7 t1 F7 N7 hm7 => ?_)
      have hrlen : r.length + p.length = rest.length + 1 := by
        have := congrArg List.length hpr
        simp at this
        lia
      have hp1 : 0 < p.length := List.length_pos_iff.mpr hp0
      exact wpAny_execs_nil (WhileStep.intro F7 N7 (n' := r.length) (by show r.length < rest.length + 1; lia) (.intro (done ++ p) r (n / 17) t1 t2 tx m7 hm7 (by rw [List.append_assoc, hpr, hdr])))
end Mine
namespace Mine
theorem ghostedN {h₀ h h₁ : Heap} {L : Addr} {m : Str → Option Value} {news obs : List (Addr × Obj)} (hk : Ext h₀ h) (O : ∀ p ∈ obs, h.get? p.1 = some p.2 ∧ h₀.get? p.1 = none) (F : Fr h L h₁ m) (N : News h L h₁ news) :
    ∃ g, Ext h₀ g ∧ Fr g L h₁ m ∧ News g L h₁ (news ++ obs) ∧ (∀ b o, (∀ p ∈ obs, p.1 ≠ b) → h.get? b = some o → g.get? b = some o) ∧ g.objs.size = h.objs.size :=
  ⟨gh h obs, gh_base hk fun p hp => (O p hp).2, gh_fr F obs, gh_news F N (fun p hp => (O p hp).1), fun b o hn e => gh_get e hn, hideAll_size _ _⟩
section
variable {prog : Program} {w : World} {A : Around} {E : Value → Shared → Prop} {s : Shared} {g : Heap} {mean : ExcName → Option Value} {mg mb : PySem.Str → Option Value} {ls : List Str} {Q : Value → Shared → Prop} {L : Addr} {m : Str → Option Value} {news : List (Addr × Obj)}
theorem entry_N (X : (K w.params).In g) (T : Top topProg ls mean mg mb g) (F : Fr g L s.heap m) (N : News g L s.heap news) (hd : A.depth + 5 < recursionLimit)
    (h : ∀ (x dx a r : Addr) (t1 t2 t3 t4 : Tok) (h' : Heap) (tk : Nat), Fr g L h' m → News g L h' ((x, instObj 59 dx) :: (dx, entDict w.params t1 t2 t3 t4 (.ref a) (.ref r) .none .none) :: (a, W.listOf #[] 0) :: (r, W.listOf #[] 0) :: news) → (∀ p ∈ news, p.1 < dx) → @LT.lt Nat _ dx x → @LT.lt Nat _ x a → @LT.lt Nat _ a r → Q (.ref x) { s with heap := h', toks := tk }) :
    wpAny (model prog w) A (call (.ref 59) []) Q E s := by
  refine entry_new (Frag.In.keeps X F.keep) ((topRead_of T).keeps F.keep) hd fun h2 tk2 x dx a r t1 t2 t3 t4 he hdx hxx hxa har ex edx ea er => ?_
  have z1 := Nat.le_trans hdx (Nat.le_of_lt hxx)
  have z2 := Nat.le_trans z1 (Nat.le_of_lt hxa)
  have z3 := Nat.le_trans z2 (Nat.le_of_lt har)
  have N2 := pushed F (N.grown he) z3 er
  have N2 := pushed F N2 z2 ea
  have N2 := pushed F N2 hdx edx
  have N2 := pushed F N2 z1 ex
  exact h x dx a r t1 t2 t3 t4 h2 tk2 (F.keeps he) N2 (lt_new N hdx) hxx hxa har
theorem merge_N {x dx a r y dy b c : Addr} {t1 t2 t3 t4 u1 u2 u3 u4 : Tok} {us vs rs qs : List Value} {n1 n2 n3 n4 : Nat} {dl rr dl2 rr2 : Value} {ri qi : List Int} {uz vz : List Str}
    (X : (K w.params).In g) (T : Top topProg ls mean mg mb g) (F : Fr g L s.heap m) (N : News g L s.heap news) (hh : A.handled = none) (hd : A.depth + 20 < recursionLimit) (hu : A.units + 100 < cLine)
    (sub : ∀ p ∈ entObs w.params x dx a r t1 t2 t3 t4 us rs n1 n2 dl rr ++ entObs w.params y dy b c u1 u2 u3 u4 vs qs n3 n4 dl2 rr2, p ∈ news)
    (hvz : Wrd vs.toArray vz) (hv60 : vz.length ≤ 60) (huz : Wrd us.toArray uz) (hu60 : uz.length ≤ 60) (hri : IntsAre rs ri) (hqi : IntsAre qs qi) (hr20 : ri.length ≤ 100) (hq20 : qi.length ≤ 100)
    (hdl : handedIn dl = true) (hrr : handedIn rr = true) (hdl2 : dl2 = .none ∨ ∃ i t, dl2 = .int i t) (hrr2 : rr2 = .none ∨ ∃ i t, rr2 = .int i t)
    (h : ∀ (z dz la lr : Addr) (v1 v2 v3 v4 : Tok) (zs ws : List Value) (k1 k2 : Nat) (h' : Heap) (tk : Nat), Fr g L h' m → News g L h' (entObs w.params z dz la lr v1 v2 v3 v4 zs ws k1 k2 (lastV dl dl2) (lastV rr rr2) ++ news) → (∀ p ∈ news, p.1 < dz) → @LT.lt Nat _ dz z → @LT.lt Nat _ z la → @LT.lt Nat _ la lr →
      Wrd zs.toArray (uz.filter fun k => vz.any (· == k)) → IntsAre ws (ri ++ qi) → Q (.ref z) { s with heap := h', toks := tk }) :
    wpAny (model prog w) A (call (.ref 70) [.ref x, .ref y]) Q E s := by
  refine merge_spec X T F.keep hh hd hu (fun p hp => ⟨(N p (sub p hp)).1, (N p (sub p hp)).2.2⟩) hvz hv60 huz hu60 hri hqi hr20 hq20 hdl hrr hdl2 hrr2 fun h' tk z dz la lr v1 v2 v3 v4 zs ws k1 k2 he hdz hzz hzl hll ho hzs hws => ?_
  have z1 := Nat.le_trans hdz (Nat.le_of_lt hzz)
  have z2 := Nat.le_trans z1 (Nat.le_of_lt hzl)
  have z3 := Nat.le_trans z2 (Nat.le_of_lt hll)
  have N2 := pushed F (N.grown he) z3 (ho (lr, W.listOf ws.toArray k2) (.tail _ (.tail _ (.tail _ (.head _)))))
  have N2 := pushed F N2 z2 (ho (la, W.listOf zs.toArray k1) (.tail _ (.tail _ (.head _))))
  have N2 := pushed F N2 hdz (ho (dz, entDict w.params v1 v2 v3 v4 (.ref la) (.ref lr) (lastV dl dl2) (lastV rr rr2)) (.tail _ (.head _)))
  have N2 := pushed F N2 z1 (ho (z, instObj 59 dz) (.head _))
  exact h z dz la lr v1 v2 v3 v4 zs ws k1 k2 h' tk (F.keeps he) N2 (lt_new N hdz) hzz hzl hll hzs hws
theorem fields_N {x dx a r : Addr} {t1 t2 t3 t4 : Tok} {us rs : List Value} {n1 n2 : Nat} {dl rr : Value} {uz : List Str} {ri : List Int}
    (X : (K w.params).In g) (T : Top topProg ls mean mg mb g) (F : Fr g L s.heap m) (N : News g L s.heap news) (hh : A.handled = none) (hd : A.depth + 20 < recursionLimit) (hu : A.units + 100 < cLine)
    (sub : ∀ p ∈ entObs w.params x dx a r t1 t2 t3 t4 us rs n1 n2 dl rr, p ∈ news) (huz : Wrd us.toArray uz) (hu60 : uz.length ≤ 60) (hri : IntsAre rs ri) (hr60 : ri.length ≤ 60) (hdl : handedIn dl = true) (hrr : handedIn rr = true)
    (h : ∀ (l la lr : Addr) (k1 k2 : Nat) (h' : Heap) (tk : Nat), Fr g L h' m → News g L h' ((l, W.listOf #[.ref la, .ref lr, dl, rr] 0) :: (lr, W.listOf rs.toArray k2) :: (la, W.listOf us.toArray k1) :: news) → (∀ p ∈ news, p.1 ≠ la ∧ p.1 ≠ lr ∧ p.1 ≠ l) → @LT.lt Nat _ la lr → @LT.lt Nat _ lr l → Q (.ref l) { s with heap := h', toks := tk }) :
    wpAny (model prog w) A (call (.ref 207) [.ref x]) Q E s := by
  refine fields_spec X T F.keep hh hd hu (fun p hp => ⟨(N p (sub p hp)).1, (N p (sub p hp)).2.2⟩) hdl hrr (strsAre_of huz) hri hu60 hr60 fun h' tk l la lr k1 k2 he hl hla hlr h1 h2 el ela elr => ?_
  have N2 := pushedN F (N.grown he) hla ela
  have N2 := pushedN F N2 hlr elr
  have N2 := pushedN F N2 hl el
  refine h l la lr k1 k2 h' tk (F.keeps he) N2 (fun p hp => ?_) h1 h2
  have e := (N p hp).1
  refine ⟨?_, ?_, ?_⟩ <;> (intro x; rw [x] at e)
  · rw [hla] at e; cases e
  · rw [hlr] at e; cases e
  · rw [hl] at e; cases e
theorem add_N {l b : Addr} {us vs : List Value} {n1 n2 : Nat} (F : Fr g L s.heap m) (N : News g L s.heap news) (hl : (l, W.listOf us.toArray n1) ∈ news) (hb : (b, W.listOf vs.toArray n2) ∈ news) (hsz : us.length + vs.length ≤ 1000)
    (h : ∀ (D : Addr) (h' : Heap), Fr g L h' m → News g L h' ((D, W.listOf (us ++ vs).toArray 0) :: news) → (∀ p ∈ news, p.1 < D) → Q (.ref D) { s with heap := h' }) :
    wpAny (model prog w) A (binaryOp .Add (.ref l) (.ref b)) Q E s :=
  add_lists (hsz := Nat.le_trans hsz (by decide)) F N ⟨_, N.get hl, rfl, _, rfl⟩ ⟨_, N.get hb, rfl, _, rfl⟩ fun h' F' N' => h _ h' F' N' (lt_new N (Nat.le_refl _))
theorem take_N {value slice : Expr} {l : Addr} {us : List Value} {n b : Nat} {t : Tok} (F : Fr g L s.heap m) (N : News g L s.heap news) (hl : (l, W.listOf us.toArray n) ∈ news) (hsz : us.length ≤ 1000)
    (h : ∀ (D : Addr) (h' : Heap), Fr g L h' m → News g L h' ((D, W.listOf (us.take b).toArray 0) :: news) → (∀ p ∈ news, p.1 < D) → Q (.ref D) { s with heap := h' })
    (hs : subscripted slice false (.ref l) (.ref s.heap.objs.size) = operate [.ref s.heap.objs.size, .ref l] (getItem (.ref l) (.ref s.heap.objs.size)) := by with_unfolding_all rfl)
    (ht : ∀ r, letTemporaryGo value (.ref l) r = pure () := by intro _; with_unfolding_all rfl) :
    wpAny (model prog w) A (subscriptTail value slice (.ref l) (.ref s.heap.objs.size)) Q E { s with heap := s.heap.push { cls := .type "slice", data := .fields #[.none, .int (b : Nat) t, .none] } } :=
  slice_list (hsz := by simp; exact Nat.le_trans hsz (by decide)) F N ⟨_, N.get hl, rfl, _, rfl⟩ .none (.int _ _) (fun h' F' N' => by
    rw [slicePick_upto'] at N'
    exact h _ h' F' (by simpa using N') fun p hp => Nat.lt_succ_of_lt (lt_new N (Nat.le_refl _) p hp)) hs ht
theorem rev_N {value slice : Expr} {l : Addr} {us : List Value} {n : Nat} {t : Tok} {ops : List Value} (F : Fr g L s.heap m) (N : News g L s.heap news) (hl : (l, W.listOf us.toArray n) ∈ news) (hsz : us.length ≤ 1000)
    (h : ∀ (D : Addr) (h' : Heap), Fr g L h' m → News g L h' ((D, W.listOf us.reverse.toArray 0) :: news) → (∀ p ∈ news, p.1 < D) → Q (.ref D) { s with heap := h' })
    (hs : subscripted slice false (.ref l) (.ref s.heap.objs.size) = operate ops (getItem (.ref l) (.ref s.heap.objs.size)) := by with_unfolding_all rfl)
    (ht : ∀ r, letTemporaryGo value (.ref l) r = pure () := by intro _; with_unfolding_all rfl) :
    wpAny (model prog w) A (subscriptTail value slice (.ref l) (.ref s.heap.objs.size)) Q E { s with heap := s.heap.push { cls := .type "slice", data := .fields #[.none, .none, .int (-1) t] } } :=
  slice_list3 (hsz := by simp; exact Nat.le_trans hsz (by decide)) F N ⟨_, N.get hl, rfl, _, rfl⟩ .none .none (.int _ _) (by decide) (fun h' F' N' => by
    rw [krv_pick] at N'
    exact h _ h' F' (by simpa using N') fun p hp => Nat.lt_succ_of_lt (lt_new N (Nat.le_refl _) p hp)) hs ht
theorem assignT3 {prog : Program} {w : World} {A : Around} {E : Value → Shared → Prop} {s : Shared} {h₀ : Heap} {L : Addr} {m : Str → Option Value} {env : Env} {news : List (Addr × Obj)} {t1 t2 t3 : Expr} {tp : Pos} {kk : Nat} {T : Addr} {x y z : Value} {Q : Unit → Shared → Prop}
    (F : Fr h₀ L s.heap m) (N : News h₀ L s.heap news) (hh : A.handled = none) (ht : s.heap.IsTuple T #[x, y, z])
    (h : ∀ h₁, Fr h₀ L h₁ m → News h₀ L h₁ news → wpAny (model prog w) A (assign t1 env x) (fun _ s₁ => wpAny (model prog w) A (assign t2 env y) (fun _ s₂ => wpAny (model prog w) A (assign t3 env z) Q E s₂) E s₁) E { s with heap := h₁ })
    (he : assignEach [t1, t2, t3] env = [(false, assign t1 env), (false, assign t2 env), (false, assign t3 env)] := by rfl) :
    wpAny (model prog w) A (assign (.Tuple [t1, t2, t3] kk tp) env (.ref T)) Q E s := by
  refine wpAny_assign_Tuple hh ht (by rw [he]; rfl) (by rw [he]; rfl) fun h₁ he₁ => ?_
  rw [he]
  have up₁ : ∀ c o, s.heap.get? c = some o → h₁.get? c = some o := fun c o e => he₁ c o (Nat.ne_of_lt (Heap.lt_size e)) e
  show wpAny _ _ (assignInOrder [assign t1 env, assign t2 env, assign t3 env] [x, y, z]) _ _ _
  refine assignInOrder_cons ?_
  refine wpAny_mono (h h₁ (F.keeps up₁) (N.grown up₁)) (fun _ s₁ h' => ?_) fun _ _ e => e
  refine assignInOrder_cons ?_
  refine wpAny_mono h' (fun _ s₂ h'' => ?_) fun _ _ e => e
  refine assignInOrder_cons ?_
  exact wpAny_mono h'' (fun _ _ q => assignInOrder_nil q) fun _ _ e => e
end
end Mine
namespace Mine
noncomputable def ValIs (v : Value) (o : Option Nat) : Prop := match o with
  | none => v = .none
  | some n => ∃ t, v = .int (n : Int) t
inductive RecAt (P : Params) (all : List (Addr × Obj)) (z : Addr) (uz : List Str) (ri : List Int) (dl rr : Option Nat) : Prop
  | intro (dz a r : Addr) (t1 t2 t3 t4 : Tok) (us rs : List Value) (n1 n2 : Nat) (dv rv : Value) (h1 : ∀ p ∈ entObs P z dz a r t1 t2 t3 t4 us rs n1 n2 dv rv, p ∈ all) (h2 : Wrd us.toArray uz) (h3 : IntsAre rs ri) (h4 : ValIs dv dl) (h5 : ValIs rv rr)
inductive GoneAt (P : Params) (all : List (Addr × Obj)) (v : Value) : Prop
  | intro (T x dx a r l la lr : Addr) (t1 t2 t3 t4 : Tok) (us rs : List Value) (n1 n2 k1 k2 : Nat) (dv rv : Value) (uz : List Str) (ri : List Int) (hv : v = .ref T) (hT : (T, { cls := .type "tuple", data := .seq #[.ref x, .ref l] }) ∈ all)
    (h1 : ∀ p ∈ entObs P x dx a r t1 t2 t3 t4 us rs n1 n2 dv rv, p ∈ all) (h2 : (l, W.listOf #[.ref la, .ref lr, dv, rv] 0) ∈ all) (h3 : (la, W.listOf us.toArray k1) ∈ all) (h4 : (lr, W.listOf rs.toArray k2) ∈ all) (h5 : Wrd us.toArray uz) (h6 : IntsAre rs ri) (h7 : uz.length ≤ 60) (h8 : ri.length ≤ 60) (h9 : handedIn dv = true) (h10 : handedIn rv = true)
theorem RecAt.more {P : Params} {a b : List (Addr × Obj)} {z : Addr} {uz : List Str} {ri : List Int} {dl rr : Option Nat} (x : RecAt P a z uz ri dl rr) (h : ∀ p ∈ a, p ∈ b) : RecAt P b z uz ri dl rr := by
  obtain ⟨dz, a', r, t1, t2, t3, t4, us, rs, n1, n2, dv, rv, h1, h2, h3, h4, h5⟩ := x
  exact ⟨dz, a', r, t1, t2, t3, t4, us, rs, n1, n2, dv, rv, fun p hp => h p (h1 p hp), h2, h3, h4, h5⟩
theorem GoneAt.more {P : Params} {a b : List (Addr × Obj)} {v : Value} (x : GoneAt P a v) (h : ∀ p ∈ a, p ∈ b) : GoneAt P b v := by
  obtain ⟨T, x, dx, a', r, l, la, lr, t1, t2, t3, t4, us, rs, n1, n2, k1, k2, dv, rv, uz, ri, h1, h2, h3, h4, h5, h6, h7, h8, h9, h10, h11, h12⟩ := x
  exact ⟨T, x, dx, a', r, l, la, lr, t1, t2, t3, t4, us, rs, n1, n2, k1, k2, dv, rv, uz, ri, h1, h _ h2, fun p hp => h p (h3 p hp), h _ h4, h _ h5, h _ h6, h7, h8, h9, h10, h11, h12⟩
noncomputable abbrev IsIt (h : Heap) (a : Addr) (o : Obj) : Prop := h.get? a = some o
theorem strs_take {us : List Value} {uz : List Str} (h : StrsAre us uz) : ∀ n, StrsAre (us.take n) (uz.take n) := by
  induction h with
  | nil => intro n; simp; exact .nil
  | cons x t r ih =>
    intro n
    cases n with
    | zero => exact .nil
    | succ n => exact .cons x t (ih n)
theorem strs_snoc {us : List Value} {uz : List Str} {z : Str} {t : Tok} (h : StrsAre us uz) : StrsAre (us ++ [.str z t]) (uz ++ [z]) := by
  induction h with
  | nil => exact .cons _ _ .nil
  | cons x t r ih => exact .cons x t ih
theorem strs_rev {us : List Value} {uz : List Str} (h : StrsAre us uz) : StrsAre us.reverse uz.reverse := by
  induction h with
  | nil => exact .nil
  | cons x t r ih => rw [List.reverse_cons, List.reverse_cons]; exact strs_snoc ih
theorem strs_app {us vs : List Value} {uz vz : List Str} (h : StrsAre us uz) (h' : StrsAre vs vz) : StrsAre (us ++ vs) (uz ++ vz) := by
  induction h with
  | nil => exact h'
  | cons x t r ih => exact .cons x t ih
theorem wrd_of {us : List Value} {uz : List Str} (h : StrsAre us uz) : Wrd us.toArray uz := by
  induction h with
  | nil => exact ⟨rfl, fun i v h => by simp at h⟩
  | cons x t r ih =>
    refine ⟨by simpa using ih.1, fun i v hv => ?_⟩
    cases i with
    | zero => exact ⟨x, t, by simpa using hv.symm, by simp⟩
    | succ i =>
      obtain ⟨z, t, e1, e2⟩ := ih.2 i v (by simpa using hv)
      exact ⟨z, t, e1, by simpa using e2⟩
theorem ValIs.handed {v : Value} {o : Option Nat} (h : ValIs v o) : handedIn v = true := by
  cases o with
  | none => rw [show v = .none from h]; rfl
  | some n => obtain ⟨t, rfl⟩ := h; rfl
theorem ValIs.int {v : Value} {o : Option Nat} (h : ValIs v o) : v = .none ∨ ∃ i t, v = .int i t := by
  cases o with
  | none => exact .inl h
  | some n => obtain ⟨t, rfl⟩ := h; exact .inr ⟨_, _, rfl⟩
theorem ValIs.last {a b : Value} {o p : Option Nat} (ha : ValIs a o) (hb : ValIs b p) : ValIs (lastV a b) (p.or o) := by
  cases p with
  | none => rw [show b = .none from hb]; exact ha
  | some n => obtain ⟨t, rfl⟩ := hb; exact ⟨t, rfl⟩
noncomputable abbrev sc212 : Scope := fnScope (nth top 24)
noncomputable abbrev env212 (L : Addr) : Env := envX (Str.ofString "_law_merged") sc212 L 212 (.ref 211) (cellsFrom (L + 1) sc212.names [])
noncomputable def forB : Stmt → List Stmt
  | .For _ _ b _ _ => b
  | _ => []
end Mine
namespace Mine
noncomputable abbrev b217 : List Stmt := fnBody (nth top 25)
noncomputable abbrev sc217 : Scope := fnScope (nth top 25)
noncomputable abbrev env217 (L f : Addr) (cdv : Value) : Env := envX (Str.ofString "law") sc217 L f cdv (cellsFrom (L + 1) sc217.names [])
section
variable {M : Model} {A : Around} {E : Value → Shared → Prop} {s : Shared} {h₀ : Heap} {L C c : Addr} {news : List (Addr × Obj)} {o : Obj} {y : Str} {pos : Pos} {v : Value} {Q : Value → Shared → Prop} {scope : Scope} {cl : List (Str × Addr)} {env : Env}
theorem nameFree (N : News h₀ L s.heap news) (hc : cl.lookup y = some c) (hm : (c, o) ∈ news) (hd : o.data = .cell (some v)) (h : Q v s)
    (hk : scope.kind = .function) (hx : (cenvOf scope cl C env).kindOf y = some .cell) (hcl : cellsFrom (C + 1) scope.names cl = cl) (hb : (y == ("__debug__" : Str)) = false) :
    wpAny M A (eval (.Name y pos) (cenvOf scope cl C env)) Q E s :=
  kcf_cell N (by rw [hcl]; exact hc) hm hd h hk hx hb
theorem nameFree1 (x0 : Str) (N : News h₀ L s.heap news) (hc : cl.lookup y = some c) (hm : (c, o) ∈ news) (hd : o.data = .cell (some v)) (h : Q v s)
    (hk : scope.kind = .function) (hx : (cenvOf scope cl C env).kindOf y = some .cell) (hcl : cellsFrom (C + 1) scope.names cl = (x0, C + 1) :: cl) (hb : (y == ("__debug__" : Str)) = false) (hy : (y == x0) = false) :
    wpAny M A (eval (.Name y pos) (cenvOf scope cl C env)) Q E s :=
  kcf_cell N (by rw [hcl, List.lookup_cons, hy]; exact hc) hm hd h hk hx hb
end
end Mine
end
local macro_rules | `(tactic| walk_at "nf") => `(tactic| ((with_reducible refine' Mine.nameFree ?N ?c ?m ?d ?_ ?k ?x ?l ?b); (case k => rfl); (case x => kernel_rfl); (case l => kernel_rfl); (case b => decide); (case N => k_asm); (case c => rfl); (case m => k_mem); (case d => assumption); k_whole))
section
open PySem PySem.W PySem.Calls PyProof.Rows PyProof.Rows.LCg
namespace Mine
theorem enumN {prog : Program} {w : World} {A : Around} {E : Value → Shared → Prop} {s : Shared} {g : Heap} {L l : Addr} {m : Str → Option Value} {news : List (Addr × Obj)} {its : Array Value} {n : Nat} {Q : Value → Shared → Prop} (F : Fr g L s.heap m) (N : News g L s.heap news) (hl : s.heap.IsList l its) (hn : its.size = n)
    (h : ∀ (e it : Addr) (h' : Heap), Fr g L h' m → News g L h' news → (∀ (elts : List Expr) (k : Nat) (pos : Pos) (A' : Around), A'.handled = none → Starts prog w A' (.Tuple elts k pos) (.ref e) { s with heap := h' } [e, it] [l] n (PairAt fun i a b => ∃ t, its[i]? = some b ∧ a = .int (i : Nat) t)) → (∀ b ∈ [e, it], g.get? b = none ∧ ∀ p ∈ news, p.1 ≠ b) → Q (.ref e) { s with heap := h' }) :
    wpAny (model prog w) A (call (.type "enumerate") [.ref l]) Q E s := by
  refine call_enumerate_list hl fun h13 he13 hit13 hsz13 hk13 => ?_
  have hl13 : h13.IsList l its := hl.at fun o e => hk13 _ o e
  have lt2 := lt_new N (Nat.le_refl _)
  refine h (s.heap.objs.size + 1) s.heap.objs.size h13 (F.keeps hk13) (N.grown hk13) (fun elts k pos A' hh' => ?_) fun b hb => ?_
  · subst hn
    refine Starts.imp (starts_enum (s := { s with heap := h13 }) (its := its) hh' he13 hit13 hl13 (Nat.succ_ne_self _)) fun i v h => ?_
    rintro ⟨T, vals, rfl, ⟨t, x, hx, rfl⟩, hT⟩
    exact ⟨T, _, x, rfl, hT, t, hx, rfl⟩
  · have hbs : ¬ @LT.lt Nat _ b s.heap.objs.size := fun x => by
      simp only [List.mem_cons, List.mem_nil_iff, or_false] at hb
      rcases hb with e | e
      · exact absurd (e ▸ x) (Nat.not_lt.mpr (Nat.le_succ _))
      · exact absurd (e ▸ x) (Nat.lt_irrefl _)
    refine ⟨?_, fun p hp e => ?_⟩
    · cases e : g.get? b with
      | none => rfl
      | some o => exact absurd (Heap.lt_size (F.keep b o e)) hbs
    · exact hbs (e ▸ lt2 p hp)
theorem item_at {prog : Program} {w : World} {A : Around} {E : Value → Shared → Prop} {s : Shared} {value slice : Expr} {l : Addr} {vs : List Value} {k : Int} {u : Tok} {v : Value} {Q : Value → Shared → Prop}
    (hl : s.heap.IsList l vs.toArray) (h0 : 0 ≤ k) (hhi : k < 2 ^ 63) (hx : vs[k.toNat]? = some v) (h : Q v s)
    (hs : subscripted slice false (.ref l) (.int k u) = operate [.ref l, .int k u] (getItem (.ref l) (.int k u)) := by with_unfolding_all rfl) :
    wpAny (model prog w) A (subscriptTail value slice (.ref l) (.int k u)) Q E s :=
  tail_any hl.typeIs slot_list_getitem.lookup (wpAny_getItem_list hl h0 hhi (by simpa using hx) h) hs
theorem starts_str' {prog : Program} {w : World} {A : Around} {s : Shared} {x : Str} {px : Pos} {z : Str} {t : Tok} {n : Nat} (hn : z.cps.size = n) (hh : A.handled = none) : Starts prog w A (.Name x px) (.str z t) s [] [] n (fun i v _ => SignAt z i v) := hn ▸ starts_str hh
end Mine
namespace Mine
theorem item_last {prog : Program} {w : World} {A : Around} {E : Value → Shared → Prop} {s : Shared} {value slice : Expr} {l : Addr} {vs : List Value} {u : Tok} {v : Value} {Q : Value → Shared → Prop}
    (hl : s.heap.IsList l vs.toArray) (hx : vs.getLast? = some v) (h : Q v s)
    (hs : subscripted slice false (.ref l) (.int (-1) u) = operate [.ref l, .int (-1) u] (getItem (.ref l) (.int (-1) u)) := by with_unfolding_all rfl) :
    wpAny (model prog w) A (subscriptTail value slice (.ref l) (.int (-1) u)) Q E s := by
  have hne : 0 < vs.length := by
    cases vs with
    | nil => cases hx
    | cons a r => simp
  refine tail_any hl.typeIs slot_list_getitem.lookup (wpAny_getItem_list_neg hl (by decide) (by simp; lia) (by decide) ?_ h) hs
  rw [List.getLast?_eq_getElem?] at hx
  rw [List.size_toArray, show ((-1 : Int) + (vs.length : Int)).toNat = vs.length - 1 by lia]
  simpa using hx
end Mine
namespace Mine
local macro_rules | `(tactic| walk_at "no such place") => `(tactic| fail)
local macro_rules | `(tactic| k_handed) => `(tactic| assumption)
local macro_rules | `(tactic| walk_at $k) => Mine.stopAt ["call ref", "eval ListComp", "exec Assign cons ListComp"] k
theorem sum_N {prog : Program} {w : World} {A : Around} {E : Value → Shared → Prop} {s : Shared} {h₀ : Heap} {L l : Addr} {m : Str → Option Value} {news : List (Addr × Obj)} {vs : List Value} {ns : List Int} {Q : Value → Shared → Prop} (hh : A.handled = none) (F : Fr h₀ L s.heap m) (N : News h₀ L s.heap news) (hl : s.heap.IsList l vs.toArray) (hi : IntsAre vs ns)
    (h : ∀ h' tk t', Fr h₀ L h' m → News h₀ L h' news → Q (.int ns.sum t') { s with heap := h', toks := tk }) : wpAny (model prog w) A (call (.builtin "sum") [.ref l]) Q E s := by
  obtain ⟨xs, hx⟩ := hi.allInts.items
  have hn : numsOf vs.toArray.toList = ns := by rw [show vs.toArray.toList = vs from rfl, hi.numsOf]
  rw [hx] at hl hn
  rw [nums_intItems] at hn
  refine sum_intListG hh hl fun h' tk t' hk => ?_
  rw [preSum_eq, List.take_of_length_le (by simp), hn]
  exact h h' tk t' (F.keeps hk) (N.grown hk)
theorem ints_mem {vs : List Value} {ns : List Int} (h : IntsAre vs ns) : ∀ (i : Nat) (v : Value), vs[i]? = some v → ∃ n t, v = .int n t ∧ ns[i]? = some n := by
  induction h with
  | nil => intro i v e; simp at e
  | cons n t _ ih =>
    intro i v e
    cases i with
    | zero => exact ⟨n, t, by simpa using e.symm, rfl⟩
    | succ i => exact ih i v (by simpa using e)
theorem starts_nats {prog : Program} {w : World} {A : Around} {s : Shared} {x : Str} {px : Pos} {g : Heap} {L l : Addr} {news : List (Addr × Obj)} {vs : List Value} {ns : List Nat} (hh : A.handled = none) (N : News g L s.heap news) (hm : (l, W.listOf vs.toArray 0) ∈ news) (hi : IntsAre vs (ns.map Int.ofNat)) :
    Starts prog w A (.Name x px) (.ref l) s [] [l] ns.length (fun i v _ => ∃ (p : Nat) (t : Tok), ns[i]? = some p ∧ v = .int (Int.ofNat p) t) :=
  (starts_list' (by rw [List.size_toArray, hi.length, List.length_map]) hh ⟨_, N.get hm, rfl, _, rfl⟩).imp fun i v _ e => by
    obtain ⟨n, t, rfl, hn⟩ := ints_mem hi i v (by rw [← List.getElem?_toArray]; exact e)
    rw [List.getElem?_map] at hn
    cases hp : ns[i]? with
    | none => rw [hp] at hn; cases hn
    | some p => rw [hp] at hn; exact ⟨p, t, rfl, by rw [← Option.some.inj hn]⟩
theorem ints_snoc {vs : List Value} {ns : List Int} (h : IntsAre vs ns) (n : Int) (t : Tok) : IntsAre (vs ++ [.int n t]) (ns ++ [n]) := by
  induction h with
  | nil => exact .cons _ _ .nil
  | cons a t' _ ih => exact .cons _ _ ih
section
variable {prog : Program} {w : World} {A : Around} {E : Value → Shared → Prop} {s : Shared} {g : Heap} {Q : Value → Shared → Prop} {L : Addr} {m : Str → Option Value} {news : List (Addr × Obj)}
theorem upto_N {value slice : Expr} {l : Addr} {vs : List Value} {ns : List Int} {b : Int} {t : Tok} (F : Fr g L s.heap m) (N : News g L s.heap news) (hl : s.heap.IsList l vs.toArray) (hi : IntsAre vs ns) (hb : 0 ≤ b) (hsz : ns.length ≤ 1000)
    (h : ∀ (D : Addr) (h' : Heap) (us : List Value), Fr g L h' m → News g L h' ((D, W.listOf us.toArray 0) :: news) → (∀ p ∈ news, p.1 < D) → IntsAre us (ns.take b.toNat) → Q (.ref D) { s with heap := h' })
    (hs : subscripted slice false (.ref l) (.ref s.heap.objs.size) = operate [.ref s.heap.objs.size, .ref l] (getItem (.ref l) (.ref s.heap.objs.size)) := by with_unfolding_all rfl)
    (ht : ∀ r, letTemporaryGo value (.ref l) r = pure () := by intro _; with_unfolding_all rfl) :
    wpAny (model prog w) A (subscriptTail value slice (.ref l) (.ref s.heap.objs.size)) Q E { s with heap := s.heap.push { cls := .type "slice", data := .fields #[.none, .int b t, .none] } } :=
  slice_list (hsz := by rw [List.size_toArray, hi.length]; exact Nat.le_trans hsz (by decide)) F N hl .none (.int _ _) (fun h' F' N' => h _ h' (slicePick vs.toArray none (some b) none).toList F' (by simpa using N') (fun p hp => Nat.lt_succ_of_lt (lt_new N (Nat.le_refl _) p hp)) (slice_ints_uptoW hi hb)) hs ht
theorem step_N {value slice : Expr} {l : Addr} {vs : List Value} {ns : List Int} {a k : Int} {t u : Tok} {ops : List Value} (F : Fr g L s.heap m) (N : News g L s.heap news) (hl : s.heap.IsList l vs.toArray) (hi : IntsAre vs ns) (hk : k ≠ 0) (hsz : ns.length ≤ 1000)
    (h : ∀ (D : Addr) (h' : Heap) (us : List Value) (ms : List Int), Fr g L h' m → News g L h' ((D, W.listOf us.toArray 0) :: news) → (∀ p ∈ news, p.1 < D) → IntsAre us ms → us.length ≤ ns.length → Q (.ref D) { s with heap := h' })
    (hs : subscripted slice false (.ref l) (.ref s.heap.objs.size) = operate ops (getItem (.ref l) (.ref s.heap.objs.size)) := by with_unfolding_all rfl)
    (ht : ∀ r, letTemporaryGo value (.ref l) r = pure () := by intro _; with_unfolding_all rfl) :
    wpAny (model prog w) A (subscriptTail value slice (.ref l) (.ref s.heap.objs.size)) Q E { s with heap := s.heap.push { cls := .type "slice", data := .fields #[.int a t, .none, .int k u] } } :=
  slice_list3 (hsz := by rw [List.size_toArray, hi.length]; exact Nat.le_trans hsz (by decide)) F N hl (.int _ _) .none (.int _ _) (by simpa using hk) (fun h' F' N' => h _ h' (slicePick vs.toArray (some a) none (some k)).toList _ F' (by simpa using N') (fun p hp => Nat.lt_succ_of_lt (lt_new N (Nat.le_refl _) p hp)) (hi.pick _ _ _) (by
    rw [← hi.length]
    simpa using slicePick_size_le vs.toArray (some a) none (some k))) hs ht
end
theorem ints_nat {vs : List Value} {cs : List Nat} (h : IntsAre vs (cs.map Int.ofNat)) {x : Int} (hx : 0 ≤ x) (t : Tok) : ∃ cs' : List Nat, cs'.length = cs.length + 1 ∧ IntsAre (vs ++ [.int x t]) (cs'.map Int.ofNat) := by
  refine ⟨cs ++ [x.toNat], by simp, ?_⟩
  have := ints_snoc h x t
  rw [List.map_append]
  rwa [show (List.map Int.ofNat [x.toNat] : List Int) = [x] by simp [Int.toNat_of_nonneg hx]]
theorem sum_nat (cs : List Nat) : 0 ≤ (cs.map Int.ofNat).sum := by
  induction cs with
  | nil => simp
  | cons a r ih => simp only [List.map_cons, List.sum_cons]; have : 0 ≤ Int.ofNat a := Int.natCast_nonneg a; lia
local macro_rules | `(tactic| walk_at $k) => Mine.stopAt ["subscriptTail Name Slice ref ref", "subscriptTail Subscript Slice ref ref", "call builtin:sum"] k
theorem lseg0 {prog : Program} {w : World} {A : Around} {E : Value → Shared → Prop} {s : Shared} {g : Heap} {mean : ExcName → Option Value} {mg mb : PySem.Str → Option Value} {ls : List Str} {Q : Flow → Shared → Prop}
   {L f sl : Addr} {cdv : Value} {o1 : Obj} {rest : List (Addr × Obj)} {m : Str → Option Value} {vs : List Value} {ns : List Int}
   (X' : (K w.params).In g) (T' : Top topProg ls mean mg mb g) (hh : A.handled = none) (hd : A.depth + 100 < recursionLimit) (hu : A.units + 300 < cLine)
   (F : Fr g L s.heap m) (N : News g L s.heap ((L + 1, o1) :: rest)) (h1 : o1.data = .cell (some (.ref sl))) (hsl : g.IsList sl vs.toArray) (hvs : IntsAre vs ns) (hns : ns.length ≤ 63)
   (hQ : ∀ (h' : Heap) (tk : Nat) (D : Addr) (ys : List Value) (cs : List Nat), Fr g L h' (fun y => if y = Str.ofString "cells" then some (.ref D) else m y) → News g L h' ((D, lst ys) :: (L + 1, o1) :: rest) → IntsAre ys (cs.map Int.ofNat) → cs.length = 6 → (∀ p ∈ (L + 1, o1) :: rest, p.1 ≠ D) →
      wpAny (model prog w) (A.deeper (env217 L f cdv)) (execs (b217.drop 1) (env217 L f cdv)) Q E { s with heap := h', toks := tk }) :
   wpAny (model prog w) (A.deeper (env217 L f cdv)) (execs b217 (env217 L f cdv)) Q E s := by
  rw [show b217 = _ :: b217.drop 1 from rfl]
  generalize b217.drop 1 = rs at *
  unfold env217 at *
  rw [show sc217 = _ from (by conv => lhs; whnf)] at *
  k_steps
  rename Fr _ _ _ _ => F2
  rename News _ _ _ _ => N2
  refine' Stop.mk (assignOfN F2 rfl ?k1 ?k2 rfl ?k3 rfl rfl rfl ?_)
  case k1 => rfl
  case k2 => exact rfl
  case k3 => decide
  k_steps
  rename_i h10 tk10 ta1 ta2 ta3 hr10 F10 N10 he10
  refine ⟨[], 6, fun i v _ => ∃ t, v = .int ((0 : Int) + (i : Nat)) t, _, fun i ys => ys.length = i ∧ i ≤ 6 ∧ ∃ cs : List Nat, IntsAre ys (cs.map Int.ofNat), [],
    starts_range hh hr10 (by decide) (by decide), F10, N10, (fun _ h => nomatch h), ⟨rfl, Nat.zero_le _, [], .nil⟩, ?_, ?_, ?_⟩
  · rintro i ys ⟨rfl, h, _⟩
    exact Nat.le_trans h (by decide)
  · intro D C oC mC i v _ ys tail s₁ E' Qe hi hC hCv F₁ N₁ hap hq hP hj
    obtain ⟨tv, rfl⟩ := hP
    have N₂ : News g L s₁.heap ((D, lst ys) :: (C, oC) :: (L + 1, o1) :: (rest ++ tail)) := N₁
    clear F10 N10 N₁
    k_steps
    rename Fr _ _ _ _ => F3
    rename News _ _ _ _ => N3
    refine' Stop.mk (compOfN F3 ?k4 rfl ?k5 rfl ?_)
    case k4 => exact rfl
    case k5 => decide
    k_steps
    refine Stop.mk (upto_N F3 N3 (let ⟨o, e, r⟩ := hsl; ⟨o, F3.keep _ _ e, r⟩) hvs (by decide) (by lia) fun D4 h4 us4 F4 N4 l4 hi4 => ?_)
    clear F3 N3
    have l4' := allLt_of l4
    simp only [AllLt] at l4'
    have hm4 : (List.take (Int.toNat 60) ns).length ≤ 63 := by rw [List.length_take]; lia
    k_steps
    refine Stop.mk (step_N F4 N4 ⟨_, N4.get (a := D4) (by k_mem), rfl, _, rfl⟩ hi4 (by decide) (by lia) fun D5 h5 us5 ms5 F5 N5 l5 hi5 hm5 => ?_)
    clear F4 N4
    have hl5 := hi5.length
    refine ⟨[], us5.length, fun j v _ => us5.toArray[j]? = some v, _,
      fun j zs => zs.length = j ∧ j ≤ us5.length ∧ ∃ cs : List Nat, IntsAre zs (cs.map Int.ofNat), [D5],
      starts_list' (by simp) hh ⟨_, N5.get (a := D5) (by k_mem), rfl, _, rfl⟩, F5, N5, (fun _ h => nomatch h), ⟨rfl, Nat.zero_le _, [], .nil⟩, ?_, ?_, ?_⟩
    · rintro j zs ⟨rfl, h, _⟩
      exact Nat.le_trans h (Nat.le_trans hm5 (Nat.le_trans hm4 (by decide)))
    · intro D6 C6 oC6 mC6 j v _ zs tail6 s₆ E6 Qe6 hj6 hC6 hCv6 F₆ N₆ hap6 hq6 hv hz
      clear F5 N5
      obtain ⟨x6, tx6, rfl, _⟩ := ints_mem hi5 j v (by rw [← List.getElem?_toArray]; exact hv)
      k_steps
      rename Fr _ _ _ _ => F7
      rename News _ _ _ _ => N7
      obtain ⟨hz, hz2, cs6, hz3⟩ := hz
      refine hq6 _ _ _ _ F7 N7 (sub_pre [] _ _ _ _) ⟨by simp [hz], hj6, ?_⟩
      obtain ⟨cs', _, h'⟩ := ints_nat hz3 (x := Int.fmod x6 1000000000) (Int.fmod_nonneg_of_pos _ (by decide)) _
      exact ⟨cs', h'⟩
    · intro D6 h6 tk6 zs hLD6 F6 N6 hap6 hz
      obtain ⟨_, _, cs6, hz3⟩ := hz
      clear F5 N5
      k_steps
      refine Stop.mk (sum_N hh F6 N6 ⟨_, N6.get (a := D6) (by k_mem), rfl, _, rfl⟩ hz3 fun h8 tk8 t8 F8 N8 => ?_)
      have hs0 := sum_nat cs6
      generalize (cs6.map Int.ofNat).sum = sm at *
      clear F6 N6
      k_steps
      rename Fr _ _ _ _ => F9
      rename News _ _ _ _ => N9
      obtain ⟨hlen, hile, cs, hys⟩ := hj
      refine hq _ _ _ _ F9 N9 (sub_pre [_, _, _, _] _ _ ((L + 1, o1) :: rest) tail) ⟨by simp [hlen], hi, ?_⟩
      have h0 : ∀ i : Nat, i < 6 → 0 ≤ ([9417, 7, 5, 2, 6, 5063] : List Int).getD ((0 : Int) + (i : Int)).toNat 0 := by decide
      obtain ⟨cs', _, h'⟩ := ints_nat hys (x := ([9417, 7, 5, 2, 6, 5063] : List Int).getD ((0 : Int) + (i : Int)).toNat 0 + sm) (Int.add_nonneg (h0 i hi) hs0) _
      exact ⟨cs', h'⟩
  · intro D h9 tk9 ys hLD F9 N9 hap9 hj
    obtain ⟨hlen, hile, cs, hys⟩ := hj
    exact hQ h9 tk9 D ys cs F9 N9 hys (by have := hys.length; rw [List.length_map] at this; lia) hap9
end Mine
namespace Mine
local macro_rules | `(tactic| k_all) => `(tactic| first | assumption | (refine' all_cons ?a ?b; (case a => k_ne); (case b => k_all)))
local macro_rules | `(tactic| k_handed) => `(tactic| assumption)
local macro_rules | `(tactic| walk_at $k) => Mine.stopAt ["call ref", "call builtin:str.join", "call builtin:list.extend"] k
noncomputable def behindZ (es : List Str) : Str := Str.ofString "*/" ++ Txt.join (Str.ofString "/") es ++ Str.ofString "/"
theorem join_len (sep : Str) : ∀ l : List Str, (Str.join sep l).length ≤ (l.map (·.length)).sum + l.length * sep.length
  | [] => Nat.zero_le _
  | [x] => by
    show x.length ≤ _
    simp only [List.map_cons, List.map_nil, List.sum_cons, List.sum_nil]
    lia
  | x :: y :: r => by
    have ih := join_len sep (y :: r)
    show (x ++ sep ++ Str.join sep (y :: r)).length ≤ _
    rw [Str.length_append, Str.length_append, List.map_cons, List.sum_cons, List.length_cons, Nat.succ_mul]
    lia
theorem lseg14 {prog : Program} {w : World} {A : Around} {E : Value → Shared → Prop} {s : Shared} {g : Heap} {mean : ExcName → Option Value} {mg mb : PySem.Str → Option Value} {ls : List Str} {Q : Flow → Shared → Prop}
   {L f B0 V0 : Addr} {cdv : Value} {o8 : Obj} {u8 : Option Value} {R : List (Addr × Obj)} {m : Str → Option Value} {bs es : List Value} {zs ez : List Str}
   (X' : (K w.params).In g) (T' : Top topProg ls mean mg mb g) (hh : A.handled = none) (hd : A.depth + 100 < recursionLimit) (hu : A.units + 300 < cLine)
   (F : Fr g L s.heap m) (hm : Holds m [(Str.ofString "every", .ref V0), (Str.ofString "left", .ref B0)])
   (N : News g L s.heap ((B0, lst bs) :: (V0, lst es) :: (L + 1 + 1 + 1 + 1 + 1 + 1 + 1 + 1, o8) :: R))
   (h8 : o8.data = .cell u8) (hbs : StrsAre bs zs) (hz1 : zs.length ≤ 60) (hes : StrsAre es ez) (hez : ez.length ≤ 60) (hel : ∀ z ∈ ez, z.length ≤ 10) (hR8 : ∀ p ∈ (B0, lst bs) :: (V0, lst es) :: R, p.1 ≠ L + 1 + 1 + 1 + 1 + 1 + 1 + 1 + 1)
   (hQ : ∀ (h' : Heap) (tk : Nat) (m' : Str → Option Value) (x dx a r : Addr) (t1 t2 t3 t4 tb : Tok) (us : List Value) (n1 n2 : Nat) (o8' : Obj), Fr g L h' m' → Holds m' [(Str.ofString "bare", .ref x)] →
      News g L h' (entObs w.params x dx a r t1 t2 t3 t4 us [] n1 n2 .none .none ++ ((L + 1 + 1 + 1 + 1 + 1 + 1 + 1 + 1, o8') :: R)) → o8'.data = .cell (some (.str (behindZ ez) tb)) → Wrd us.toArray zs →
      wpAny (model prog w) (A.deeper (env217 L f cdv)) (execs (b217.drop 16) (env217 L f cdv)) Q E { s with heap := h', toks := tk }) :
   wpAny (model prog w) (A.deeper (env217 L f cdv)) (execs (b217.drop 14) (env217 L f cdv)) Q E s := by
  have F1 := pins F hm
  clear F hm
  rw [show b217.drop 14 = nth b217 14 :: nth b217 15 :: b217.drop 16 from rfl]
  generalize b217.drop 16 = rst at *
  rw [show nth b217 14 = _ from (by conv => lhs; whnf), show nth b217 15 = _ from (by conv => lhs; whnf)]
  unfold env217 at *
  rw [show sc217 = _ from (by conv => lhs; whnf)] at *
  have hbl := hbs.length
  k_steps
  rename Fr _ _ _ _ => F2
  rename News _ _ _ _ => N2
  refine Stop.mk (entry_N X' T' F2 N2 (by show A.depth + 1 + 5 < _; lia) fun x dx a2 r2 u1 u2 u3 u4 h3 tk3 F3 N3 c1 c2 c3 c4 => ?_)
  have c1' := allLt_of c1
  simp only [AllLt] at c1'
  clear F2 N2
  k_steps
  have hsum : (ez.map (·.length)).sum ≤ ez.length * 10 := StrLaws.sumLen_le ez hel
  refine Stop.mk (join_listW ⟨_, N3.get (a := V0) (by k_mem), rfl, _, rfl⟩ hes (by decide) (by lia) fun t' k' => ?_)
  have hjl : (Txt.join (Str.ofString "/") ez).length ≤ 1000 := by
    show (Builtin.Str.glued _ _).length ≤ _
    rw [StrLaws.glued_eq_join]
    refine Nat.le_trans (join_len _ _) ?_
    rw [show (Str.ofString "/").length = 1 from rfl]
    lia
  have hbe : Str.ofString "*/" ++ Txt.join (Str.ofString "/") ez ++ Str.ofString "/" = behindZ ez := rfl
  generalize Txt.join (Str.ofString "/") ez = jt at *
  k_steps
  rename Fr _ _ _ _ => F4
  rename News _ _ _ _ => N4
  refine' assignT2 F4 N4 hh ?hT ?_
  case hT => exact ⟨_, N4.get (by k_mem), rfl, _, rfl⟩
  intro h5 F5 N5
  clear F4 N4
  have nBc : @Ne Nat B0 (L + 1 + 1 + 1 + 1 + 1 + 1 + 1 + 1) := hR8 (B0, lst bs) (.head _)
  have nVc : @Ne Nat V0 (L + 1 + 1 + 1 + 1 + 1 + 1 + 1 + 1) := hR8 (V0, lst es) (.tail _ (.head _))
  have hRc : ∀ p ∈ R, p.1 ≠ L + 1 + 1 + 1 + 1 + 1 + 1 + 1 + 1 := fun p hp => hR8 p (.tail _ (.tail _ hp))
  have hRa : ∀ p ∈ R, p.1 ≠ a2 := fun p hp => Nat.ne_of_lt (Nat.lt_trans (c1 p (by simp [hp])) (Nat.lt_trans c2 c3))
  k_steps
  rename Fr _ _ _ _ => F6
  rename News _ _ _ _ => N6
  rename_i o9 d9
  have N7 : News g L _ ((a2, W.listOf #[] 0) :: (B0, lst bs) :: (x, instObj 59 dx) :: (dx, entDict w.params u1 u2 u3 u4 (.ref a2) (.ref r2) .none .none) :: (r2, W.listOf #[] 0) :: (L + 1 + 1 + 1 + 1 + 1 + 1 + 1 + 1, o9) :: R) := nPick N6 [3, 5, 1, 2, 4, 7] 8
  clear N6
  have hall : ∀ q ∈ (B0, lst bs) :: (x, instObj 59 dx) :: (dx, entDict w.params u1 u2 u3 u4 (.ref a2) (.ref r2) .none .none) :: (r2, W.listOf #[] 0) :: (L + 1 + 1 + 1 + 1 + 1 + 1 + 1 + 1, o9) :: R, q.1 ≠ a2 :=
    all_cons (by k_ne) (all_cons (by k_ne) (all_cons (by k_ne) (all_cons (by k_ne) (all_cons (by k_ne) hRa))))
  have fin : ∀ (h9 : Heap) (tk9 : Nat) (n : Nat), Fr g L h9 _ → News g L h9 ((a2, W.listOf bs.toArray n) :: (B0, lst bs) :: (x, instObj 59 dx) :: (dx, entDict w.params u1 u2 u3 u4 (.ref a2) (.ref r2) .none .none) :: (r2, W.listOf #[] 0) :: (L + 1 + 1 + 1 + 1 + 1 + 1 + 1 + 1, o9) :: R) → _ := fun h9 tk9 n F9 N9 =>
    hQ h9 tk9 (fun y => if y = Str.ofString "bare" then some (Value.ref x) else (List.lookup y [(Str.ofString "every", Value.ref V0), (Str.ofString "left", Value.ref B0)]).or (m y)) x dx a2 r2 u1 u2 u3 u4 _ bs n 0 o9 F9 ⟨rfl, trivial⟩ (nPick N9 [2, 3, 0, 4, 5] 6) (hbe ▸ d9) (wrd_of hbs)
  by_cases hb0 : bs = []
  · subst hb0
    refine Stop.mk (kxn_extend (its2 := #[]) (n2 := 0) F6 N7 (b := B0) (by k_mem) rfl (Upd.head hall) (by simp) (by simp) (by simp) fun h8 F8 N8 => ?_)
    k_steps
    exact fin _ _ 0 F8 N8
  · have hbp : bs.length ≠ 0 := fun e => hb0 (List.length_eq_zero_iff.mp e)
    refine Stop.mk (kl_extend (its := #[]) (its2 := bs.toArray) (n2 := bs.length) (l := bs) F6 N7 (b := B0) (by k_mem) (by simp) (by simpa using hb0) (Upd.head hall) (by simp) (by simp) (by
      have hs100 : 100 ≤ sizeLine := by decide
      simp
      lia) fun h8 F8 N8 => ?_)
    k_steps
    exact fin _ _ 1 F8 N8
end Mine
namespace Mine
local macro_rules | `(tactic| walk_at "no such place") => `(tactic| fail)
local macro_rules | `(tactic| walk_at $k) => Mine.stopAt ["subscriptTail"] k
noncomputable def mrow : Nat → List Nat
  | 0 => [2, 3, 5, 7, 11, 13]
  | 1 => [3, 4, 5, 7, 11, 13]
  | _ => [5, 7, 8, 9, 11, 13]
theorem choose3 {g h : Heap} {L l1 l2 l3 : Addr} {v1 v2 v3 : List Value} {V : List (Addr × Obj)} {kind : Nat} (hk : kind < 3) (N : News g L h ((l3, W.listOf v3.toArray 0) :: (l2, W.listOf v2.toArray 0) :: (l1, W.listOf v1.toArray 0) :: V))
    (i1 : IntsAre v1 [2, 3, 5, 7, 11, 13]) (i2 : IntsAre v2 [3, 4, 5, 7, 11, 13]) (i3 : IntsAre v3 [5, 7, 8, 9, 11, 13]) (lt1 : ∀ p ∈ V, p.1 < l1) (lt2 : ∀ p ∈ (l1, W.listOf v1.toArray 0) :: V, p.1 < l2) (lt3 : ∀ p ∈ (l2, W.listOf v2.toArray 0) :: (l1, W.listOf v1.toArray 0) :: V, p.1 < l3) :
    ∃ (lr : Addr) (vs : List Value), (#[Value.ref l1, .ref l2, .ref l3] : Array Value)[kind]? = some (.ref lr) ∧ News g L h ((lr, W.listOf vs.toArray 0) :: V) ∧ IntsAre vs ((mrow kind).map Int.ofNat) ∧ ∀ p ∈ V, p.1 < lr := by
  match kind, hk with
  | 0, _ => exact ⟨l1, v1, rfl, nPick N [2] 3, i1, lt1⟩
  | 1, _ => exact ⟨l2, v2, rfl, nPick N [1] 3, i2, fun p hp => lt2 p (.tail _ hp)⟩
  | 2, _ => exact ⟨l3, v3, rfl, nPick N [0] 3, i3, fun p hp => lt3 p (.tail _ (.tail _ hp))⟩
noncomputable abbrev b195 : List Stmt := fnBody (nth top 21)
noncomputable abbrev sc195 : Scope := fnScope (nth top 21)
noncomputable abbrev env195 (L : Addr) : Env := envX (Str.ofString "_law_moduli") sc195 L 195 (.ref 194) (cellsFrom (L + 1) sc195.names [])
section
variable {prog : Program} {w : World} {A : Around} {E : Value → Shared → Prop} {s : Shared} {g : Heap} {mean : ExcName → Option Value} {mg mb : PySem.Str → Option Value} {ls : List Str} {Q : Flow → Shared → Prop}
   {L : Addr} {m : Str → Option Value} {vb : Value} {V : List (Addr × Obj)} {kind : Nat} {ta : Tok}
theorem qseg0 (X' : (K w.params).In g) (T' : Top topProg ls mean mg mb g) (hh : A.handled = none) (F : Fr g L s.heap m) (hm : Holds m [(Str.ofString "kind", .int (kind : Nat) ta)]) (N : News g L s.heap V) (hk : kind < 3)
   (hQ : ∀ (h : Heap) (tk : Nat) (m' : Str → Option Value) (lr : Addr) (vals : List Value), Fr g L h m' → Holds m' [(Str.ofString "row", .ref lr)] → News g L h ((lr, W.listOf vals.toArray 0) :: V) → IntsAre vals ((mrow kind).map Int.ofNat) → (∀ p ∈ V, p.1 < lr) → Q .next { s with heap := h, toks := tk }) :
   wpAny (model prog w) (A.deeper (env195 L)) (exec (nth b195 0) (env195 L)) Q E s := by
  have TR := topRead_of T'
  have F1 := pins F hm
  clear F hm
  rw [show nth b195 0 = _ from (by conv => lhs; whnf)]
  unfold env195
  rw [show sc195 = _ from (by conv => lhs; whnf)]
  walk1
  walk1
  walk1
  walk1
  with_reducible refine listInts [2, 3, 5, 7, 11, 13] F1 N rfl (by decide) fun h1 tk1 l1 v1 F2 N2 i1 lt1 => ?_
  walk1
  with_reducible refine listInts [3, 4, 5, 7, 11, 13] F2 N2 rfl (by decide) fun h2 tk2 l2 v2 F3 N3 i2 lt2 => ?_
  walk1
  with_reducible refine listInts [5, 7, 8, 9, 11, 13] F3 N3 rfl (by decide) fun h3 tk3 l3 v3 F4 N4 i3 lt3 => ?_
  obtain ⟨lr, vs, h0, N5, hv, hlt⟩ := choose3 hk N4 i1 i2 i3 lt1 lt2 lt3
  clear F1 F2 F3 N2 N3 N4 i1 i2 i3 lt1 lt2 lt3
  k_steps
  rename News _ _ _ _ => N6
  have hl4 : Heap.IsList _ _ #[Value.ref l1, .ref l2, .ref l3] := ⟨_, (N6 _ (.head _)).1, rfl, _, rfl⟩
  refine Stop.mk (tail_any hl4.typeIs slot_list_getitem.lookup (wpAny_getItem_list hl4 (by lia) (by lia) (x := .ref lr) (by simpa using h0) ?_) (by with_unfolding_all rfl))
  k_steps
  rename Fr _ _ _ _ => F7
  rename News _ _ _ _ => N7
  exact hQ _ _ _ lr vs F7 ⟨rfl, trivial⟩ (nPick N7 [] 1) hv hlt
end
end Mine
namespace Mine
local macro_rules | `(tactic| k_all) => `(tactic| first | assumption | (refine' all_cons ?a ?b; (case a => k_ne); (case b => k_all)))
local macro_rules | `(tactic| walk_at $k) => Mine.stopAt ["subscriptTail Name Slice ref ref"] k
theorem mrow_len (k : Nat) : (mrow k).length ≤ 6 := by
  match k with
  | 0 => exact Nat.le_refl _
  | 1 => exact Nat.le_refl _
  | k + 2 => exact Nat.le_refl _
section
variable {prog : Program} {w : World} {A : Around} {E : Value → Shared → Prop} {s : Shared} {g : Heap} {mean : ExcName → Option Value} {mg mb : PySem.Str → Option Value} {ls : List Str} {Q : Flow → Shared → Prop}
   {L lr : Addr} {m : Str → Option Value} {vb : Value} {V : List (Addr × Obj)} {kind : Nat} {ta : Tok} {oP o2 : Obj} {u : Option Value} {vals : List Value}
theorem qseg1 (X' : (K w.params).In g) (T' : Top topProg ls mean mg mb g) (hh : A.handled = none) (F : Fr g L s.heap m) (hm : Holds m [(Str.ofString "row", .ref lr)]) (N : News g L s.heap ((lr, W.listOf vals.toArray 0) :: (L + 1 + 1, oP) :: V)) (hoP : oP.data = .cell u) (hI : IntsAre vals ((mrow kind).map Int.ofNat))
   (hV : ∀ p ∈ V, p.1 ≠ L + 1 + 1) (hlr : @LT.lt Nat _ (L + 1 + 1) lr)
   (hQ : ∀ (h : Heap) (tk : Nat) (m' : Str → Option Value) (P : Addr) (oP' : Obj) (ps : List Value), Fr g L h m' → Holds m' [(Str.ofString "row", .ref lr)] → News g L h ((P, W.listOf ps.toArray 0) :: (lr, W.listOf vals.toArray 0) :: (L + 1 + 1, oP') :: V) → oP'.data = .cell (some (.ref P)) → IntsAre ps (((mrow kind).map Int.ofNat).take 1) →
      (∀ p ∈ (lr, W.listOf vals.toArray 0) :: (L + 1 + 1, oP) :: V, p.1 < P) → Q .next { s with heap := h, toks := tk }) :
   wpAny (model prog w) (A.deeper (env195 L)) (exec (nth b195 1) (env195 L)) Q E s := by
  have TR := topRead_of T'
  have F1 := pins F hm
  clear F hm
  rw [show nth b195 1 = _ from (by conv => lhs; whnf)]
  unfold env195
  rw [show sc195 = _ from (by conv => lhs; whnf)]
  k_steps
  refine Stop.mk (take_N (l := lr) (us := vals) (n := 0) (b := 1) F1 N (.head _) (by rw [hI.length, List.length_map]; exact Nat.le_trans (mrow_len kind) (by decide)) fun P h1 F2 N2 l2 => ?_)
  have l3 : @LT.lt Nat _ (L + 1 + 1) P := l2 _ (.tail _ (.head _))
  clear F1 N
  k_steps
  rename Fr _ _ _ _ => F3
  rename News _ _ _ _ => N3
  rename Obj.data _ = Data.cell (some _) => hc
  have hI2 := intsTake hI 1
  exact hQ _ _ _ P _ _ F3 ⟨rfl, trivial⟩ N3 hc hI2 l2
theorem qseg5 (X' : (K w.params).In g) (T' : Top topProg ls mean mg mb g) (hh : A.handled = none) {place : Nat} {tp : Tok} (F : Fr g L s.heap m) (hm : Holds m [(Str.ofString "row", .ref lr), (Str.ofString "place", .int (place : Nat) tp)]) (N : News g L s.heap ((lr, W.listOf vals.toArray 0) :: V)) (hI : IntsAre vals ((mrow kind).map Int.ofNat)) (hp : place ≤ 5)
   (hQ : ∀ (h : Heap) (tk : Nat) (D : Addr) (ys : List Value) (m' : Str → Option Value), Fr g L h m' → News g L h ((D, W.listOf ys.toArray 0) :: (lr, W.listOf vals.toArray 0) :: V) → IntsAre ys (((mrow kind).map Int.ofNat).take (place + 1)) → (∀ p ∈ (lr, W.listOf vals.toArray 0) :: V, p.1 < D) → Q (.ret (.ref D)) { s with heap := h, toks := tk }) :
   wpAny (model prog w) (A.deeper (env195 L)) (exec (nth b195 5) (env195 L)) Q E s := by
  have TR := topRead_of T'
  have F1 := pins F hm
  clear F hm
  rw [show nth b195 5 = _ from (by conv => lhs; whnf)]
  unfold env195
  rw [show sc195 = _ from (by conv => lhs; whnf)]
  k_steps
  rw [show ((place : Nat) : Int) + 1 = ((place + 1 : Nat) : Int) by lia]
  refine Stop.mk (take_N (l := lr) (us := vals) (n := 0) (b := place + 1) F1 N (.head _) (by rw [hI.length, List.length_map]; exact Nat.le_trans (mrow_len kind) (by decide)) fun P h1 F2 N2 l2 => ?_)
  clear F1 N
  k_steps
  exact hQ _ _ P _ _ F2 N2 (intsTake hI _) l2
end
end Mine
namespace Mine
local macro_rules | `(tactic| k_all) => `(tactic| first | assumption | (refine' all_cons ?a ?b; (case a => k_ne); (case b => k_all)))
local macro_rules | `(tactic| walk_at $k) => Mine.stopAt ["subscriptTail", "subscriptTail Name Slice ref ref"] k
section
variable {prog : Program} {w : World} {A : Around} {E : Value → Shared → Prop} {s : Shared} {g : Heap} {L : Addr} {m : Str → Option Value} {news : List (Addr × Obj)}
theorem drop_N {Q : Value → Shared → Prop} {value slice : Expr} {l : Addr} {us : List Value} {n b : Nat} {t : Tok} (F : Fr g L s.heap m) (N : News g L s.heap news) (hl : (l, W.listOf us.toArray n) ∈ news) (hsz : us.length ≤ 1000)
    (h : ∀ (D : Addr) (h' : Heap), Fr g L h' m → News g L h' ((D, W.listOf (us.drop b).toArray 0) :: news) → (∀ p ∈ news, p.1 < D) → Q (.ref D) { s with heap := h' })
    (hs : subscripted slice false (.ref l) (.ref s.heap.objs.size) = operate [.ref s.heap.objs.size, .ref l] (getItem (.ref l) (.ref s.heap.objs.size)) := by with_unfolding_all rfl)
    (ht : ∀ r, letTemporaryGo value (.ref l) r = pure () := by intro _; with_unfolding_all rfl) :
    wpAny (model prog w) A (subscriptTail value slice (.ref l) (.ref s.heap.objs.size)) Q E { s with heap := s.heap.push { cls := .type "slice", data := .fields #[.int (b : Nat) t, .none, .none] } } :=
  slice_list (hsz := by simp; exact Nat.le_trans hsz (by decide)) F N ⟨_, N.get hl, rfl, _, rfl⟩ (.int _ _) .none (fun h' F' N' => by
    rw [slicePick_from'] at N'
    exact h _ h' F' (by simpa using N') fun p hp => Nat.lt_succ_of_lt (lt_new N (Nat.le_refl _) p hp)) hs ht
end
theorem intsDrop {vs : List Value} {ns : List Int} (h : IntsAre vs ns) : ∀ n, IntsAre (vs.drop n) (ns.drop n) := by
  induction h with
  | nil => intro n; simp; exact .nil
  | cons x t r ih =>
    intro n
    cases n with
    | zero => exact .cons x t r
    | succ n => exact ih n
end Mine
namespace Mine
local macro_rules | `(tactic| walk_at "no such place") => `(tactic| fail)
local macro_rules | `(tactic| k_all) => `(tactic| first | assumption | (refine' all_cons ?a ?b; (case a => k_ne); (case b => k_all)))
local macro_rules | `(tactic| walk_at $k) => Mine.stopAt ["subscriptTail", "subscriptTail Name Slice ref ref"] k
inductive ProdJ (kind : Nat) (P lr : Addr) (mprod : Nat → Nat → Nat) (i : Nat) (m : Str → Option Value) (mo : List (Addr × Obj)) : Prop
  | intro (ps : List Value) (n : Nat) (hmo : mo = [(P, W.listOf ps.toArray n)]) (hlen : ps.length = i + 1) (hpr : ∀ j, j < i + 1 → ∃ t, ps[j]? = some (.int (mprod kind j : Nat) t)) (hm : Holds m [(Str.ofString "row", .ref lr)])
noncomputable def mprod (k i : Nat) : Nat := ((mrow k).take (i + 1)).foldl (· * ·) 1
theorem mrow_head (k : Nat) : ∃ x r, mrow k = x :: r ∧ r.length = 5 := by
  match k with
  | 0 => exact ⟨_, _, rfl, rfl⟩
  | 1 => exact ⟨_, _, rfl, rfl⟩
  | k + 2 => exact ⟨_, _, rfl, rfl⟩
theorem mrow16 (k : Nat) : ∀ z ∈ mrow k, z < 16 := by
  match k with
  | 0 => decide
  | 1 => decide
  | k + 2 => show ∀ z ∈ [5, 7, 8, 9, 11, 13], _; decide
theorem mprod_step {k i x : Nat} (h : ((mrow k).drop 1)[i]? = some x) : mprod k (i + 1) = mprod k i * x := by
  rw [List.getElem?_drop, Nat.add_comm 1 i] at h
  unfold mprod
  rw [List.take_add_one (i := i + 1), h, List.foldl_append]
  rfl
theorem snocAt {k i : Nat} {ps : List Value} {t : Tok} (hl : ps.length = i + 1) (h : ∀ j, j < i + 1 → ∃ t, ps[j]? = some (.int (mprod k j : Nat) t)) : ∀ j, j < i + 1 + 1 → ∃ u, (ps ++ [Value.int ((mprod k (i + 1) : Nat) : Int) t])[j]? = some (.int (mprod k j : Nat) u) := fun j hj => by
  by_cases hji : j < i + 1
  · obtain ⟨u, e⟩ := h j hji
    exact ⟨u, by rw [List.getElem?_append_left (by lia)]; exact e⟩
  · obtain rfl : j = i + 1 := by lia
    exact ⟨t, by rw [← hl]; simp⟩
theorem row5 (k : Nat) : ((mrow k).drop 1).length = 5 := by
  obtain ⟨x, r, e, h⟩ := mrow_head k
  rw [e]
  exact h
theorem first0 {kind : Nat} {P lr : Addr} {m : Str → Option Value} {ps0 : List Value} (hI0 : IntsAre ps0 (((mrow kind).map Int.ofNat).take 1)) (hm : Holds m [(Str.ofString "row", .ref lr)]) : ProdJ kind P lr mprod 0 m [(P, W.listOf ps0.toArray 0)] := by
  obtain ⟨x, r, e, _⟩ := mrow_head kind
  rw [e] at hI0
  obtain ⟨t, rfl⟩ : ∃ t, ps0 = [.int (x : Int) t] := by
    cases hI0 with
    | cons n t h => cases h; exact ⟨t, rfl⟩
  refine ⟨_, 0, rfl, rfl, fun j hj => ⟨t, ?_⟩, hm⟩
  obtain rfl : j = 0 := by lia
  simp [mprod, e]
section
variable {prog : Program} {w : World} {A : Around} {s : Shared} {g : Heap} {mean : ExcName → Option Value} {mg mb : PySem.Str → Option Value} {ls : List Str} {Q : Flow → Shared → Prop}
   {L lr P : Addr} {m : Str → Option Value} {V : List (Addr × Obj)} {kind : Nat} {oP : Obj} {vals ps0 : List Value}
theorem qseg2 (X' : (K w.params).In g) (T' : Top topProg ls mean mg mb g) (hh : A.handled = none) (F : Fr g L s.heap m) (hm : Holds m [(Str.ofString "row", .ref lr)]) (N : News g L s.heap ((P, W.listOf ps0.toArray 0) :: (lr, W.listOf vals.toArray 0) :: (L + 1 + 1, oP) :: V)) (hoP : oP.data = .cell (some (.ref P))) (hI : IntsAre vals ((mrow kind).map Int.ofNat)) (hI0 : IntsAre ps0 (((mrow kind).map Int.ofNat).take 1))
   (hP : ∀ p ∈ (lr, W.listOf vals.toArray 0) :: (L + 1 + 1, oP) :: V, p.1 < P)
   (hQ : ∀ (h : Heap) (tk : Nat) (m' : Str → Option Value) (ps : List Value) (n : Nat), Fr g L h m' → Holds m' [(Str.ofString "row", .ref lr)] → News g L h ((P, W.listOf ps.toArray n) :: (lr, W.listOf vals.toArray 0) :: (L + 1 + 1, oP) :: V) → ps.length = 6 → (∀ j, j < 6 → ∃ t, ps[j]? = some (.int (mprod kind j : Nat) t)) → Q .next { s with heap := h, toks := tk }) :
   wpAny (model prog w) (A.deeper (env195 L)) (exec (nth b195 2) (env195 L)) Q (fun _ _ => False) s := by
  have TR := topRead_of T'
  have F1 := pins F hm
  clear F hm
  rw [show nth b195 2 = .For (forT0 (nth b195 2)) (forI0 (nth b195 2)) (forB (nth b195 2)) [] (forP0 (nth b195 2)) from by kernel_rfl, show forT0 (nth b195 2) = _ from (by conv => lhs; whnf), show forI0 (nth b195 2) = _ from (by conv => lhs; whnf)]
  unfold env195
  rw [show sc195 = _ from (by conv => lhs; whnf)]
  refine forM (h₀ := g) (L := L) rfl ?_
  k_steps
  refine Stop.mk (drop_N (l := lr) (us := vals) (n := 0) (b := 1) F1 N (.tail _ (.head _)) (by rw [hI.length, List.length_map]; exact Nat.le_trans (mrow_len kind) (by decide)) fun R h1 F2 N2 l2 => ?_)
  have hd : IntsAre (vals.drop 1) (((mrow kind).drop 1).map Int.ofNat) := by rw [List.map_drop]; exact intsDrop hI 1
  clear F1 N
  refine ⟨[], [R], _, _, [P], [(P, W.listOf ps0.toArray 0)], (R, W.listOf (vals.drop 1).toArray 0) :: (lr, W.listOf vals.toArray 0) :: (L + 1 + 1, oP) :: V, _, ProdJ kind P lr mprod, starts_nats hh N2 (.head _) hd, F2, nPick N2 [1, 0] 2, rfl,
    fun b hb => List.mem_singleton.mp hb ▸ ⟨fun x => ne_lt (l2 _ (.head _)) (List.mem_singleton.mp x), List.not_mem_nil, all_cons (ne_gt (l2 _ (.head _))) fun p hp => ne_lt (hP p hp)⟩, (fun _ h => nomatch h), first0 hI0 ⟨rfl, trivial⟩, ?_, ?_⟩
  · intro i v m₁ mo tail s₁ E' Q' hi F₁ N₁ hap hmo hq hr hs hv hj
    obtain ⟨x, t, hx, hv⟩ := hv
    obtain rfl : v = .int ((x : Nat) : Int) t := hv
    obtain ⟨ps, n, rfl, hlen, hpr, hm1⟩ := hj
    rw [row5 kind] at hi
    have F₂ := pins F₁ hm1
    have hx16 : x < 16 := mrow16 kind x (List.mem_of_mem_drop (List.mem_of_getElem? hx))
    have ⟨tl, el⟩ := hpr i (Nat.lt_succ_self i)
    have N₁ : News g L s₁.heap ((P, W.listOf ps.toArray n) :: (L + 1 + 1, oP) :: tail) := nSub N₁ (sub_cons (.head _) (sub_cons (.tail _ (.tail _ (.tail _ (.head _)))) fun q hq => .tail _ (List.mem_append_right (_ :: _ :: _ :: V) hq)))
    rw [show forB (nth b195 2) = _ from (by conv => lhs; whnf)]
    clear F₁ F2 N2 hQ hI hI0
    k_steps
    rename Fr _ _ _ _ => F3
    rename News _ _ _ _ => N3
    have hP3 := N3.get (a := P) (.head _)
    have hlP := (show IsL (W.listOf ps.toArray n) ps from ⟨rfl, _, rfl⟩).list hP3
    refine Stop.mk (tail_any hlP.typeIs slot_list_getitem.lookup (wpAny_getItem_list_neg (x := .int (mprod kind i : Nat) tl) hlP (by decide) (by rw [List.size_toArray, hlen]; lia) (by decide) (by rw [List.size_toArray, hlen, show ((-1 : Int) + ((i + 1 : Nat) : Int)).toNat = i by lia]; simpa using el) ?_) (by with_unfolding_all rfl))
    k_steps
    refine append_at (hsz := by rw [List.size_toArray, hlen]; exact Nat.le_trans (Nat.le_of_lt (Nat.succ_lt_succ hi)) (by decide)) hP3 fun h14 hs14 e14 => ?_
    have hrest : ∀ p ∈ (L + 1 + 1, oP) :: tail, p.1 ≠ P := all_cons (ne_lt (hP _ (.tail _ (.head _)))) fun p hp e => hap p (List.mem_append_right (_ :: _ :: _ :: V) hp) (e ▸ .head _)
    have z3 := N3 (P, W.listOf ps.toArray n) (.head _)
    have F14 := F3.change hs14 z3.2.1 z3.2.2
    have e15 : h14.get? P = some (W.listOf (ps ++ [Value.int ((mprod kind (i + 1) : Nat) : Int) (tk + 1 + 1)]).toArray (n + 1)) := by rw [e14, mprod_step hx]; simp
    have N4 := news_append N3 (fun p hp => hrest p hp) hs14 e15
    clear F3 N3 hP3 hlP e14 e15 hs14 z3
    k_steps
    rename Fr _ _ _ _ => F15
    rename News _ _ _ _ => N15
    exact hq _ _ _ [(P, W.listOf (ps ++ [Value.int ((mprod kind (i + 1) : Nat) : Int) _]).toArray (n + 1))] _ F15 N15 (sub_cons (.head _) fun q hq => .tail _ (.tail _ hq)) rfl ⟨_, n + 1, rfl, by rw [List.length_append, hlen]; rfl, snocAt hlen hpr, rfl, trivial⟩
  · intro h' tk m' mo F' N' hmo hap hj
    obtain ⟨ps, n, rfl, hlen, hpr, hm'⟩ := hj
    rw [row5 kind] at hlen hpr
    exact hQ h' tk m' ps n F' hm' (nSub N' (sub_cons (.head _) fun q hq => .tail _ (.tail _ hq))) hlen hpr
end
end Mine
namespace Mine
local macro_rules | `(tactic| k_all) => `(tactic| first | assumption | (refine' all_cons ?a ?b; (case a => k_ne); (case b => k_all)))
local macro_rules | `(tactic| walk_at $k) => Mine.stopAt ["subscriptTail", "eval ListComp"] k
theorem mprod_mono (k : Nat) : ∀ i j, i ≤ j → j < 6 → mprod k i ≤ mprod k j := by
  have key : ∀ l : List Nat, l = mrow 0 ∨ l = mrow 1 ∨ l = mrow 2 → ∀ j, j < 6 → ∀ i, i < j + 1 → (l.take (i + 1)).foldl (· * ·) 1 ≤ (l.take (j + 1)).foldl (· * ·) 1 := by
    rintro l (rfl | rfl | rfl) <;> decide
  intro i j hij hj
  exact key (mrow k) (by match k with
    | 0 => exact .inl rfl
    | 1 => exact .inr (.inl rfl)
    | k + 2 => exact .inr (.inr rfl)) j hj i (Nat.lt_succ_of_le hij)
theorem bis_due {f : Nat → Int} {x : Int} {p i n : Nat} (h : Bis f x 6 0 6 p) (hi : i < 6) (e : f i ≤ x) (hn : n = min i p) : n + 1 = min (i + 1) p := by
  have : i < p := Nat.lt_of_not_le fun h' => absurd e (Int.not_le.mpr (h.2.2.2 i h' hi))
  lia
theorem bis_skip {f : Nat → Int} {x : Int} {p i n : Nat} (h : Bis f x 6 0 6 p) (e : ¬ f i ≤ x) (hn : n = min i p) : n = min (i + 1) p := by
  have : p ≤ i := Nat.le_of_not_lt fun h' => e (h.2.2.1 i (Nat.zero_le _) h')
  lia
section
variable {prog : Program} {w : World} {A : Around} {E : Value → Shared → Prop} {s : Shared} {g : Heap} {mean : ExcName → Option Value} {mg mb : PySem.Str → Option Value} {ls : List Str} {Q : Flow → Shared → Prop}
   {L lr P : Addr} {m : Str → Option Value} {V : List (Addr × Obj)} {kind n : Nat} {oP o2 : Obj} {ps : List Value} {bound : Int} {tb : Tok}
theorem qseg3 (X' : (K w.params).In g) (T' : Top topProg ls mean mg mb g) (hh : A.handled = none) (hd : A.depth + 40 < recursionLimit) (F : Fr g L s.heap m) (hm : Holds m [(Str.ofString "row", .ref lr)]) (N : News g L s.heap ((P, W.listOf ps.toArray n) :: (L + 1 + 1, oP) :: (L + 1, o2) :: V)) (hoP : oP.data = .cell (some (.ref P))) (ho2 : o2.data = .cell (some (.int bound tb)))
   (hlen : ps.length = 6) (hpr : ∀ j, j < 6 → ∃ t, ps[j]? = some (.int (mprod kind j : Nat) t))
   (hQ : ∀ (h : Heap) (tk : Nat) (m' : Str → Option Value) (place : Nat) (t1 t2 : Tok), Fr g L h m' → Holds m' [(Str.ofString "row", .ref lr), (Str.ofString "place", .int (place : Nat) t1), (Str.ofString "due", .int (place : Nat) t2)] → News g L h ((P, W.listOf ps.toArray n) :: (L + 1 + 1, oP) :: (L + 1, o2) :: V) → Bis (fun i => (mprod kind i : Int)) bound 6 0 6 place → Q .next { s with heap := h, toks := tk }) :
   wpAny (model prog w) (A.deeper (env195 L)) (exec (nth b195 3) (env195 L)) Q E s := by
  have TR := topRead_of T'
  have F1 := pins F hm
  clear F hm
  rw [show nth b195 3 = _ from (by conv => lhs; whnf)]
  unfold env195
  rw [show sc195 = _ from (by conv => lhs; whnf)]
  k_steps
  refine bisect_spec (vs := ps) (f := fun i => (mprod kind i : Int)) (n := 6) (Frag.In.keeps X' F1.keep) (TR.keeps F1.keep) (room hd) ⟨_, N.get (a := P) (.head _), rfl, _, rfl⟩ hlen (by decide) hpr (fun i j h1 h2 => Int.ofNat_le.mpr (mprod_mono kind i j h1 h2)) fun h1 tk1 place tp hbis he => ?_
  have F2 := F1.keeps he
  have N2 := N.grown he
  clear F1 N he
  k_steps
  rename Fr _ _ _ _ => F3
  rename News _ _ _ _ => N3
  refine' Stop.mk (compOfT (cl := [(Str.ofString "bound", L + 1)]) F3 ?k1 rfl ?k3 rfl ?_)
  case k1 => exact rfl
  case k3 => decide
  k_steps
  have hP6 := (show IsL (W.listOf ps.toArray n) ps from ⟨rfl, _, rfl⟩).list (N3.get (a := P) (.head _))
  refine ⟨[], 6, _, _, fun i ys => ys.length = min i place, [P], starts_list' (by rw [List.size_toArray, hlen]) hh hP6, F3, N3, (fun _ h => nomatch h), (Nat.zero_min _).symm, ?_, ?_, ?_⟩
  · intro i ys e
    rw [e]
    exact Nat.le_trans (Nat.le_trans (Nat.min_le_right _ _) hbis.2.1) (by decide)
  · intro D C oC mC i v hv0 ys tail s₁ E' Qe Qs hi hC hCv F₁ N₁ hap hq hq' hv hj
    obtain ⟨t, e⟩ := hpr i hi
    rw [List.getElem?_toArray, e] at hv
    obtain rfl := Option.some.inj hv
    clear F3 N3 hQ
    k_steps
    · rename Fr _ _ _ _ => F4
      rename News _ _ _ _ => N4
      rename (mprod kind i : Int) ≤ bound => hle
      exact hq _ _ _ _ F4 N4 (sub_pre [] _ _ _ _) (List.length_append.trans (bis_due hbis hi hle hj))
    · rename Fr _ _ _ _ => F4
      rename News _ _ _ _ => N4
      rename ¬ (mprod kind i : Int) ≤ bound => hle
      exact hq' _ _ _ F4 N4 (sub_pre [] _ _ _ _) (bis_skip hbis hle hj)
  · intro D h7 tk7 ys hLD F7 N7 hap7 hj
    clear F3 N3
    rw [Nat.min_eq_right hbis.2.1] at hj
    k_steps
    refine PyProof.Rows.len_list ((isL_lst ys).list (N7.get (a := D) (.head _))) (by rw [List.size_toArray, hj]; have := hbis.2.1; lia) ?_
    rw [show ((ys.toArray.size : Nat) : Int) = (place : Int) by rw [List.size_toArray, hj]]
    k_steps
    rename_i T8 h8 F8 N8 q8
    refine unpack2 F8 N8 hh ⟨_, N8.get (a := T8) (.head _), rfl, _, rfl⟩ rfl fun h9 F9 N9 => ?_
    have N9 := nPick N9 [] 2
    simp only [pickL, List.drop] at N9
    clear F8 N8
    refine assignInOrder_cons ?_
    k_steps
    rename Fr _ _ _ _ => F10
    rename News _ _ _ _ => N10
    exact hQ _ _ _ place _ _ F10 ⟨rfl, rfl, rfl, trivial⟩ N10 hbis
end
end Mine
namespace Mine
local macro_rules | `(tactic| walk_at "no such place") => `(tactic| fail)
local macro_rules | `(tactic| k_all) => `(tactic| first | assumption | (refine' all_cons ?a ?b; (case a => k_ne); (case b => k_all)))
local macro_rules | `(tactic| walk_at $k) => Mine.stopAt ["subscriptTail"] k
theorem ints_range {us : List Value} {n : Nat} (h : IntsAre us (rangeKs 0 n)) : us.length = n ∧ ∀ i : Nat, i < n → ∃ t : Tok, us[i]? = some (Value.int (i : Int) t) := by
  have key : ∀ (us : List Value) (ns : List Int), IntsAre us ns → us.length = ns.length ∧ ∀ (i : Nat) (x : Int), ns[i]? = some x → ∃ t : Tok, us[i]? = some (Value.int x t) := by
    intro us ns h
    induction h with
    | nil => exact ⟨rfl, fun i x e => by simp at e⟩
    | cons n t _ ih =>
      refine ⟨by simp [ih.1], fun i x e => ?_⟩
      cases i with
      | zero => simp at e; exact ⟨t, by simp [e]⟩
      | succ i => simpa using ih.2 i x (by simpa using e)
  obtain ⟨h1, h2⟩ := key us _ h
  refine ⟨by rw [h1, rangeKs_length], fun i hi => h2 i _ ?_⟩
  simp [rangeKs, hi]
theorem bis_max {f : Nat → Int} {x : Int} {p r : Nat} (h : Bis f x 6 0 6 p) (h' : Bis f x 6 1 6 r) (hp : p ≤ 5) : r = max 1 p := by
  obtain ⟨_, _, a, b⟩ := h
  obtain ⟨c, d, e, g⟩ := h'
  rcases Nat.lt_trichotomy r (max 1 p) with q | q | q
  · exact absurd (a r (Nat.zero_le _) (by lia)) (Int.not_le.mpr (g r (Nat.le_refl _) (by lia)))
  · exact q
  · exact absurd (e (max 1 p) (by lia) q) (Int.not_le.mpr (b (max 1 p) (by lia) (by lia)))
theorem mprod_last (k : Nat) : 343 < mprod k 5 := by
  match k with
  | 0 => decide
  | 1 => decide
  | k + 2 => show 343 < (List.take 6 [5, 7, 8, 9, 11, 13]).foldl (· * ·) 1; decide
theorem place5 {kind place : Nat} {bound : Int} (h : Bis (fun i => (mprod kind i : Int)) bound 6 0 6 place) (hb : bound ≤ 343) : place ≤ 5 := by
  rcases Nat.lt_or_ge place 6 with h' | h'
  · exact Nat.le_of_lt_succ h'
  · have := h.2.2.1 5 (by decide) h'
    dsimp only at this
    have := mprod_last kind
    lia
theorem max_val {place : Nat} {t1 t2 : Tok} : ∃ t, (if Flt.ltV (.int 1 t1) (.int (place : Nat) t2) then Value.int (place : Nat) t2 else .int 1 t1) = Value.int ((max 1 place : Nat) : Int) t := by
  have e : Flt.ltV (.int 1 t1) (.int (place : Nat) t2) = decide ((1 : Int) < (place : Int)) := rfl
  rw [e]
  by_cases h : (1 : Int) < (place : Int)
  · rw [if_pos (decide_eq_true h)]
    exact ⟨_, by rw [Nat.max_eq_right (by lia)]⟩
  · rw [if_neg (by rw [decide_eq_false h]; exact Bool.false_ne_true)]
    exact ⟨_, by rw [Nat.max_eq_left (by lia)]; rfl⟩
section
variable {prog : Program} {w : World} {A : Around} {E : Value → Shared → Prop} {s : Shared} {g : Heap} {mean : ExcName → Option Value} {mg mb : PySem.Str → Option Value} {ls : List Str} {Q : Flow → Shared → Prop}
   {L lr P : Addr} {m : Str → Option Value} {V : List (Addr × Obj)} {kind n place : Nat} {oP o2 : Obj} {ps : List Value} {bound : Int} {tb t1 t2 : Tok}
theorem qseg4 (X' : (K w.params).In g) (T' : Top topProg ls mean mg mb g) (hh : A.handled = none) (hd : A.depth + 40 < recursionLimit) (F : Fr g L s.heap m) (hm : Holds m [(Str.ofString "row", .ref lr), (Str.ofString "place", .int (place : Nat) t1), (Str.ofString "due", .int (place : Nat) t2)]) (N : News g L s.heap ((P, W.listOf ps.toArray n) :: (L + 1 + 1, oP) :: (L + 1, o2) :: (192, tabObj #[]) :: V)) (hoP : oP.data = .cell (some (.ref P))) (ho2 : o2.data = .cell (some (.int bound tb)))
   (hV : ∀ p ∈ V, p.1 ≠ 192) (hP : @LT.lt Nat _ (L + 1 + 1) P) (hl192 : @LT.lt Nat _ 192 L) (hpr : ∀ j, j < 6 → ∃ t, ps[j]? = some (.int (mprod kind j : Nat) t)) (hb : bound ≤ 343) (hbis : Bis (fun i => (mprod kind i : Int)) bound 6 0 6 place)
   (hQ : ∀ (h : Heap) (tk : Nat) (m' : Str → Option Value) (cs : Array Value), Fr g L h m' → Holds m' [(Str.ofString "row", .ref lr), (Str.ofString "place", .int (place : Nat) t1)] → News g L h ((192, tabObj cs) :: V) → Q .next { s with heap := h, toks := tk }) :
   wpAny (model prog w) (A.deeper (env195 L)) (exec (nth b195 4) (env195 L)) Q E s := by
  have TR := topRead_of T'
  have C : CodeHd g 194 192 := ⟨o194 w.params, _, _, _, _, _, _, _, _, X' 194 _ (by kernel_rfl), rfl, rfl, rfl, rfl, rfl, rfl, rfl, rfl, by decide⟩
  have F1 := pins F hm
  have hp5 := place5 hbis hb
  clear F hm
  rw [show nth b195 4 = _ from (by conv => lhs; whnf)]
  unfold env195
  rw [show sc195 = _ from (by conv => lhs; whnf)]
  k_steps
  · exact absurd rfl (by assumption)
  rename IsRange _ _ _ _ _ _ _ _ => rg
  rename Fr _ _ _ _ => F16
  rename News _ _ _ _ => N16
  refine PySem.W.kll_range (n := 6) hh F16 N16 rg (by decide) (by decide) (by decide) fun U us cU h17 tk17 F17 N17 l17 hI => ?_
  have l17' := allLt_of l17
  simp only [AllLt] at l17'
  clear F16 N16
  k_steps
  rename_i fl cl ocl vsl tl ctl h18 tk18 F18 N18 d18 e18 q18 q19
  obtain ⟨hul, hui⟩ := ints_range hI
  have hPl := N18.get (a := P) (by k_mem)
  have hoP' := N18.get (a := L + 1 + 1) (by k_mem)
  have hfl := N18.get (a := fl) (by k_mem)
  have hrec : h18.CodeRec (.ref cl) _ := codeRec_news N18 (by k_mem) d18 e18
  have hlimB := TR.nolimit
  refine bisect_key_spec (s := { s with heap := h18, toks := _ }) (vs := us) (f := fun i => (mprod kind i : Int)) (n := 6) (lo₀ := 1) (hi₀ := 6) (Frag.In.keeps X' F18.keep) (TR.keeps F18.keep) (room hd) ⟨_, _, _, _, hfl⟩ ⟨_, N18.get (a := U) (by k_mem), rfl, _, rfl⟩ hul (by decide) hui (by decide) (by decide) ?_ (fun i j h1 h2 => Int.ofNat_le.mpr (mprod_mono kind i j h1 h2)) fun h19 tk19 r tr hbr he19 => ?_
  · intro envB s' i t Q' E' hi he hq
    obtain ⟨tp, ep⟩ := hpr i hi
    exact lam192 ((TR.keeps F18.keep).keeps he) (he _ _ hfl) (hrec.keeps he) (by show A.depth + 1 + 1 < _; lia) (he _ _ hoP') hoP (he _ _ hPl) (Nat.lt_trans hi (by decide)) ep fun h' tk hk => hq h' tk tp hk
  · obtain rfl := bis_max hbis hbr hp5
    have F19 := F18.keeps he19
    have N19 := nPick (N18.grown he19) [6] 7
    clear F18 N18
    k_steps
    refine Flt.max_two_num hh (.int _ _) (.int _ _) fun h20 tk20 he20 => ?_
    obtain ⟨tmx, emx⟩ := max_val (place := place) (t1 := tk19) (t2 := t2)
    rw [emx]
    have F20 := F19.keeps he20
    have N20 := N19.grown he20
    clear F19 N19
    k_steps
    · exact absurd rfl (by assumption)
    · rename Fr _ _ _ _ => F21
      rename News _ _ _ _ => N21
      exact hQ _ _ _ _ F21 ⟨rfl, rfl, trivial⟩ N21
end
end Mine
namespace Mine
theorem law_moduli_spec {prog : Program} {w : World} {A : Around} {E : Value → Shared → Prop} {s : Shared} {mean : ExcName → Option Value} {mg mb : PySem.Str → Option Value} {ls : List Str} {kind : Nat} {bound : Int} {ta tb : Tok} {Q : Value → Shared → Prop}
   (X : (K w.params).In s.heap) (T : Top topProg ls mean mg mb s.heap) (hh : A.handled = none) (hd : A.depth + 40 < recursionLimit) (hu : A.units + 100 < cLine) (ht : s.heap.get? 192 = some (tabObj #[]))
   (hk : kind < 3) (hb0 : 0 < bound) (hb : bound ≤ 343)
   (hQ : ∀ (h' : Heap) (tk : Nat) (r : Addr) (ys : List Value) (place : Nat), ExtBut [192] s.heap h' → s.heap.objs.size ≤ r → h'.get? r = some (W.listOf ys.toArray 0) → (∃ ps, h'.get? 192 = some (tabObj ps)) → place ≤ 5 → IntsAre ys (((mrow kind).take (place + 1)).map Int.ofNat) →
     Bis (fun i => (mprod kind i : Int)) bound 6 0 6 place → Q (.ref r) {s with heap := h', toks := tk}) :
   wpAny (model prog w) A (call (.ref 195) [.int (kind : Nat) ta, .int bound tb]) Q E s := by
  k_dflt (refine' enterC [(Str.ofString "kind", .int (kind : Nat) ta), (Str.ofString "bound", .int bound tb)] X T.nolimit ?k1 ?k2 (by lia) ?kb ?ks ?k3 ?k4 ?k5 ?k6 ?k7 ?k8 ?_)
  case k1 => k_dflt k_is
  case k2 => k_dflt k_is
  case kb => conv => lhs; whnf
  case ks => conv => lhs; whnf
  case k3 => exact BindsTo.of_eq rfl
  case k4 => rfl
  case k5 => decide
  case k6 => exact rfl
  case k7 => exact rfl
  case k8 => exact rfl
  intro h₁ L tk0 cells F N Y lc
  obtain ⟨o1, o2, rfl, d1, d2⟩ := CellsAre2 Y
  have H : Aside s.heap [(192, tabObj #[])] := fun p hp => by rw [List.mem_singleton.mp hp]; exact ht
  have X' := gh_K X (hid := [(192, tabObj #[])]) (fun p hp => by rw [List.mem_singleton.mp hp]; show (192 : Nat) ∉ as; decide)
  have T' := gh_Top T H (fun p hp => by rw [List.mem_singleton.mp hp]; exact May.tab _)
  have TR := topRead_of T'
  have F' := gh_fr F [(192, tabObj #[])]
  have N' := gh_news F N H
  have l0 := gh_lt F H
  have hl192 : (192 : Nat) < L := l0 (192, tabObj #[]) List.mem_cons_self
  have gk : ∀ b o, b ≠ 192 → s.heap.get? b = some o → (gh s.heap [(192, tabObj #[])]).get? b = some o := fun b o hb e => gh_get e fun p hp => by rw [List.mem_singleton.mp hp]; exact Ne.symm hb
  have hsL : s.heap.objs.size ≤ L := F.above
  clear F N H
  simp only [List.nil_append, List.cons_append] at N'
  generalize hg : gh s.heap [(192, tabObj #[])] = g at *
  clear TR
  show wpAny _ (A.deeper (env195 L)) (execs b195 (env195 L)) _ _ _
  rw [show b195 = [nth b195 0, nth b195 1, nth b195 2, nth b195 3, nth b195 4, nth b195 5] from by kernel_rfl]
  refine wpAny_execs_cons ?_
  refine @qseg0 _ _ _ _ { s with heap := h₁, toks := tk0 } _ _ _ _ _ _ _ _ _ _ _ X' T' hh F' ⟨rfl, trivial⟩ N' hk fun h2 tk2 m2 lr vals F2 hm2 N2 hI l2 => ?_
  refine wpAny_execs_cons ?_
  refine @qseg1 _ _ _ _ { s with heap := h2, toks := tk2 } _ _ _ _ _ _ _ _ _ _ _ _ _ _ X' T' hh F2 hm2 N2 d1 hI (allP_cons (neN (by lia)) (allP_cons (neN (by lia)) fun _ h => nomatch h)) (l2 _ (.head _)) fun h3 tk3 m3 P oP ps0 F3 hm3 N3 dP hI0 l3 => ?_
  refine wpAny_execs_cons ?_
  refine @qseg2 _ _ _ { s with heap := h3, toks := tk3 } _ _ _ _ _ _ _ _ _ _ _ _ _ _ _ X' T' hh F3 hm3 N3 dP hI hI0 (allP_cons (l3 _ (.head _)) (allP_cons (l3 (L + 1 + 1, o1) (.tail _ (.head _))) fun p hp => l3 p (.tail _ (.tail _ hp)))) fun h4 tk4 m4 ps n F4 hm4 N4 hlen hpr => ?_
  refine wpAny_execs_cons ?_
  refine @qseg3 _ _ _ _ { s with heap := h4, toks := tk4 } _ _ _ _ _ _ _ _ _ _ _ _ _ _ _ _ _ _ X' T' hh hd F4 hm4 (nPick N4 [0, 2, 3, 4, 1] 5) dP d2 hlen hpr fun h5 tk5 m5 place t1 t2 F5 hm5 N5 hbis => ?_
  refine wpAny_execs_cons ?_
  refine @qseg4 _ _ _ _ { s with heap := h5, toks := tk5 } _ _ _ _ _ _ _ _ _ _ _ _ _ _ _ _ _ _ _ _ _ X' T' hh hd F5 hm5 N5 dP d2 (allP_cons (ne_gt (l2 _ (.tail _ (.tail _ (.head _))))) fun _ h => nomatch h) (l3 _ (.tail _ (.head _))) hl192 hpr hb hbis fun h6 tk6 m6 cs F6 hm6 N6 => ?_
  refine wpAny_execs_cons ?_
  refine @qseg5 _ _ _ _ { s with heap := h6, toks := tk6 } _ _ _ _ _ _ _ _ _ _ _ _ X' T' hh _ _ F6 hm6 (nPick N6 [1, 0] 2) hI (place5 hbis hb) fun h7 tk7 D ys m7 F7 N7 hy l7 => ?_
  exact hQ h7 tk7 D ys place (fun x o hb he => F7.keep x o (gk x o (by simpa using hb) he)) (Nat.le_trans hsL (Nat.le_of_lt (Nat.lt_trans (Nat.lt_trans (Nat.lt_succ_self L) (l2 _ (.tail _ (.head _)))) (l7 _ (.head _))))) (N7.get (a := D) (.head _)) ⟨_, N7.get (a := 192) (.tail _ (.tail _ (.head _)))⟩ (place5 hbis hb) (by rw [List.map_take]; exact hy) hbis
end Mine
end
section
open PySem PySem.W PySem.Calls PyProof.Rows PyProof.Rows.LCg PySem.Builtin.Str
namespace Mine
theorem cut_one {c : Nat} : ∀ p a r1 r2 : List Nat, c ∉ p → c ∉ a → p ++ c :: r1 = a ++ c :: r2 → p = a
  | [], [], _, _, _, _, _ => rfl
  | [], a :: b, _, _, _, h2, e => by
    rw [List.nil_append, List.cons_append] at e
    injection e with e1 e2
    exact absurd (e1 ▸ List.mem_cons_self) h2
  | a :: b, [], _, _, h1, _, e => by
    rw [List.nil_append, List.cons_append] at e
    injection e with e1 e2
    exact absurd (e1 ▸ List.mem_cons_self) h1
  | a :: b, a' :: b', r1, r2, h1, h2, e => by
    rw [List.cons_append, List.cons_append] at e
    injection e with e1 e2
    rw [e1, cut_one b b' r1 r2 (fun h => h1 (List.mem_cons_of_mem _ h)) (fun h => h2 (List.mem_cons_of_mem _ h)) e2]
theorem split_head (a rest : Str) (h : 47 ∉ a.cps.toList) : (Txt.split (a ++ ⟨#[47]⟩ ++ rest) ⟨#[47]⟩)[0]? = some a := by
  have hj := StrLaws.join_split (a ++ ⟨#[47]⟩ ++ rest) ⟨#[47]⟩
  have hf := StrLaws.split_free (a ++ ⟨#[47]⟩ ++ rest) 47
  have hx : (a ++ (⟨#[47]⟩ : Str) ++ rest).cps.toList = a.cps.toList ++ 47 :: rest.cps.toList := by
    rw [Str.cps_append, Str.cps_append]
    simp
  generalize a ++ (⟨#[47]⟩ : Str) ++ rest = x at hj hf hx ⊢
  generalize Txt.split x ⟨#[47]⟩ = l at hj hf ⊢
  match l, hj, hf with
  | [], hj, _ =>
    rw [← hj] at hx
    exact absurd hx (by intro e; have := congrArg List.length e; simp [Str.join] at this; cases this)
  | [p], hj, hf =>
    have e : p = x := hj
    have := hf p List.mem_cons_self
    rw [e, hx] at this
    exact absurd (List.mem_append_right _ List.mem_cons_self) this
  | p :: q :: r, hj, hf =>
    have e : p ++ (⟨#[47]⟩ : Str) ++ Str.join ⟨#[47]⟩ (q :: r) = x := hj
    have h1 := hf p List.mem_cons_self
    rw [← e, Str.cps_append, Str.cps_append] at hx
    have h2 := cut_one (c := 47) p.cps.toList a.cps.toList (Str.join ⟨#[47]⟩ (q :: r)).cps.toList rest.cps.toList h1 h (by simpa using hx)
    show some p = some a
    congr 1
    exact Str.ext' (Array.toList_inj.mp h2)
theorem lower_up {l : List Nat} (h : low l) : Txt.lower (mkS (l.map (· - 32) ++ [42])) = mkS (l ++ [42]) := by
  rw [lower_map, List.map_append, lo_up h]
  · rfl
  · intro c hc
    rcases List.mem_append.mp hc with hc | hc
    · obtain ⟨d, hd, rfl⟩ := List.mem_map.mp hc
      have := h d hd
      lia
    · rw [List.mem_singleton.mp hc]
      decide
theorem first_part {l : List Nat} (h : low l) (hl : l.length ≤ 20) (ez : List Str) : ∃ fw, (Txt.split (Txt.upper (mkS l) ++ behindZ ez) (Str.ofString "/"))[0]? = some fw ∧ fw.length ≤ 400 ∧ Txt.lower fw = mkS (l ++ [42]) := by
  refine ⟨mkS (l.map (· - 32) ++ [42]), ?_, ?_, lower_up h⟩
  · rw [upper_low h, show Str.ofString "/" = (⟨#[47]⟩ : Str) from by decide +kernel]
    unfold behindZ
    rw [show Str.ofString "/" = (⟨#[47]⟩ : Str) from by decide +kernel, show Str.ofString "*/" = mkS [42] ++ (⟨#[47]⟩ : Str) from by decide +kernel]
    generalize Txt.join (⟨#[47]⟩ : Str) ez = j
    rw [show mkS (l.map (· - 32)) ++ (mkS [42] ++ (⟨#[47]⟩ : Str) ++ j ++ (⟨#[47]⟩ : Str)) = mkS (l.map (· - 32) ++ [42]) ++ (⟨#[47]⟩ : Str) ++ (j ++ (⟨#[47]⟩ : Str)) from by
      rw [← mk_app, Str.append_assoc, Str.append_assoc, Str.append_assoc, Str.append_assoc]]
    refine split_head _ _ ?_
    intro hm
    have hm' : 47 ∈ l.map (· - 32) ++ [42] := hm
    rcases List.mem_append.mp hm' with hm | hm
    · obtain ⟨d, hd, e⟩ := List.mem_map.mp hm
      have := h d hd
      lia
    · rw [List.mem_singleton] at hm
      cases hm
  · show (l.map (· - 32) ++ [42]).toArray.size ≤ 400
    simp
    lia
noncomputable def coprB : List Nat → Bool
  | [] => true
  | a :: r => r.all (fun b => Nat.gcd a b == 1) && coprB r
theorem copr_of : ∀ {l : List Nat}, coprB l = true → copr l
  | [], _ => trivial
  | a :: r, h => by
    have h' : (r.all (fun b => Nat.gcd a b == 1) && coprB r) = true := h
    rw [Bool.and_eq_true, List.all_eq_true] at h'
    exact ⟨fun b hb => eq_of_beq (h'.1 b hb), copr_of h'.2⟩
theorem few (kind place : Nat) (hk : kind < 3) (hp : place < 5) : ((mrow kind).take (place + 1)).length = place + 1 ∧ (∀ z ∈ (mrow kind).take (place + 1), 1 < z ∧ z ≤ 11) ∧ coprB ((mrow kind).take (place + 1)) = true ∧ mprod kind place = prodL ((mrow kind).take (place + 1)) ∧
    2 ≤ (everyP ((mrow kind).take (place + 1)) (place + 1)).length ∧ (everyP ((mrow kind).take (place + 1)) (place + 1)).length ≤ 40 := by
  have key : ∀ kind, kind < 3 → ∀ place, place < 5 → ((mrow kind).take (place + 1)).length = place + 1 ∧ (∀ z ∈ (mrow kind).take (place + 1), 1 < z ∧ z ≤ 11) ∧ coprB ((mrow kind).take (place + 1)) = true ∧ mprod kind place = prodL ((mrow kind).take (place + 1)) ∧
    2 ≤ (everyP ((mrow kind).take (place + 1)) (place + 1)).length ∧ (everyP ((mrow kind).take (place + 1)) (place + 1)).length ≤ 40 := by decide +kernel
  exact key kind hk place hp
theorem place_lt {kind place : Nat} {bound : Int} (hk : kind < 3) (hb : bound ≤ 343) (hp : place ≤ 5) (B : Bis (fun i => (mprod kind i : Int)) bound 6 0 6 place) : place < 5 ∧ bound < (mprod kind place : Int) := by
  obtain ⟨_, _, h3, h4⟩ := B
  have k4 : ∀ kind, kind < 3 → 343 < mprod kind 4 := by decide
  refine ⟨?_, h4 place (Nat.le_refl _) (by lia)⟩
  rcases Nat.lt_or_ge place 5 with h | h
  · exact h
  · have := h3 4 (by lia) (by lia)
    have := k4 kind hk
    simp only at *
    lia
theorem bound_le {count most : Nat} (hc0 : 5 ≤ count) (hc1 : count ≤ 8) (hm1 : most ≤ 3) : (((count : Nat) : Int) - 1) ^ most = (((count - 1) ^ most : Nat) : Int) ∧ (count - 1) ^ most ≤ 343 := by
  constructor
  · rw [show ((count : Nat) : Int) - 1 = ((count - 1 : Nat) : Int) by lia, Int.natCast_pow]
  · calc (count - 1) ^ most ≤ 7 ^ most := Nat.pow_le_pow_left (by lia) _
      _ ≤ 7 ^ 3 := Nat.pow_le_pow_right (by lia) hm1
      _ = 343 := rfl
structure Mods (mn : List Nat) (count most : Nat) : Prop where
  l1 : 1 ≤ mn.length
  l5 : mn.length ≤ 5
  small : ∀ z ∈ mn, 1 < z ∧ z ≤ 11
  co : copr mn
  prod : (count - 1) ^ most < prodL mn
  e2 : 2 ≤ (everyP mn mn.length).length
  e40 : (everyP mn mn.length).length ≤ 40
theorem mods {kind place count most : Nat} (hk : kind < 3) (hp : place ≤ 5) (hc0 : 5 ≤ count) (hc1 : count ≤ 8) (hm1 : most ≤ 3) (B : Bis (fun i => (mprod kind i : Int)) ((((count : Nat) : Int) - 1) ^ most) 6 0 6 place) : Mods ((mrow kind).take (place + 1)) count most := by
  obtain ⟨b1, b2⟩ := bound_le hc0 hc1 hm1
  rw [b1] at B
  obtain ⟨p1, p2⟩ := place_lt hk (by lia) hp B
  obtain ⟨f1, f2, f3, f4, f5, f6⟩ := few kind place hk p1
  refine ⟨by lia, by lia, f2, copr_of f3, ?_, by rw [f1]; exact f5, by rw [f1]; exact f6⟩
  rw [← f4]
  lia
section
variable {mn : List Nat} {count most : Nat} (M : Mods mn count most)
include M
theorem az_len : 2 ≤ (agentsOf mn).length ∧ (agentsOf mn).length ≤ 40 := by
  unfold agentsOf
  rw [List.length_mapIdx, List.length_map]
  exact ⟨M.e2, M.e40⟩
theorem every_two {e : List Nat} (h : e ∈ everyP mn mn.length) : e.length = 2 ∧ low e := by
  obtain ⟨k, j, hk, hj, rfl⟩ := mem_every.mp h
  have := getD_mn M.small hk
  exact ⟨rfl, pair_low k j (by have := M.l5; lia) (by lia)⟩
theorem ez_len : ∀ z ∈ (everyP mn mn.length).map mkS, z.length = 2 := fun z hz => by
  obtain ⟨e, he, rfl⟩ := List.mem_map.mp hz
  exact (every_two M he).1
theorem az_short : ∀ z ∈ agentsOf mn, z.length ≤ 10 := fun z hz => by
  unfold agentsOf at hz
  obtain ⟨i, hi, e⟩ := List.mem_mapIdx.mp hz
  rw [List.getElem_map] at e
  have h2 := every_two M (List.getElem_mem (by simpa using hi) : (everyP mn mn.length)[i]'(by simpa using hi) ∈ _)
  generalize (everyP mn mn.length)[i]'(by simpa using hi) = l at e h2
  rw [← e]
  unfold agentZ
  split
  · rw [upper_low h2.2]
    show (l.map (· - 32)).length ≤ 10
    rw [List.length_map, h2.1]
    decide
  · show l.length ≤ 10
    rw [h2.1]
    decide
theorem left_mem {wcs : List (List Nat)} {sk : List Nat} {z : Str} (h : z ∈ leftZ (agentsOf mn) wcs sk) : z ∈ agentsOf mn := by
  have := (List.mem_filter.mp h).1
  exact (List.mem_append.mp this).elim id fun h => List.mem_of_mem_take h
theorem left_len (wcs : List (List Nat)) (sk : List Nat) : (leftZ (agentsOf mn) wcs sk).length ≤ 55 := by
  have h1 := az_len M
  have h2 := List.length_filter_le (fun a => (sickIn wcs a sk).isEmpty) (agentsOf mn ++ (agentsOf mn).take 2)
  rw [List.length_append, List.length_take] at h2
  unfold leftZ
  lia
theorem left_star (wcs : List (List Nat)) (sk : List Nat) : (leftZ (agentsOf mn) wcs sk).any (· == Str.ofString "*") = false := by
  rw [List.any_eq_false]
  intro z hz
  have := agent_star M.l5 M.small (left_mem M hz)
  simpa using this
theorem word_low (first : Int) (i : Nat) : (wordC first mn i).length ≤ 20 ∧ ∀ c ∈ wordC first mn i, 97 ≤ c ∧ c ≤ 112 := by
  unfold wordC
  have gen : ∀ l : List Nat, (∀ k ∈ l, k < mn.length) → (l.flatMap (pairW first mn i)).length = 2 * l.length ∧ ∀ c ∈ l.flatMap (pairW first mn i), 97 ≤ c ∧ c ≤ 112 := by
    intro l
    induction l with
    | nil => exact fun _ => ⟨rfl, fun c hc => by cases hc⟩
    | cons k l ih =>
      intro h
      obtain ⟨a, b⟩ := ih fun k hk => h k (List.mem_cons_of_mem _ hk)
      have hk := h k List.mem_cons_self
      have hm := getD_mn M.small hk
      have hr := res_lt first k (mn.getD k 0) i (by lia)
      have l5 := M.l5
      have kk : ∀ k, k < 5 → 97 ≤ kc k ∧ kc k ≤ 112 := by decide
      have ll : ∀ j, j < 11 → 97 ≤ lc j ∧ lc j ≤ 112 := by decide
      rw [List.flatMap_cons]
      refine ⟨by rw [List.length_append, a, List.length_cons]; show 2 + _ = _; lia, fun c hc => ?_⟩
      rcases List.mem_append.mp hc with hc | hc
      · unfold pairW at hc
        rcases List.mem_cons.mp hc with rfl | hc
        · exact kk k (by lia)
        · rw [List.mem_singleton.mp hc]
          exact ll _ (by lia)
      · exact b c hc
  obtain ⟨a, b⟩ := gen (List.range mn.length) fun k hk => List.mem_range.mp hk
  refine ⟨?_, b⟩
  rw [a, List.length_range]
  have := M.l5
  lia
theorem behind_len : (behindZ ((everyP mn mn.length).map mkS)).length ≤ 340 := by
  unfold behindZ
  have h := join_len (Str.ofString "/") ((everyP mn mn.length).map mkS)
  have hs : ((((everyP mn mn.length).map mkS).map (·.length)).sum) ≤ 2 * ((everyP mn mn.length).map mkS).length := by
    have gen : ∀ l : List Str, (∀ z ∈ l, z.length = 2) → (l.map (·.length)).sum ≤ 2 * l.length := by
      intro l
      induction l with
      | nil => exact fun _ => Nat.le_refl _
      | cons a l ih =>
        intro h
        have h1 := ih fun z hz => h z (List.mem_cons_of_mem _ hz)
        have h2 := h a List.mem_cons_self
        rw [List.map_cons, List.sum_cons, List.length_cons]
        lia
    exact gen _ (ez_len M)
  have e1 : (Str.ofString "/").length = 1 := by decide +kernel
  have e2 : (Str.ofString "*/").length = 2 := by decide +kernel
  have h3 := M.e40
  rw [e1, List.length_map] at h
  rw [List.length_map] at hs
  rw [Str.length_append, Str.length_append, e1, e2]
  have e3 : (Txt.join (Str.ofString "/") ((everyP mn mn.length).map mkS)).length = (Str.join (Str.ofString "/") ((everyP mn mn.length).map mkS)).length := by
    show (Builtin.Str.glued _ _).length = _
    rw [StrLaws.glued_eq_join]
  rw [e3]
  lia
end
noncomputable def wordsC (first : Int) (mn : List Nat) (count : Nat) : List (List Nat) := (List.range count).map (wordC first mn)
theorem wordsC_len (first : Int) (mn : List Nat) (count : Nat) : (wordsC first mn count).length = count := by
  unfold wordsC
  rw [List.length_map, List.length_range]
theorem wordsC_at (first : Int) (mn : List Nat) (count : Nat) (i : Nat) (h : i < count) : (wordsC first mn count).getD i [] = wordC first mn i := by
  unfold wordsC
  rw [List.getD_eq_getElem?_getD, List.getElem?_map, List.getElem?_range h]
  rfl
theorem wordsC_mk (first : Int) (mn : List Nat) (count : Nat) : (wordsC first mn count).map mkS = (List.range count).map fun i => mkS (wordC first mn i) := by
  unfold wordsC
  rw [List.map_map]
  rfl
theorem wordsC_low {mn : List Nat} {count most : Nat} (M : Mods mn count most) (first : Int) : ∀ l ∈ wordsC first mn count, l.length ≤ 20 ∧ ∀ c ∈ l, 97 ≤ c ∧ c ≤ 112 := fun l hl => by
  obtain ⟨i, _, rfl⟩ := List.mem_map.mp hl
  exact word_low M first i
end Mine
end
section
open PySem PySem.W PySem.Calls PyProof.Rows PyProof.Rows.LCg
namespace Mine
local macro_rules | `(tactic| k_all) => `(tactic| first | assumption | (refine' all_cons ?a ?b; (case a => k_ne); (case b => k_all)))
local macro_rules | `(tactic| k_handed) => `(tactic| assumption)
local macro_rules | `(tactic| walk_at $k) => Mine.stopAt ["call ref", "eval ListComp", "exec Assign cons ListComp"] k
theorem getD_nat (cs : List Nat) (k : Nat) : (cs.map Int.ofNat).getD k 0 = ((cs.getD k 0 : Nat) : Int) := by
  rw [List.getD_eq_getElem?_getD, List.getD_eq_getElem?_getD, List.getElem?_map]
  cases cs[k]? <;> rfl
theorem fmod_nat (a b : Nat) : ((a : Nat) : Int).fmod ((b : Nat) : Int) = ((a % b : Nat) : Int) := by
  rw [Int.fmod_eq_emod_of_nonneg _ (Int.natCast_nonneg _)]; rfl
theorem fdiv_nat (a b : Nat) : ((a : Nat) : Int).fdiv ((b : Nat) : Int) = ((a / b : Nat) : Int) := by
  rw [Int.fdiv_eq_ediv_of_nonneg _ (Int.natCast_nonneg _)]; rfl
theorem lseg1a {prog : Program} {w : World} {A : Around} {E : Value → Shared → Prop} {s : Shared} {g : Heap} {mean : ExcName → Option Value} {mg mb : PySem.Str → Option Value} {ls : List Str} {Q : Flow → Shared → Prop}
   {L f D : Addr} {cdv : Value} {o2 o3 : Obj} {u2 u3 : Option Value} {R : List (Addr × Obj)} {m : Str → Option Value} {ys : List Value} {cs : List Nat}
   (X' : (K w.params).In g) (T' : Top topProg ls mean mg mb g) (hh : A.handled = none)
   (F : Fr g L s.heap m) (hm : Holds m [(Str.ofString "cells", .ref D)]) (N : News g L s.heap ((D, lst ys) :: (L + 1 + 1, o2) :: (L + 1 + 1 + 1, o3) :: R)) (h2 : o2.data = .cell u2) (h3 : o3.data = .cell u3)
   (hys : IntsAre ys (cs.map Int.ofNat)) (hcs : cs.length = 6) (hR2 : ∀ p ∈ R, p.1 ≠ L + 1 + 1) (hR3 : ∀ p ∈ R, p.1 ≠ L + 1 + 1 + 1) (nD2 : @Ne Nat D (L + 1 + 1)) (nD3 : @Ne Nat D (L + 1 + 1 + 1))
   (hQ : ∀ (h' : Heap) (tk : Nat) (m' : Str → Option Value) (o2' o3' : Obj) (t2 t3 t4 : Tok) (first : Int) (count most : Nat), Fr g L h' m' → Holds m' [(Str.ofString "cells", .ref D), (Str.ofString "most", .int (most : Nat) t4)] →
      News g L h' ((D, lst ys) :: (L + 1 + 1, o2') :: (L + 1 + 1 + 1, o3') :: R) → o2'.data = .cell (some (.int first t2)) → o3'.data = .cell (some (.int (count : Nat) t3)) → first.natAbs ≤ 10001 → 5 ≤ count → count < 9 → 1 ≤ most → most < 4 → Q .next { s with heap := h', toks := tk }) :
   wpAny (model prog w) (A.deeper (env217 L f cdv)) (exec (nth b217 1) (env217 L f cdv)) Q E s := by
  have F1 := pins F hm
  clear F hm
  rw [show nth b217 1 = _ from (by conv => lhs; whnf)]
  unfold env217 at *
  rw [show sc217 = _ from (by conv => lhs; whnf)] at *
  obtain ⟨hl, hg⟩ := ints_get hys
  k_steps
  rename News _ _ _ _ => N2
  rename Fr _ _ _ _ => F2
  have q0 : ∃ first : Int, ((cs.map Int.ofNat).getD (Int.toNat 0) 0).fmod 20001 - 10000 = first ∧ first.natAbs ≤ 10001 := by
    refine ⟨_, rfl, ?_⟩
    rw [getD_nat, show (20001 : Int) = ((20001 : Nat) : Int) from rfl, fmod_nat]
    have := Nat.mod_lt (cs.getD (Int.toNat 0) 0) (by decide : 0 < 20001)
    lia
  obtain ⟨first, q0, hfirst⟩ := q0
  have q1 : (5 + ((cs.map Int.ofNat).getD (Int.toNat 1) 0).fmod 4) = ((5 + cs.getD 1 0 % 4 : Nat) : Int) := by
    rw [getD_nat, show (4 : Int) = ((4 : Nat) : Int) from rfl, fmod_nat]; rfl
  have q2 : (1 + (((cs.map Int.ofNat).getD (Int.toNat 1) 0).fdiv 4).fmod 3) = ((1 + cs.getD 1 0 / 4 % 3 : Nat) : Int) := by
    rw [getD_nat, show (4 : Int) = ((4 : Nat) : Int) from rfl, fdiv_nat, show (3 : Int) = ((3 : Nat) : Int) from rfl, fmod_nat]; rfl
  rw [q0, q1, q2] at N2
  have hc1 : 5 + cs.getD 1 0 % 4 < 9 := by lia
  have hm1 : 1 + cs.getD 1 0 / 4 % 3 < 4 := by lia
  have hc0 : 5 ≤ 5 + cs.getD 1 0 % 4 := by lia
  have hm0 : 1 ≤ 1 + cs.getD 1 0 / 4 % 3 := by lia
  generalize 5 + cs.getD 1 0 % 4 = count at *
  generalize 1 + cs.getD 1 0 / 4 % 3 = most at *
  refine' assignT3 F2 N2 hh ?ht ?_
  case ht => exact ⟨_, N2.get (by k_mem), rfl, _, rfl⟩
  intro h3' F3 N3
  clear F2 N2
  k_steps
  rename Fr _ _ _ _ => F4
  rename News _ _ _ _ => N4
  have N5 := nPick N4 [1, 2, 3] 4
  rename_i o4 d4 _ o5 d5 _
  exact hQ _ _ _ o4 o5 _ _ _ first count most F4 ⟨rfl, rfl, trivial⟩ N5 d4 d5 hfirst hc0 hc1 hm0 hm1
theorem lseg1 {prog : Program} {w : World} {A : Around} {E : Value → Shared → Prop} {s : Shared} {g : Heap} {mean : ExcName → Option Value} {mg mb : PySem.Str → Option Value} {ls : List Str} {Q : Flow → Shared → Prop}
   {L f D : Addr} {cdv : Value} {o2 o3 : Obj} {u2 u3 : Option Value} {R : List (Addr × Obj)} {m : Str → Option Value} {ys : List Value} {cs : List Nat}
   (X' : (K w.params).In g) (T' : Top topProg ls mean mg mb g) (hh : A.handled = none) (hd : A.depth + 100 < recursionLimit) (hu : A.units + 300 < cLine)
   (F : Fr g L s.heap m) (hm : Holds m [(Str.ofString "cells", .ref D)]) (N : News g L s.heap ((D, lst ys) :: (L + 1 + 1, o2) :: (L + 1 + 1 + 1, o3) :: (192, tabObj #[]) :: R)) (h2 : o2.data = .cell u2) (h3 : o3.data = .cell u3)
   (hys : IntsAre ys (cs.map Int.ofNat)) (hcs : cs.length = 6) (hR2 : ∀ p ∈ R, p.1 ≠ L + 1 + 1) (hR3 : ∀ p ∈ R, p.1 ≠ L + 1 + 1 + 1) (hRt : ∀ p ∈ R, p.1 ≠ 192) (nD2 : @Ne Nat D (L + 1 + 1)) (nD3 : @Ne Nat D (L + 1 + 1 + 1)) (nDt : @Ne Nat D 192) (lL : @LT.lt Nat _ 192 L)
   (hQ : ∀ (h' : Heap) (tk : Nat) (m' : Str → Option Value) (r : Addr) (ms : List Value) (o2' o3' : Obj) (ps : Array Value) (t2 t3 t4 : Tok) (first : Int) (count most kind place : Nat), Fr g L h' m' → Holds m' [(Str.ofString "cells", .ref D), (Str.ofString "most", .int (most : Nat) t4), (Str.ofString "moduli", .ref r)] →
      News g L h' ((r, W.listOf ms.toArray 0) :: (D, lst ys) :: (L + 1 + 1, o2') :: (L + 1 + 1 + 1, o3') :: (R ++ [(192, tabObj ps)])) → o2'.data = .cell (some (.int first t2)) → o3'.data = .cell (some (.int (count : Nat) t3)) → first.natAbs ≤ 10001 → 5 ≤ count → count ≤ 8 → 1 ≤ most → most ≤ 3 → kind < 3 → place ≤ 5 →
      IntsAre ms (((mrow kind).take (place + 1)).map Int.ofNat) → Bis (fun i => (mprod kind i : Int)) ((((count : Nat) : Int) - 1) ^ most) 6 0 6 place → (∀ p ∈ (D, lst ys) :: (L + 1 + 1, o2') :: (L + 1 + 1 + 1, o3') :: R, p.1 < r) →
      wpAny (model prog w) (A.deeper (env217 L f cdv)) (execs (b217.drop 3) (env217 L f cdv)) Q E { s with heap := h', toks := tk }) :
   wpAny (model prog w) (A.deeper (env217 L f cdv)) (execs (b217.drop 1) (env217 L f cdv)) Q E s := by
  rw [show b217.drop 1 = nth b217 1 :: nth b217 2 :: b217.drop 3 from rfl]
  refine wpAny_execs_cons ?_
  refine lseg1a (R := (192, tabObj #[]) :: R) X' T' hh F hm N h2 h3 hys hcs (all_cons (neN (by lia)) hR2) (all_cons (neN (by lia)) hR3) nD2 nD3 fun h1 tk1 m1 o4 o5 t2 t3 t4 first count most F2 hm2 N2 d4 d5 hfirst hc0 hc1 hm0 hm1 => ?_
  have F3 := pins F2 hm2
  clear F hm N F2 hm2 h2 h3
  generalize b217.drop 3 = rs at *
  rw [show nth b217 2 = _ from (by conv => lhs; whnf)]
  unfold env217 at *
  rw [show sc217 = _ from (by conv => lhs; whnf)] at *
  obtain ⟨hl, hg⟩ := ints_get hys
  have q3 : (((cs.map Int.ofNat).getD (Int.toNat 1) 0).fdiv 12).fmod 3 = ((cs.getD 1 0 / 12 % 3 : Nat) : Int) := by
    rw [getD_nat, show (12 : Int) = ((12 : Nat) : Int) from rfl, fdiv_nat, show (3 : Int) = ((3 : Nat) : Int) from rfl, fmod_nat]; rfl
  have hk1 : cs.getD 1 0 / 12 % 3 < 3 := Nat.mod_lt _ (by decide)
  generalize cs.getD 1 0 / 12 % 3 = kind at *
  k_steps
  rename Fr _ _ _ _ => F4
  rename News _ _ _ _ => N4
  have hpow : ∀ c : Nat, c < 9 → ∀ m : Nat, m < 4 → 5 ≤ c → 1 ≤ m → 0 < (((c : Nat) : Int) - 1) ^ m ∧ (((c : Nat) : Int) - 1) ^ m ≤ 343 := by decide
  obtain ⟨hp0, hp1⟩ := hpow count hc1 most hm1 hc0 hm0
  rw [q3, Int.toNat_natCast]
  refine Stop.mk (law_moduli_spec (Frag.In.keeps X' F4.keep) (T'.keeps F4.keep) hh (by show A.depth + 1 + 40 < _; lia) (by show A.units + _ + 100 < _; lia) (N4.get (a := 192) (by k_mem)) hk1 hp0 hp1 fun h7 tk7 r ms place he7 hr7 er7 ⟨ps, et7⟩ hpl hms hbis => ?_)
  have F7 : Fr g L h7 _ := turned (D := 192) (o₁ := o2) (o₂ := o2) F4 (N4 (192, tabObj #[]) (by k_mem)).2.2 (neN (by lia)) fun b o hb e => he7 b o (by simpa using hb) e
  have N4b : News g L _ ((D, lst ys) :: (L + 1 + 1, o4) :: (L + 1 + 1 + 1, o5) :: R) := nPick N4 [0, 1, 2] 4
  have hne : ∀ p ∈ (D, lst ys) :: (L + 1 + 1, o4) :: (L + 1 + 1 + 1, o5) :: R, p.1 ≠ 192 := all_cons nDt (all_cons (neN (by lia)) (all_cons (neN (by lia)) hRt))
  have N6b : News g L h7 ((D, lst ys) :: (L + 1 + 1, o4) :: (L + 1 + 1 + 1, o5) :: (R ++ [(192, tabObj ps)])) :=
    nApp (a := (D, lst ys) :: (L + 1 + 1, o4) :: (L + 1 + 1 + 1, o5) :: R) (fun p hp => ⟨he7 _ _ (fun x => hne p hp (List.mem_singleton.mp x)) (N4b p hp).1, (N4b p hp).2⟩) fun p hp => List.mem_singleton.mp hp ▸ ⟨et7, (N4 (192, tabObj #[]) (by k_mem)).2⟩
  have N7 := pushed F4 N6b hr7 er7
  have lt7 : ∀ p ∈ (D, lst ys) :: (L + 1 + 1, o4) :: (L + 1 + 1 + 1, o5) :: R, p.1 < r := fun p hp => Nat.lt_of_lt_of_le (Heap.lt_size (N4b p hp).1) hr7
  clear F4 N4 N4b N6b
  k_steps
  rename Fr _ _ _ _ => F8
  rename News _ _ _ _ => N8
  exact hQ _ _ _ r ms o4 o5 ps t2 t3 t4 first count most kind place F8 ⟨rfl, rfl, rfl, trivial⟩ N8 d4 d5 hfirst hc0 (by lia) hm0 (by lia) hk1 hpl hms hbis lt7
end Mine
namespace Mine
local macro_rules | `(tactic| k_all) => `(tactic| first | assumption | (refine' all_cons ?a ?b; (case a => k_ne); (case b => k_all)))
local macro_rules | `(tactic| k_handed) => `(tactic| assumption)
local macro_rules | `(tactic| walk_at $k) => Mine.stopAt ["call ref", "eval ListComp"] k
local macro_rules | `(tactic| walk_at "eval Name") => `(tactic| (k_here; (with_reducible show wpAny _ _ (eval (Expr.Name _ _) (cenvOf _ _ _ _)) _ _ _); walk_at "nf"))
local macro_rules | `(tactic| walk_at $k) => Mine.stopAt ["exec Assign cons ListComp"] k
noncomputable def RowAt (first : Int) (count : Nat) (modulus : Int) (all : List (Addr × Obj)) (v : Value) : Prop :=
  ∃ (r : Addr) (zs : List Value), v = .ref r ∧ (r, lst zs) ∈ all ∧ zs.length = count ∧ ∀ i, i < count → ∃ t, zs[i]? = some (.int ((first + (i : Nat)).fmod modulus) t)
theorem RowAt.more {first : Int} {count : Nat} {modulus : Int} {a b : List (Addr × Obj)} {v : Value} (x : RowAt first count modulus a v) (h : ∀ p ∈ a, p ∈ b) : RowAt first count modulus b v := by
  obtain ⟨r, zs, e, hm, h1⟩ := x
  exact ⟨r, zs, e, h _ hm, h1⟩
theorem tabV_new {g h2 h3 : Heap} {L Q : Addr} {m : Str → Option Value} {l k n : Nat} {qual : Str} {o o' : Obj} {R : List (Addr × Obj)} (F : Fr g L h2 m) (a : TabV l k qual o n R o') (e : h2.get? Q = some o') (x : TabTo Q l k qual h2 h3) (hn : n ≤ h2.objs.size) :
    ∃ o'' nw, TabV l k qual o n (nw ++ R) o'' ∧ h3.get? Q = some o'' ∧ News g L h3 nw ∧ ∀ p ∈ nw, h2.objs.size ≤ p.1 := by
  rcases x with x | ⟨c, oc, ec, eo, ho, hc⟩
  · exact ⟨o', [], a, x.trans e, News.nil, fun _ h => nomatch h⟩
  · exact ⟨_, [(c, oc)], .made c oc (.head _) ho (Nat.le_trans hn hc), ec, pushed F News.nil hc eo, allP_cons hc fun _ h => nomatch h⟩
inductive TabsAt : List (Addr × Obj) → List (Addr × Obj) → Prop
  | intro (o1 o2 : Obj) (made : List (Addr × Obj)) (a : TabV 81 4 q86 (tabObj #[]) 0 made o1) (b : TabV 96 4 q93 (tabObj #[]) 0 made o2) : TabsAt [(86, o1), (93, o2)] made
theorem TabV.obj {l k n : Nat} {qual : Str} {ps : Array Value} {R : List (Addr × Obj)} {o : Obj} (x : TabV l k qual (tabObj ps) n R o) : ∃ p, o = tabObj p := by
  cases x with
  | same => exact ⟨_, rfl⟩
  | made => exact ⟨_, rfl⟩
theorem TabV.at {l k n : Nat} {qual : Str} {R : List (Addr × Obj)} {o : Obj} {h : Heap} (x : TabV l k qual (tabObj #[]) n R o) (hR : ∀ p ∈ R, h.get? p.1 = some p.2) : TabAt l k qual h o := by
  cases x with
  | same => exact .inl rfl
  | made c oc hc ho hn => exact .inr ⟨c, rfl, ho.rec (hR _ hc)⟩
section
variable {prog : Program} {w : World} {A : Around} {E : Value → Shared → Prop} {s : Shared} {g : Heap} {mean : ExcName → Option Value} {mg mb : PySem.Str → Option Value} {ls : List Str} {Q : Value → Shared → Prop} {L : Addr} {m : Str → Option Value} {U R : List (Addr × Obj)} {first modulus : Int} {count : Nat} {ta tb tc : Tok} {o1 o2 : Obj}
theorem rests_N (X : (K w.params).In g) (T : Top topProg ls mean mg mb g) (F : Fr g L s.heap m) (N : News g L s.heap ((86, o1) :: (93, o2) :: U)) (hU : ∀ p ∈ U, p.1 ≠ 86 ∧ p.1 ≠ 93) (a : TabV 81 4 q86 (tabObj #[]) 0 R o1) (b : TabV 96 4 q93 (tabObj #[]) 0 R o2) (hR : ∀ p ∈ R, p ∈ U) (hh : A.handled = none) (hd : A.depth + 60 < recursionLimit) (hu : A.units + 100 < cLine)
    (ha : first.natAbs < 31000) (hc0 : 0 < count) (hc : count < 16) (hb0 : modulus ≠ 0) (hb : modulus.natAbs < 16)
    (h : ∀ (r : Addr) (ys : List Value) (h' : Heap) (tk : Nat) (o1' o2' : Obj) (nw : List (Addr × Obj)), Fr g L h' m → News g L h' ((86, o1') :: (93, o2') :: ((r, lst ys) :: (nw ++ U))) → TabV 81 4 q86 (tabObj #[]) 0 (nw ++ R) o1' → TabV 96 4 q93 (tabObj #[]) 0 (nw ++ R) o2' → (∀ q ∈ (r, lst ys) :: nw, ∀ p ∈ (86, o1) :: (93, o2) :: U, @LT.lt Nat _ p.1 q.1) → ys.length = count → (∀ i, i < count → ∃ t, ys[i]? = some (.int ((first + (i : Nat)).fmod modulus) t)) → Q (.ref r) { s with heap := h', toks := tk }) :
    wpAny (model prog w) A (call (.ref 200) [.int first ta, .int (count : Nat) tb, .int modulus tc]) Q E s := by
  have e86 := N (86, o1) (.head _)
  have e93 := N (93, o2) (.tail _ (.head _))
  have hR' : ∀ p ∈ R, s.heap.get? p.1 = some p.2 := fun p hp => (N p (.tail _ (.tail _ (hR p hp)))).1
  refine law_rests_G (Frag.In.keeps X F.keep) (T.keeps F.keep) hh hd hu ⟨⟨o1, e86.1, a.at hR'⟩, o2, e93.1, b.at hR'⟩ ha hc0 hc hb0 hb fun h' tk r ys t lr xr hlen hys => ?_
  obtain ⟨o1', n1, a1, x1, N1, l1⟩ := tabV_new F a e86.1 t.a (Nat.zero_le _)
  obtain ⟨o2', n2, b2, x2, N2, l2⟩ := tabV_new F b e93.1 t.b (Nat.zero_le _)
  have F' : Fr g L h' m := ⟨F.ns.at' fun o e => t.ext L o (nin2 (Ne.symm e86.2.1) (Ne.symm e93.2.1)) e, fun b o e => t.ext b o (nin2 (fun x => by rw [x, e86.2.2] at e; cases e) (fun x => by rw [x, e93.2.2] at e; cases e)) (F.keep b o e), F.above⟩
  have hle : ∀ q ∈ (r, lst ys) :: (n1 ++ n2), s.heap.objs.size ≤ q.1 := allP_cons lr fun q hq => (List.mem_append.mp hq).elim (l1 q) (l2 q)
  refine h r ys h' tk o1' o2' (n1 ++ n2) F' (fun p hp => ?_) (a1.sub fun p hp => ?_) (b2.sub fun p hp => ?_) (fun q hq p hp => Nat.lt_of_lt_of_le (Heap.lt_size (N p hp).1) (hle q hq)) hlen hys
  · rcases List.mem_cons.mp hp with rfl | hp
    · exact ⟨x1, e86.2⟩
    · rcases List.mem_cons.mp hp with rfl | hp
      · exact ⟨x2, e93.2⟩
      · rcases List.mem_cons.mp hp with rfl | hp
        · exact pushed F News.nil lr xr _ (.head _)
        · rcases List.mem_append.mp hp with hp | hp
          · exact (List.mem_append.mp hp).elim (N1 p) (N2 p)
          · have z := N p (.tail _ (.tail _ hp))
            exact ⟨t.ext _ _ (nin2 (hU p hp).1 (hU p hp).2) z.1, z.2⟩
  · rw [List.append_assoc]
    exact (List.mem_append.mp hp).elim (fun h => List.mem_append_left _ h) fun h => List.mem_append_right _ (List.mem_append_right _ h)
  · rw [List.append_assoc]
    exact List.mem_append_right _ hp
end
inductive JR (first : Int) (count : Nat) (mn : List Nat) (nw : List (Addr × Obj)) (i : Nat) (ys : List Value) (mo made : List (Addr × Obj)) : Prop
  | intro (ht : TabsAt mo made) (hlen : ys.length = i) (hle : i ≤ mn.length) (hrow : ∀ j k, j < i → mn[j]? = some k → ∃ v, ys[j]? = some v ∧ RowAt first count (sgnM j k) made v) (hap : ∀ p ∈ made, ∀ q ∈ nw, p.1 ≠ q.1)
theorem JR.step {first : Int} {count i k : Nat} {mn : List Nat} {nw mo mo' made new : List (Addr × Obj)} {ys zs : List Value} {r : Addr} (J : JR first count mn nw i ys mo made) (hk : mn[i]? = some k) (hlen : zs.length = count) (hz : ∀ j, j < count → ∃ t, zs[j]? = some (.int ((first + (j : Nat)).fmod (sgnM i k)) t))
    (hr : (r, lst zs) ∈ new) (ht : TabsAt mo' (new ++ made)) (hap : ∀ p ∈ new, ∀ q ∈ nw, p.1 ≠ q.1) : JR first count mn nw (i + 1) (ys ++ [.ref r]) mo' (new ++ made) := by
  obtain ⟨_, h1, h2, h3, h4⟩ := J
  have hi := (List.getElem?_eq_some_iff.mp hk).1
  refine ⟨ht, by rw [List.length_append, h1]; rfl, hi, fun j k' hj hk' => ?_, fun p hp q hq => (List.mem_append.mp hp).elim (fun h => hap p h q hq) fun h => h4 p h q hq⟩
  rcases Nat.lt_or_ge j i with h | h
  · obtain ⟨v, e, hv⟩ := h3 j k' h hk'
    exact ⟨v, by rw [List.getElem?_append_left (by lia)]; exact e, hv.more fun p hp => List.mem_append_right _ hp⟩
  · obtain rfl : j = i := by lia
    rw [hk] at hk'
    cases hk'
    exact ⟨.ref r, by rw [← h1]; simp, r, zs, rfl, List.mem_append_left _ hr, hlen, hz⟩
theorem row_turn {prog : Program} {w : World} {A : Around} {E : Value → Shared → Prop} {s s₀ : Shared} {g : Heap} {mean : ExcName → Option Value} {mg mb : PySem.Str → Option Value} {ls : List Str} {L D : Addr} {m : Str → Option Value} {own nw tail mo made : List (Addr × Obj)} {first modulus : Int} {count i k : Nat} {mn : List Nat} {ys : List Value} {ta tb tc : Tok}
    (X : (K w.params).In g) (T : Top topProg ls mean mg mb g) (F : Fr g L s.heap m) (N : News g L s.heap ((D, lst ys) :: (mo ++ (own ++ (nw ++ tail))))) (hs : Same s₀ s) (hh : A.handled = none) (hd : A.depth + 60 < recursionLimit) (hu : A.units + 100 < cLine)
    (hapD : ∀ p ∈ own ++ (nw ++ tail), p.1 ≠ D ∧ p.1 ∉ [86, 93]) (hmD : ∀ p ∈ mo, p.1 ≠ D) (hmade : ∀ p ∈ made, p ∈ tail) (J : JR first count mn nw i ys mo made) (hk : mn[i]? = some k) (hk16 : 1 < k ∧ k < 16) (he : modulus = sgnM i k) (ha : first.natAbs ≤ 10001) (hc0 : 5 ≤ count) (hc : count ≤ 8) :
    wpAny (model prog w) A (call (.ref 200) [.int first ta, .int (count : Nat) tb, .int modulus tc]) (EltEnd g L m s₀ D [86, 93] ys tail (fun ys' mo' new => JR first count mn nw (i + 1) ys' mo' (new ++ made))) E s := by
  subst he
  have J0 := J
  obtain ⟨⟨o1, o2, _, a, b⟩, hlen, hi, hrow, hapm⟩ := J
  have hU : ∀ p ∈ (D, lst ys) :: (own ++ (nw ++ tail)), p.1 ≠ 86 ∧ p.1 ≠ 93 := allP_cons ⟨Ne.symm (hmD (86, o1) (.head _)), Ne.symm (hmD (93, o2) (.tail _ (.head _)))⟩ fun p hp => out2 (hapD p hp).2
  refine rests_N (U := (D, lst ys) :: (own ++ (nw ++ tail))) X T F (nSub N fun p hp => ?_) hU a b (fun p hp => .tail _ (List.mem_append_right _ (List.mem_append_right _ (hmade p hp)))) hh hd hu (by lia) (by lia) (by lia) (sgn_ne hk16.1) (by rw [sgn_abs]; exact hk16.2) fun r zs h' tk o1' o2' cs F' N' a' b' hl hz1 hz2 => ?_
  · rcases List.mem_cons.mp hp with rfl | hp
    · exact .tail _ (.head _)
    · rcases List.mem_cons.mp hp with rfl | hp
      · exact .tail _ (.tail _ (.head _))
      · rcases List.mem_cons.mp hp with rfl | hp
        · exact .head _
        · exact .tail _ (.tail _ (.tail _ hp))
  · have up : ∀ q ∈ (r, lst zs) :: cs, ∀ p ∈ (D, lst ys) :: (own ++ (nw ++ tail)), q.1 ≠ p.1 := fun q hq p hp => Nat.ne_of_gt (hl q hq p (.tail _ (.tail _ hp)))
    refine ⟨hs.trans ⟨_, _, rfl⟩, [(86, o1'), (93, o2')], (r, lst zs) :: cs, F', nSub N' (sub_cons (.tail _ (.tail _ (.tail _ (List.mem_append_right cs (.head _))))) (sub_cons (.head _) (sub_cons (.tail _ (.head _)) (sub_cons (.tail _ (.tail _ (.head _))) fun p hp => (List.mem_append.mp hp).elim (fun h => .tail _ (.tail _ (.tail _ (List.mem_append_left _ h)))) fun h => .tail _ (.tail _ (.tail _ (List.mem_append_right cs (.tail _ (List.mem_append_right own (List.mem_append_right nw h)))))))))), rfl, fun q hq => ⟨up q hq _ (.head _), nin2 (Nat.ne_of_gt (hl q hq (86, o1) (.head _))) (Nat.ne_of_gt (hl q hq (93, o2) (.tail _ (.head _)))), fun p hp => up q hq p (.tail _ (List.mem_append_right _ (List.mem_append_right _ hp)))⟩,
      J0.step hk hz1 hz2 (.head _) ⟨o1', o2', _, a'.sub fun p hp => .tail _ hp, b'.sub fun p hp => .tail _ hp⟩ fun q hq p hp => up q hq p (.tail _ (List.mem_append_right _ (List.mem_append_left _ hp)))⟩
theorem lseg3 {prog : Program} {w : World} {A : Around} {E : Value → Shared → Prop} {s : Shared} {g : Heap} {mean : ExcName → Option Value} {mg mb : PySem.Str → Option Value} {ls : List Str} {Q : Flow → Shared → Prop}
   {L f r : Addr} {cdv : Value} {o2 o3 o4 : Obj} {u4 : Option Value} {R : List (Addr × Obj)} {m : Str → Option Value} {ms : List Value} {mn : List Nat} {first : Int} {count : Nat} {t2 t3 : Tok} {va vb : Value}
   (X' : (K w.params).In g) (T' : Top topProg ls mean mg mb g) (hh : A.handled = none) (hd : A.depth + 100 < recursionLimit) (hu : A.units + 300 < cLine)
   (F : Fr g L s.heap m) (hm : Holds m [(Str.ofString "cells", va), (Str.ofString "most", vb), (Str.ofString "moduli", .ref r)])
   (N : News g L s.heap ([(86, tabObj #[]), (93, tabObj #[])] ++ ((r, W.listOf ms.toArray 0) :: (L + 1 + 1, o2) :: (L + 1 + 1 + 1, o3) :: (L + 1 + 1 + 1 + 1, o4) :: R))) (h2 : o2.data = .cell (some (.int first t2))) (h3 : o3.data = .cell (some (.int (count : Nat) t3))) (h4 : o4.data = .cell u4)
   (hms : IntsAre ms (mn.map Int.ofNat)) (hmn : ∀ z ∈ mn, 1 < z ∧ z < 16) (hml : mn.length ≤ 6) (hfirst : first.natAbs ≤ 10001) (hc0 : 5 ≤ count) (hc1 : count ≤ 8)
   (hR4 : ∀ p ∈ R, p.1 ≠ L + 1 + 1 + 1 + 1) (hRt : ∀ p ∈ R, p.1 ≠ 86 ∧ p.1 ≠ 93) (lr : @LT.lt Nat _ (L + 1 + 1 + 1 + 1) r) (lL : @LT.lt Nat _ 93 L)
   (hQ : ∀ (h' : Heap) (tk : Nat) (m' : Str → Option Value) (D : Addr) (rs : List Value) (o4' : Obj) (made : List (Addr × Obj)) (p86 p93 : Array Value), Fr g L h' m' → Holds m' [(Str.ofString "cells", va), (Str.ofString "most", vb), (Str.ofString "moduli", .ref r)] →
      News g L h' ((D, lst rs) :: (r, W.listOf ms.toArray 0) :: (L + 1 + 1, o2) :: (L + 1 + 1 + 1, o3) :: (L + 1 + 1 + 1 + 1, o4') :: (R ++ (made ++ [(86, tabObj p86), (93, tabObj p93)]))) → o4'.data = .cell (some (.ref D)) → rs.length = mn.length →
      (∀ j k, mn[j]? = some k → ∃ v, rs[j]? = some v ∧ RowAt first count (sgnM j k) made v) → (∀ p ∈ made, ∀ q ∈ (r, W.listOf ms.toArray 0) :: (L + 1 + 1, o2) :: (L + 1 + 1 + 1, o3) :: (L + 1 + 1 + 1 + 1, o4) :: R, p.1 ≠ q.1) → (∀ p ∈ (r, W.listOf ms.toArray 0) :: (L + 1 + 1, o2) :: (L + 1 + 1 + 1, o3) :: (L + 1 + 1 + 1 + 1, o4) :: R, p.1 ≠ D) → (∀ p ∈ made, p.1 ≠ D) →
      wpAny (model prog w) (A.deeper (env217 L f cdv)) (execs (b217.drop 4) (env217 L f cdv)) Q E { s with heap := h', toks := tk }) :
   wpAny (model prog w) (A.deeper (env217 L f cdv)) (execs (b217.drop 3) (env217 L f cdv)) Q E s := by
  have F1 := pins F hm
  clear F hm
  rw [show b217.drop 3 = nth b217 3 :: b217.drop 4 from rfl]
  generalize b217.drop 4 = rst at *
  rw [show nth b217 3 = _ from (by conv => lhs; whnf)]
  unfold env217 at *
  rw [show sc217 = _ from (by conv => lhs; whnf)] at *
  simp only [List.cons_append, List.nil_append] at N
  k_steps
  refine Stop.mk (wpAny_Assign_Name ?_)
  k_steps
  rename Fr _ _ _ _ => F2
  rename News _ _ _ _ => N2
  refine' Stop.mk (comp1 (Mo := [86, 93]) (cl := [(Str.ofString "first", L + 1 + 1), (Str.ofString "count", L + 1 + 1 + 1)]) F2 ?k1 rfl ?k3 ?_)
  case k1 => exact rfl
  case k3 => decide
  k_steps
  have hml0 : ms.length = mn.length := by rw [hms.length, List.length_map]
  have hn86 : ∀ p ∈ (r, W.listOf ms.toArray 0) :: (L + 1 + 1, o2) :: (L + 1 + 1 + 1, o3) :: (L + 1 + 1 + 1 + 1, o4) :: R, p.1 ≠ 86 ∧ p.1 ≠ 93 := fun p hp => by
    simp only [List.mem_cons] at hp
    rcases hp with rfl | rfl | rfl | rfl | hp
    · exact ⟨neN (by lia), neN (by lia)⟩
    · exact ⟨neN (by lia), neN (by lia)⟩
    · exact ⟨neN (by lia), neN (by lia)⟩
    · exact ⟨neN (by lia), neN (by lia)⟩
    · exact hRt p hp
  refine call_enumerate_list (l := r) (items := ms.toArray) ⟨_, N2.get (a := r) (by k_mem), rfl, _, rfl⟩ fun h13 he13 hit13 hsz13 hk13 => ?_
  have F13 := F2.keeps hk13
  have N13 := N2.grown hk13
  have lt2 := lt_new N2 (Nat.le_refl _)
  have hL2 : L < s.heap.objs.size := F2.ns.lt
  refine ⟨[s.heap.objs.size + 1, s.heap.objs.size], mn.length, PairAt (fun i a b => ∃ t, ms.toArray[i]? = some b ∧ a = .int (i : Nat) t), [(86, tabObj #[]), (93, tabObj #[])], (r, W.listOf ms.toArray 0) :: (L + 1 + 1, o2) :: (L + 1 + 1 + 1, o3) :: (L + 1 + 1 + 1 + 1, o4) :: R,
    JR first count mn ((r, W.listOf ms.toArray 0) :: (L + 1 + 1, o2) :: (L + 1 + 1 + 1, o3) :: (L + 1 + 1 + 1 + 1, o4) :: R),
    kindPair _ _ _ _ _ _ _ _ _ (fun i a b => ∃ t, ms.toArray[i]? = some b ∧ a = .int (i : Nat) t) hh rfl rfl rfl (by decide), [r], ?_, F13, nSub N13 (fun p hp => hp), rfl, fun b hb => ?_, fun b hb => ?_, ⟨⟨_, _, _, .same, .same⟩, rfl, Nat.zero_le _, fun j k hj => absurd hj (Nat.not_lt_zero _), fun p hp => absurd hp List.not_mem_nil⟩, ?_, ?_, ?_⟩
  · have hl13 : h13.IsList r ms.toArray := ⟨_, N13.get (a := r) (by k_mem), rfl, _, rfl⟩
    rw [← hml0]
    refine Starts.imp (starts_enum (s := { s with heap := h13 }) (its := ms.toArray) hh he13 hit13 hl13 (Nat.succ_ne_self _)) fun i v h => ?_
    rintro ⟨T, vals, rfl, ⟨t, x, hx, rfl⟩, hT⟩
    exact ⟨T, _, x, rfl, hT, t, hx, rfl⟩
  · have hb2 : b = 86 ∨ b = 93 := by simpa using hb
    have hbs : @LT.lt Nat _ b s.heap.objs.size := by
      rcases hb2 with rfl | rfl
      · exact Nat.lt_trans (Nat.lt_of_le_of_lt (by decide) lL) hL2
      · exact Nat.lt_trans lL hL2
    refine ⟨fun x => ?_, fun x => ?_, fun p hp => ?_⟩
    · rw [List.mem_singleton.mp x] at hb2
      exact hb2.elim (neN (by lia)) (neN (by lia))
    · simp only [List.mem_cons, List.mem_nil_iff, or_false] at x
      rcases x with e | e
      · exact absurd (e ▸ hbs) (Nat.not_lt.mpr (Nat.le_succ _))
      · exact absurd (e ▸ hbs) (Nat.lt_irrefl _)
    · rcases hb2 with rfl | rfl
      · exact (hn86 p hp).1
      · exact (hn86 p hp).2
  · have hbs : ¬ @LT.lt Nat _ b s.heap.objs.size := fun x => by
      simp only [List.mem_cons, List.mem_nil_iff, or_false] at hb
      rcases hb with e | e
      · exact absurd (e ▸ x) (Nat.not_lt.mpr (Nat.le_succ _))
      · exact absurd (e ▸ x) (Nat.lt_irrefl _)
    refine ⟨?_, fun p hp e => ?_⟩
    · cases e : g.get? b with
      | none => rfl
      | some o => exact absurd (Heap.lt_size (F2.keep b o e)) hbs
    · exact hbs (e ▸ lt2 p (List.mem_cons_of_mem _ (List.mem_cons_of_mem _ hp)))
  · rintro i ys mo made ⟨_, rfl, h, _⟩
    exact Nat.le_trans (Nat.le_trans h hml) (by decide)
  · rintro D C i v ys mo made tail own s₁ E' hi J ⟨oC, mC, a, b, rfl, hC, hCa, hCb, ta, hx, rfl⟩ hs F₁ N₁ hmade hapD hmo hmD
    refine wpAny_tests_nil ?_
    rw [if_pos rfl]
    obtain ⟨hh1, tkk1, rfl⟩ := hs
    clear F13 N13 F2 N2 
    obtain ⟨x, tx, rfl, hxn⟩ := ints_mem hms i b (by rw [← List.getElem?_toArray]; exact hx)
    obtain ⟨k, hk, rfl⟩ : ∃ k : Nat, mn[i]? = some k ∧ Int.ofNat k = x := by
      rw [List.getElem?_map, List.getElem?_eq_getElem hi] at hxn
      exact ⟨mn[i], List.getElem?_eq_getElem hi, Option.some.inj hxn⟩
    have hk16 := hmn k (List.mem_of_getElem? hk)
    have inN : ∀ {q}, q ∈ (C, oC) :: (r, W.listOf ms.toArray 0) :: (L + 1 + 1, o2) :: (L + 1 + 1 + 1, o3) :: (L + 1 + 1 + 1 + 1, o4) :: (R ++ tail) → q ∈ (D, lst ys) :: (mo ++ ((C, oC) :: (r, W.listOf ms.toArray 0) :: (L + 1 + 1, o2) :: (L + 1 + 1 + 1, o3) :: (L + 1 + 1 + 1 + 1, o4) :: (R ++ tail))) := fun h => .tail _ (List.mem_append_right mo h)
    have N₂ : News g L hh1 ((D, lst ys) :: (C, oC) :: (r, W.listOf ms.toArray 0) :: (L + 1 + 1, o2) :: (L + 1 + 1 + 1, o3) :: (L + 1 + 1 + 1 + 1, o4) :: (mo ++ (R ++ tail))) := nSub N₁ (sub_cons (.head _) (sub_cons (inN (.head _)) (sub_cons (inN (.tail _ (.head _))) (sub_cons (inN (.tail _ (.tail _ (.head _)))) (sub_cons (inN (.tail _ (.tail _ (.tail _ (.head _))))) (sub_cons (inN (.tail _ (.tail _ (.tail _ (.tail _ (.head _)))))) fun q hq => (List.mem_append.mp hq).elim (fun h => .tail _ (List.mem_append_left _ h)) fun h => inN (.tail _ (.tail _ (.tail _ (.tail _ (.tail _ h)))))))))))
    k_steps
    · rename Int.fmod _ _ = 0 => hi2
      have e : (Int.ofNat k : Int) = sgnM i k := by
        unfold sgnM
        rw [if_pos (by rw [show (2 : Int) = ((2 : Nat) : Int) from rfl, Int.fmod_eq_emod_of_nonneg _ (Int.natCast_nonneg _)] at hi2; lia)]
        rfl
      refine Stop.mk (row_turn (k := k) X' T' F₁ N₁ ⟨_, _, rfl⟩ hh (by show A.depth + 1 + 60 < _; lia) (by show A.units + _ + 100 < _; lia) hapD hmD hmade J hk hk16 e hfirst hc0 hc1)
    · rename Int.fmod _ _ ≠ 0 => hi2
      have e : (-(Int.ofNat k) : Int) = sgnM i k := by
        unfold sgnM
        rw [if_neg (by rw [show (2 : Int) = ((2 : Nat) : Int) from rfl, Int.fmod_eq_emod_of_nonneg _ (Int.natCast_nonneg _)] at hi2; lia)]
        rfl
      refine Stop.mk (row_turn (k := k) X' T' F₁ N₁ ⟨_, _, rfl⟩ hh (by show A.depth + 1 + 60 < _; lia) (by show A.units + _ + 100 < _; lia) hapD hmD hmade J hk hk16 e hfirst hc0 hc1)
  · rintro D h7 tk7 ys mo made hLD ⟨ht, hlen, _, hrows, hapm⟩ F7 N7 hmo hap7
    clear F13 N13 F2 N2
    have nDc : @Ne Nat D (L + 1 + 1 + 1 + 1) := Ne.symm (hap7 (L + 1 + 1 + 1 + 1, o4) (by simp))
    obtain ⟨p86, p93, hmo2⟩ : ∃ p86 p93, mo = [((86 : Addr), tabObj p86), ((93 : Addr), tabObj p93)] := by
      obtain ⟨o1, o2, _, a, b⟩ := ht
      obtain ⟨_, rfl⟩ := a.obj
      obtain ⟨_, rfl⟩ := b.obj
      exact ⟨_, _, rfl⟩
    have hRM : ∀ p ∈ R ++ (made ++ mo), p.1 ≠ L + 1 + 1 + 1 + 1 := fun p hp => by
      rcases List.mem_append.mp hp with hp | hp
      · exact hR4 p hp
      · rcases List.mem_append.mp hp with hp | hp
        · exact hapm p hp (L + 1 + 1 + 1 + 1, o4) (by simp)
        · rw [hmo2] at hp
          rcases List.mem_cons.mp hp with rfl | hp
          · exact neN (by lia)
          · rw [List.mem_singleton.mp hp]
            exact neN (by lia)
    have inN : ∀ {q}, q ∈ (r, W.listOf ms.toArray 0) :: (L + 1 + 1, o2) :: (L + 1 + 1 + 1, o3) :: (L + 1 + 1 + 1 + 1, o4) :: R → q ∈ (D, lst ys) :: (mo ++ (made ++ ((r, W.listOf ms.toArray 0) :: (L + 1 + 1, o2) :: (L + 1 + 1 + 1, o3) :: (L + 1 + 1 + 1 + 1, o4) :: R))) := fun h => .tail _ (List.mem_append_right mo (List.mem_append_right made h))
    have N8 : News g L h7 ((D, lst ys) :: (r, W.listOf ms.toArray 0) :: (L + 1 + 1, o2) :: (L + 1 + 1 + 1, o3) :: (L + 1 + 1 + 1 + 1, o4) :: (R ++ (made ++ mo))) := nSub N7 (sub_cons (.head _) (sub_cons (inN (.head _)) (sub_cons (inN (.tail _ (.head _))) (sub_cons (inN (.tail _ (.tail _ (.head _)))) (sub_cons (inN (.tail _ (.tail _ (.tail _ (.head _))))) fun q hq => (List.mem_append.mp hq).elim (fun h => inN (.tail _ (.tail _ (.tail _ (.tail _ h))))) fun h => (List.mem_append.mp h).elim (fun h => .tail _ (List.mem_append_right mo (List.mem_append_left _ h))) fun h => .tail _ (List.mem_append_left _ h))))))
    have hD2 : ∀ p ∈ (r, W.listOf ms.toArray 0) :: (L + 1 + 1, o2) :: (L + 1 + 1 + 1, o3) :: (L + 1 + 1 + 1 + 1, o4) :: R, p.1 ≠ D := fun p hp => hap7 p (List.mem_append_right _ (List.mem_append_right _ hp))
    have hD3 : ∀ p ∈ made, p.1 ≠ D := fun p hp => hap7 p (List.mem_append_right _ (List.mem_append_left _ hp))
    clear N7
    k_steps
    rename Fr _ _ _ _ => F9
    rename News _ _ _ _ => N9
    rename_i o9 d9
    subst hmo2
    exact hQ _ _ _ D ys o9 made p86 p93 F9 ⟨rfl, rfl, rfl, trivial⟩ N9 d9 hlen (fun j k hk => hrows j k (List.getElem?_eq_some_iff.mp hk).1 hk) hapm hD2 hD3
end Mine
namespace Mine
local macro_rules | `(tactic| k_handed) => `(tactic| assumption)
local macro_rules | `(tactic| walk_at $k) => Mine.stopAt ["compareOp In ref ref"] k
theorem lseg4 {prog : Program} {w : World} {A : Around} {E : Value → Shared → Prop} {s : Shared} {g : Heap} {mean : ExcName → Option Value} {mg mb : PySem.Str → Option Value} {ls : List Str} {Q : Flow → Shared → Prop}
   {L f r D : Addr} {cdv : Value} {o4 : Obj} {R made : List (Addr × Obj)} {m : Str → Option Value} {ms rs : List Value} {mn : List Nat} {first : Int} {count : Nat} {va vb : Value}
   (X' : (K w.params).In g) (T' : Top topProg ls mean mg mb g) (hh : A.handled = none) (hd : A.depth + 100 < recursionLimit) (hu : A.units + 300 < cLine)
   (F : Fr g L s.heap m) (hm : Holds m [(Str.ofString "cells", va), (Str.ofString "most", vb), (Str.ofString "moduli", .ref r)])
   (N : News g L s.heap ((D, lst rs) :: (r, W.listOf ms.toArray 0) :: (L + 1 + 1 + 1 + 1, o4) :: R)) (h4 : o4.data = .cell (some (.ref D)))
   (hms : IntsAre ms (mn.map Int.ofNat)) (hml : mn.length ≤ 6) (hml1 : 1 ≤ mn.length) (hc0 : 5 ≤ count) (hrl : rs.length = mn.length)
   (hrows : ∀ j k, mn[j]? = some k → ∃ v, rs[j]? = some v ∧ RowAt first count (sgnM j k) R v)
   (hQ : ∀ (h' : Heap) (tk : Nat) (m' : Str → Option Value), Fr g L h' m' → Holds m' [(Str.ofString "cells", va), (Str.ofString "most", vb), (Str.ofString "moduli", .ref r)] →
      News g L h' ((D, lst rs) :: (r, W.listOf ms.toArray 0) :: (L + 1 + 1 + 1 + 1, o4) :: R) →
      wpAny (model prog w) (A.deeper (env217 L f cdv)) (execs (b217.drop 5) (env217 L f cdv)) Q E { s with heap := h', toks := tk }) :
   wpAny (model prog w) (A.deeper (env217 L f cdv)) (execs (b217.drop 4) (env217 L f cdv)) Q E s := by
  have F1 := pins F hm
  clear F hm
  rw [show b217.drop 4 = nth b217 4 :: b217.drop 5 from rfl]
  generalize b217.drop 5 = rst at *
  rw [show nth b217 4 = _ from (by conv => lhs; whnf)]
  unfold env217 at *
  rw [show sc217 = _ from (by conv => lhs; whnf)] at *
  have hne : ¬ List.map Int.ofNat mn = [] := fun e => by
    have := congrArg List.length e
    simp at this
    rw [this] at hml1
    simp at hml1
  k_steps
  · rename Fr _ _ _ _ => F2
    rename News _ _ _ _ => N2
    rename_i l2 h2 q2
    obtain ⟨a1, a2, a3, a4, a5⟩ := q2
    have ltR := mem_allLt a5
    refine Stop.mk (PySem.SeqAt.in_listAt (fun _ => false) (l := D) (items := rs.toArray) ⟨_, N2.get (a := D) (by k_mem), rfl, _, rfl⟩ (fun y hy => ?_) ?_)
    · have hy' : y ∈ rs := by simpa using hy
      obtain ⟨j, hj, rfl⟩ := List.mem_iff_getElem.mp hy'
      have hjm : j < mn.length := by lia
      obtain ⟨v, hv, r0, zs, rfl, hr0, hz, _⟩ := hrows j mn[j] (List.getElem?_eq_getElem hjm)
      rw [List.getElem?_eq_getElem hj] at hv
      rw [Option.some.inj hv]
      have e0 := N2.get (a := r0) (o := lst zs) (List.mem_cons_of_mem _ (List.mem_cons_of_mem _ (List.mem_cons_of_mem _ (List.mem_cons_of_mem _ (List.mem_cons_of_mem _ hr0)))))
      refine PySem.SeqAt.EqAt.of_refs (Nat.ne_of_lt (ltR _ hr0)) (PySem.SeqAt.RcAt.lists_lengths (items := zs.toArray) (items2 := #[]) ⟨_, e0, rfl, _, rfl⟩ ⟨_, N2.get (a := l2) (by k_mem), rfl, _, rfl⟩ ?_ (by show A.units + _ + _ < _; lia))
      simp
      intro e
      rw [e] at hz
      simp at hz
      lia
    · rw [show rs.toArray.any (fun _ => false) = false by simp]
      k_steps
      rename Fr _ _ _ _ => F3
      rename News _ _ _ _ => N3
      exact hQ _ _ _ F3 ⟨rfl, rfl, rfl, trivial⟩ (nSub N3 fun p hp => List.mem_cons_of_mem _ (List.mem_cons_of_mem _ hp))
end Mine
namespace Mine
local macro_rules | `(tactic| k_all) => `(tactic| first | assumption | (refine' all_cons ?a ?b; (case a => k_ne); (case b => k_all)))
local macro_rules | `(tactic| k_handed) => `(tactic| assumption)
local macro_rules | `(tactic| walk_at $k) => Mine.stopAt ["eval ListComp"] k
local macro_rules | `(tactic| walk_at "eval Name") => `(tactic| (k_here; (with_reducible show wpAny _ _ (eval (Expr.Name (Str.ofString "rests") _) (cenvOf _ _ _ _)) _ _ _); (with_reducible refine' nameFree1 (Str.ofString "step") ?N ?c ?m ?d ?_ ?k ?x ?l ?b ?y); (case k => rfl); (case x => kernel_rfl); (case l => kernel_rfl); (case b => decide); (case y => decide); (case N => k_asm); (case c => rfl); (case m => k_mem); (case d => assumption); k_whole))
local macro_rules | `(tactic| walk_at "eval Name") => `(tactic| (k_here; (with_reducible show wpAny _ _ (eval (Expr.Name (Str.ofString "step") _) (cenvOf _ _ _ _)) _ _ _); walk_at "nf"))
local macro_rules | `(tactic| walk_at $k) => Mine.stopAt ["exec Assign cons ListComp"] k
theorem row_item {first : Int} {count i j k : Nat} {R : List (Addr × Obj)} {rs : List Value} {b : Value} (hr : ∃ v, rs[j]? = some v ∧ RowAt first count (sgnM j k) R v) (hi : i < count) (hb : rs.toArray[j]? = some b) : ∃ r0 ws tw, b = .ref r0 ∧ (r0, lst ws) ∈ R ∧ ws[((0 : Int) + (i : Int)).toNat]? = some (.int ((first + (i : Nat)).fmod (sgnM j k)) tw) := by
  obtain ⟨v, hv, r0, ws, rfl, hr0, hw, hwv⟩ := hr
  rw [List.getElem?_toArray, hv] at hb
  obtain ⟨tw, hwi⟩ := hwv i hi
  exact ⟨r0, ws, tw, (Option.some.inj hb).symm, hr0, by rw [show ((0 : Int) + (i : Int)).toNat = i by lia]; exact hwi⟩
theorem abs_res (first : Int) (j k i : Nat) : (if (first + (i : Int)).fmod (sgnM j k) < 0 then -(first + (i : Int)).fmod (sgnM j k) else (first + (i : Int)).fmod (sgnM j k)) = ((resN first j k i : Nat) : Int) := by
  unfold resN
  split <;> lia
theorem pair_snoc {first : Int} {mn : List Nat} {i j k : Nat} {zs : List Value} (hk : mn[j]? = some k) (hj5 : j < 5) (hr11 : resN first j k i < 11) (h : StrsAre zs ((List.range j).map fun k => mkS (pairW first mn i k))) (t : Tok) :
    StrsAre (zs ++ [.str (Txt.item (Str.ofString "kmnpg") (j : Int) ++ Txt.item (Str.ofString "abcdefhijlo") ((resN first j k i : Nat) : Int)) t]) ((List.range (j + 1)).map fun k => mkS (pairW first mn i k)) := by
  rw [item_k j hj5, item_l _ hr11, List.range_succ, List.map_append]
  have e : (⟨#[kc j]⟩ ++ ⟨#[lc (resN first j k i)]⟩ : Str) = mkS (pairW first mn i j) := by
    unfold pairW
    rw [List.getD_eq_getElem?_getD, hk]
    rfl
  rw [e]
  exact strs_snoc h
theorem mid63 {i c : Nat} (hi : i < c) (hc : c ≤ 8) : 0 ≤ (0 : Int) + (i : Int) ∧ (0 : Int) + (i : Int) < 2 ^ 63 := by
  constructor <;> lia
theorem lseg5 {prog : Program} {w : World} {A : Around} {E : Value → Shared → Prop} {s : Shared} {g : Heap} {mean : ExcName → Option Value} {mg mb : PySem.Str → Option Value} {ls : List Str} {Q : Flow → Shared → Prop}
   {L f r D : Addr} {cdv : Value} {o3 o4 o5 : Obj} {u5 : Option Value} {R : List (Addr × Obj)} {m : Str → Option Value} {rs : List Value} {mn : List Nat} {first : Int} {count : Nat} {t3 : Tok} {va vb vm : Value}
   (X' : (K w.params).In g) (T' : Top topProg ls mean mg mb g) (hh : A.handled = none) (hd : A.depth + 100 < recursionLimit) (hu : A.units + 300 < cLine)
   (F : Fr g L s.heap m) (hm : Holds m [(Str.ofString "cells", va), (Str.ofString "most", vb), (Str.ofString "moduli", vm)])
   (N : News g L s.heap ((D, lst rs) :: (L + 1 + 1 + 1, o3) :: (L + 1 + 1 + 1 + 1, o4) :: (L + 1 + 1 + 1 + 1 + 1, o5) :: R)) (h3 : o3.data = .cell (some (.int (count : Nat) t3))) (h4 : o4.data = .cell (some (.ref D))) (h5 : o5.data = .cell u5)
   (hml : mn.length ≤ 5) (hmn : ∀ z ∈ mn, 1 < z ∧ z ≤ 11) (hc0 : 5 ≤ count) (hc1 : count ≤ 8) (hrl : rs.length = mn.length)
   (hrows : ∀ j k, mn[j]? = some k → ∃ v, rs[j]? = some v ∧ RowAt first count (sgnM j k) R v) (hR5 : ∀ p ∈ (D, lst rs) :: R, p.1 ≠ L + 1 + 1 + 1 + 1 + 1)
   (hQ : ∀ (h' : Heap) (tk : Nat) (m' : Str → Option Value) (W0 : Addr) (ws : List Value) (o5' : Obj), Fr g L h' m' → Holds m' [(Str.ofString "cells", va), (Str.ofString "most", vb), (Str.ofString "moduli", vm)] →
      News g L h' ((W0, lst ws) :: (D, lst rs) :: (L + 1 + 1 + 1, o3) :: (L + 1 + 1 + 1 + 1, o4) :: (L + 1 + 1 + 1 + 1 + 1, o5') :: R) → o5'.data = .cell (some (.ref W0)) → StrsAre ws ((List.range count).map fun i => mkS (wordC first mn i)) → (∀ p ∈ (D, lst rs) :: (L + 1 + 1 + 1, o3) :: (L + 1 + 1 + 1 + 1, o4) :: (L + 1 + 1 + 1 + 1 + 1, o5) :: R, p.1 ≠ W0) →
      wpAny (model prog w) (A.deeper (env217 L f cdv)) (execs (b217.drop 6) (env217 L f cdv)) Q E { s with heap := h', toks := tk }) :
   wpAny (model prog w) (A.deeper (env217 L f cdv)) (execs (b217.drop 5) (env217 L f cdv)) Q E s := by
  have F1 := pins F hm
  clear F hm
  rw [show b217.drop 5 = nth b217 5 :: b217.drop 6 from rfl]
  generalize b217.drop 6 = rst at *
  rw [show nth b217 5 = _ from (by conv => lhs; whnf)]
  unfold env217 at *
  rw [show sc217 = _ from (by conv => lhs; whnf)] at *
  k_steps
  refine Stop.mk (wpAny_Assign_Name ?_)
  k_steps
  rename Fr _ _ _ _ => F2
  rename News _ _ _ _ => N2
  refine' Stop.mk (compOfC (cl := [(Str.ofString "rests", L + 1 + 1 + 1 + 1)]) F2 ?k1 rfl ?k3 rfl (fun _ => rfl) (fun _ => rfl) ?_)
  case k1 => exact rfl
  case k3 => decide
  k_steps
  rename_i h10 tk10 ta1 ta2 ta3 hr10 F10 N10 he10
  refine ⟨[], count, fun i v _ => ∃ t, v = .int ((0 : Int) + (i : Nat)) t, _, fun i ys => ys.length = i ∧ i ≤ count ∧ StrsAre ys ((List.range i).map fun i => mkS (wordC first mn i)),
    [], starts_range hh hr10 (range_ok _ (by lia)).1 (range_ok _ (by lia)).2, F10, N10, (fun _ h => nomatch h), ⟨rfl, Nat.zero_le _, .nil⟩, ?_, ?_, ?_⟩
  · rintro i ys ⟨rfl, h, _⟩
    exact Nat.le_trans h (Nat.le_trans hc1 (by decide))
  · intro D1 C oC oc mC i v _ ys tail s₁ E' Qe hi hC hCv F₁ N₁ hap hq hP hj
    obtain ⟨tv, rfl⟩ := hP
    have N₂ : News g L s₁.heap ((D1, lst ys) :: (C + 1, oc) :: (C, oC) :: (D, lst rs) :: (L + 1 + 1 + 1, o3) :: (L + 1 + 1 + 1 + 1, o4) :: (L + 1 + 1 + 1 + 1 + 1, o5) :: (R ++ tail)) := N₁
    clear F10 N10 N₁
    k_steps
    rename Fr _ _ _ _ => F3
    rename News _ _ _ _ => N3
    refine' Stop.mk (compOfP (cl := [(Str.ofString "step", C + 1)]) F3 ?k4 rfl ?k5 hh rfl rfl (by decide) ?_)
    case k4 => exact rfl
    case k5 => decide
    k_steps
    refine enumN F3 N3 (its := rs.toArray) (n := mn.length) ⟨_, N3.get (a := D) (by k_mem), rfl, _, rfl⟩ (by simpa using hrl) fun e it h13 F13 N13 hst hown => ?_
    clear F3 N3
    refine ⟨[e, it], mn.length, fun j a b => ∃ t, rs.toArray[j]? = some b ∧ a = .int (j : Nat) t, _,
      fun j zs => zs.length = j ∧ j ≤ mn.length ∧ StrsAre zs ((List.range j).map fun k => mkS (pairW first mn i k)), [D], hst _ _ _ _ hh, F13, N13, hown, ⟨rfl, Nat.zero_le _, .nil⟩, ?_, ?_, ?_⟩
    · rintro j zs ⟨rfl, h, _⟩
      exact Nat.le_trans h (Nat.le_trans hml (by decide))
    · intro D6 C6 oC6 mC6 j a b zs tail6 s₆ E6 Qe6 hj6 hC6 hCa6 hCb6 F₆ N₆ hap6 hq6 hP hz
      obtain ⟨ta6, hb6, rfl⟩ := hP
      obtain ⟨k, hk⟩ : ∃ k, mn[j]? = some k := ⟨_, List.getElem?_eq_getElem hj6⟩
      obtain ⟨r0, ws, tw, rfl, hr0, hwi⟩ := row_item (hrows j k hk) hi hb6
      clear F13 N13
      k_steps
      have e0 := N₆.get (a := r0) (o := lst ws) (by
        have := List.mem_append_left tail6 (List.mem_append_left tail hr0)
        repeat (first | exact this | refine List.mem_cons_of_mem _ ?_))
      refine item_at (vs := ws) (v := .int ((first + (i : Nat)).fmod (sgnM j k)) tw) ⟨_, e0, rfl, _, rfl⟩ (mid63 hi hc1).1 (mid63 hi hc1).2 hwi ?_
      clear e0 hr0 hwi hb6
      k_steps
      rw [abs_res]
      have hr11 : resN first j k i < 11 := Nat.lt_of_lt_of_le (res_lt first j k i (Nat.lt_of_succ_lt (hmn k (List.mem_of_getElem? hk)).1)) (hmn k (List.mem_of_getElem? hk)).2
      have hj5 : j < 5 := Nat.lt_of_lt_of_le hj6 hml
      k_steps
      rename Fr _ _ _ _ => F7
      rename News _ _ _ _ => N7
      obtain ⟨hz, hz2, hz3⟩ := hz
      exact hq6 _ _ _ _ F7 N7 (sub_pre [] _ _ _ _) ⟨by rw [List.length_append, hz]; rfl, hj6, pair_snoc hk hj5 hr11 hz3 _⟩
    · intro D6 h6 tk6 zs hLD6 F6 N6 hap6 hz
      obtain ⟨hz, hz2, hz3⟩ := hz
      clear F13 N13
      k_steps
      refine join_listW ⟨_, N6.get (a := D6) (by k_mem), rfl, _, rfl⟩ hz3 (by decide) (by rw [len_pairs, List.length_map, List.length_range]; lia) fun t' k' => ?_
      rw [tjoin_mk]
      obtain ⟨hlen, hile, hys⟩ := hj
      exact hq _ _ _ _ F6 N6 (sub_pre2 [_] _ _ _ ((D, lst rs) :: (L + 1 + 1 + 1, o3) :: (L + 1 + 1 + 1 + 1, o4) :: (L + 1 + 1 + 1 + 1 + 1, o5) :: R) tail) ⟨by rw [List.length_append, hlen]; rfl, hi, by
        rw [List.range_succ, List.map_append]
        exact strs_snoc hys⟩
  · intro W0 h7 tk7 ys hLD F7 N7 hap7 hj
    obtain ⟨hlen, _, hys⟩ := hj
    clear F10 N10
    have nW : @Ne Nat W0 (L + 1 + 1 + 1 + 1 + 1) := Ne.symm (hap7 (L + 1 + 1 + 1 + 1 + 1, o5) (List.mem_cons_of_mem _ (List.mem_cons_of_mem _ (List.mem_cons_of_mem _ List.mem_cons_self))))
    have hRc : ∀ p ∈ R, p.1 ≠ L + 1 + 1 + 1 + 1 + 1 := fun p hp => hR5 p (List.mem_cons_of_mem _ hp)
    have nDc : @Ne Nat D (L + 1 + 1 + 1 + 1 + 1) := hR5 _ List.mem_cons_self
    k_steps
    rename Fr _ _ _ _ => F9
    rename News _ _ _ _ => N9
    rename_i o9 d9
    exact hQ _ _ _ W0 ys o9 F9 ⟨rfl, rfl, rfl, trivial⟩ N9 d9 hys hap7
end Mine
namespace Mine
local macro_rules | `(tactic| k_handed) => `(tactic| assumption)
local macro_rules | `(tactic| walk_at $k) => Mine.stopAt ["exec Assign cons ListComp", "call type:enumerate"] k
theorem strs_mem {vs : List Value} {ns : List Str} (h : StrsAre vs ns) : ∀ (i : Nat) (v : Value), vs[i]? = some v → ∃ n t, v = .str n t ∧ ns[i]? = some n := by
  induction h with
  | nil => intro i v e; simp at e
  | cons n t _ ih =>
    intro i v e
    cases i with
    | zero => exact ⟨n, t, by simpa using e.symm, rfl⟩
    | succ i => exact ih i v (by simpa using e)
theorem agent_snoc {zs : List Str} {i : Nat} {z v : Str} {ys : List Value} (hz : zs[i]? = some z) (h : StrsAre ys ((zs.mapIdx agentZ).take i)) (t : Tok) (e : v = agentZ i z) : StrsAre (ys ++ [.str v t]) ((zs.mapIdx agentZ).take (i + 1)) := by
  rw [List.take_add_one, List.getElem?_mapIdx, hz, e]
  exact strs_snoc h
theorem even_z {i : Nat} {z : Str} (h : ((i : Nat) : Int).fmod 2 = 0) : Txt.upper z = agentZ i z := by
  rw [show (2 : Int) = ((2 : Nat) : Int) from rfl, Int.fmod_eq_emod_of_nonneg _ (Int.natCast_nonneg _)] at h
  unfold agentZ
  rw [if_pos (by lia)]
theorem odd_z {i : Nat} {z : Str} (h : ((i : Nat) : Int).fmod 2 ≠ 0) : z = agentZ i z := by
  rw [show (2 : Int) = ((2 : Nat) : Int) from rfl, Int.fmod_eq_emod_of_nonneg _ (Int.natCast_nonneg _)] at h
  unfold agentZ
  rw [if_neg (by lia)]
theorem lseg7 {prog : Program} {w : World} {A : Around} {E : Value → Shared → Prop} {s : Shared} {g : Heap} {mean : ExcName → Option Value} {mg mb : PySem.Str → Option Value} {ls : List Str} {Q : Flow → Shared → Prop}
   {L f V0 : Addr} {cdv : Value} {R : List (Addr × Obj)} {m : Str → Option Value} {es : List Value} {zs : List Str} {va vb vc : Value}
   (X' : (K w.params).In g) (T' : Top topProg ls mean mg mb g) (hh : A.handled = none) (hd : A.depth + 100 < recursionLimit) (hu : A.units + 300 < cLine)
   (F : Fr g L s.heap m) (hm : Holds m [(Str.ofString "cells", va), (Str.ofString "most", vb), (Str.ofString "moduli", vc), (Str.ofString "every", .ref V0)])
   (N : News g L s.heap ((V0, lst es) :: R)) (hes : StrsAre es zs) (hz60 : zs.length ≤ 60) (hz10 : ∀ z ∈ zs, z.length ≤ 10)
   (hQ : ∀ (h' : Heap) (tk : Nat) (m' : Str → Option Value) (A0 : Addr) (as : List Value), Fr g L h' m' → Holds m' [(Str.ofString "cells", va), (Str.ofString "most", vb), (Str.ofString "every", .ref V0), (Str.ofString "agents", .ref A0)] →
      News g L h' ((A0, lst as) :: (V0, lst es) :: R) → StrsAre as (zs.mapIdx agentZ) → (∀ p ∈ (V0, lst es) :: R, p.1 ≠ A0) →
      wpAny (model prog w) (A.deeper (env217 L f cdv)) (execs (b217.drop 8) (env217 L f cdv)) Q E { s with heap := h', toks := tk }) :
   wpAny (model prog w) (A.deeper (env217 L f cdv)) (execs (b217.drop 7) (env217 L f cdv)) Q E s := by
  have F1 := pins F hm
  clear F hm
  rw [show b217.drop 7 = nth b217 7 :: b217.drop 8 from rfl]
  generalize b217.drop 8 = rst at *
  rw [show nth b217 7 = _ from (by conv => lhs; whnf)]
  unfold env217 at *
  rw [show sc217 = _ from (by conv => lhs; whnf)] at *
  have hel := hes.length
  k_steps
  rename Fr _ _ _ _ => F2
  rename News _ _ _ _ => N2
  refine' Stop.mk (assignOfP (cl := []) F2 rfl ?k1 ?k2 rfl ?k3 rfl rfl hh rfl rfl (by decide) ?_)
  case k1 => rfl
  case k2 => rfl
  case k3 => decide
  k_steps
  refine Stop.mk (enumN F2 N2 (its := es.toArray) (n := zs.length) ⟨_, N2.get (a := V0) (by k_mem), rfl, _, rfl⟩ (by rw [List.size_toArray, hel]) fun e it h13 F13 N13 hst hown => ?_)
  clear F2 N2
  refine ⟨[e, it], zs.length, fun j a b => ∃ t, es.toArray[j]? = some b ∧ a = .int (j : Nat) t, _, fun i ys => ys.length = i ∧ i ≤ zs.length ∧ StrsAre ys ((zs.mapIdx agentZ).take i),
    [V0], hst _ _ _ _ hh, F13, N13, hown, ⟨rfl, Nat.zero_le _, .nil⟩, ?_, ?_, ?_⟩
  · rintro i ys ⟨rfl, h, _⟩
    exact Nat.le_trans h (Nat.le_trans hz60 (by decide))
  · intro D C oC mC i a b ys tail s₁ E' Qe hi hC hCa hCb F₁ N₁ hap hq hP hj
    obtain ⟨ta, hb, rfl⟩ := hP
    obtain ⟨z, tz, rfl, hz⟩ := strs_mem hes i b (by rw [← List.getElem?_toArray]; exact hb)
    have hzl : z.length ≤ 10 := hz10 z (List.mem_of_getElem? hz)
    clear F13 N13 hb
    obtain ⟨hlen, hile, hys⟩ := hj
    k_steps
    · rename Int.fmod _ _ = 0 => hi2
      exact hq _ _ _ _ F₁ N₁ (sub_pre [] _ _ _ _) ⟨by rw [List.length_append, hlen]; rfl, hi, agent_snoc hz hys _ (even_z hi2)⟩
    · rename Int.fmod _ _ ≠ 0 => hi2
      exact hq _ _ _ _ F₁ N₁ (sub_pre [] _ _ _ _) ⟨by rw [List.length_append, hlen]; rfl, hi, agent_snoc hz hys _ (odd_z hi2)⟩
  · intro D h7 tk7 ys hLD F7 N7 hap7 hj
    obtain ⟨hlen, _, hys⟩ := hj
    clear F13 N13
    rw [List.take_of_length_le (by simp)] at hys
    exact hQ _ _ _ D ys F7 ⟨rfl, rfl, rfl, rfl, trivial⟩ N7 hys hap7
end Mine
namespace Mine
noncomputable abbrev lc2 (elt t1 it1 t2 it2 : Expr) (scope : Scope) (pos : Pos) : Expr := .ListComp elt [⟨t1, it1, [], 0⟩, ⟨t2, it2, [], 0⟩] scope pos
noncomputable def innerK (elt t1 it1 t2 it2 : Expr) (scope : Scope) (pos : Pos) (D : Addr) (cenv : Env) (nxt : Sem Fin) : Sem Fin := do
  let x ← eval it2 cenv
  standAt it2.pos
  let x ← foldedSetIterable it2 cenv x
  let it ← holding [x] (pyIter x)
  let _ ← runOwn (.compStart (lc2 elt t1 it1 t2 it2 scope pos) 1 it (.ref D) cenv) cenv
  nxt
noncomputable def turnK (g : Comprehension) (it : Value) (cenv : Env) (body nxt : Sem Fin) : Sem Fin := do
  standAt g.iter.pos
  match ← pyNext it with
  | none => pure (.done .next)
  | some v =>
    letOwnedTupleGo g.target it v
    assign g.target cenv v
    let ok ← testsOf g.ifs cenv
    if ok = true then body else nxt
section
variable {elt t1 it1 t2 it2 : Expr} {scope : Scope} {pos : Pos}
theorem turn_0 (it : Value) (D : Addr) (cenv : Env) : compTurn (lc2 elt t1 it1 t2 it2 scope pos) 0 it (.ref D) cenv = turnK ⟨t1, it1, [], 0⟩ it cenv (innerK elt t1 it1 t2 it2 scope pos D cenv (again (.compLoop (lc2 elt t1 it1 t2 it2 scope pos) 0 it (.ref D) cenv))) (again (.compLoop (lc2 elt t1 it1 t2 it2 scope pos) 0 it (.ref D) cenv)) := by rfl
theorem turn_1 (it : Value) (D : Addr) (cenv : Env) : compTurn (lc2 elt t1 it1 t2 it2 scope pos) 1 it (.ref D) cenv = turnForm ⟨t2, it2, [], 0⟩ it cenv (emitElt elt D cenv) (again (.compLoop (lc2 elt t1 it1 t2 it2 scope pos) 1 it (.ref D) cenv)) := by rfl
end
section
variable {prog : Program} {w : World} {A : Around} {E : Value → Shared → Prop} {s : Shared} {h₀ : Heap} {L : Addr} {m : Str → Option Value} {env : Env}
variable {elt t1 it1 t2 it2 : Expr} {scope : Scope} {pos : Pos}
theorem start_1 {R : Result → Shared → Prop} {it acc : Value} {cenv : Env}
    (h0 : codeAny (model prog w) A (.compLoop (lc2 elt t1 it1 t2 it2 scope pos) 1 it acc cenv) R s)
    (h : wpAny (model prog w) A (pyIter it) (fun it' s' => codeAny (model prog w) A (.compLoop (lc2 elt t1 it1 t2 it2 scope pos) 1 it' acc cenv) R s') (notedBy (model prog w) A cenv fun x s' => R (.error x) s') s) :
    codeAny (model prog w) A (.compStart (lc2 elt t1 it1 t2 it2 scope pos) 1 it acc cenv) R s := by
  refine codeAny_of_tree ?_
  show wpAny _ _ ((compStart (lc2 elt t1 it1 t2 it2 scope pos) 1 it acc cenv).onRaise (fun x => do noteFrame x cenv; standAt theWindowsPlace)) _ _ s
  refine wpAny_notedAt ?_
  unfold compStart
  show wpAny _ _ (ask >>= _) _ _ s
  refine wpAny_bind (wpAny_askSetting (wpAny_ite ?_))
  split
  · first
      | exact wpAny_bind (wpAny_pure (wpAny_pure (And.intro rfl h0)))
      | exact wpAny_pure (And.intro rfl h0)
  · refine wpAny_bind (wpAny_rule ?_)
    show wpAny _ _ (standAt it2.pos >>= _) _ _ s
    exact wpAny_bind (wpAny_standAt (wpAny_bind (wpAny_mono h (fun it' s' h' => wpAny_pure (And.intro rfl h')) fun _ _ x => x)))
inductive LoopXI (h₀ : Heap) (L D : Addr) (m : Str → Option Value) (n : Nat) (St : Nat → Heap → Prop) (Cst : Heap → Prop) (news : List (Addr × Obj)) (J : Nat → List Value → Prop) (s : Shared) (k : Nat) (s' : Shared) : Prop
  | intro (i : Nat) (ys : List Value) (hs : Same s s') (hi : i ≤ n) (hk : k = n + 1 - i) (hst : St i s'.heap) (hC : Cst s'.heap) (F : Fr h₀ L s'.heap m) (N : News h₀ L s'.heap ((D, lst ys) :: news)) (hJ : J i ys)
theorem loopX {e : Expr} {g : Comprehension} {depth : Nat} {body : Sem Fin} {cenv : Env} {I D : Addr} {Ow fp wr : List Addr} {n : Nat} {P Md : Nat → Value → Heap → Prop} {St : Nat → Heap → Prop} {R : Result → Shared → Prop} {news : List (Addr × Obj)} {ys₀ : List Value}
    (hform : compTurn e depth (.ref I) (.ref D) cenv = turnK g (.ref I) cenv body (again (.compLoop e depth (.ref I) (.ref D) cenv))) (hifs : g.ifs = [])
    (hq : (Code.compLoop e depth (.ref I) (.ref D) cenv).quiet = true)
    (hden : (model prog w).den (.compLoop e depth (.ref I) (.ref D) cenv) = (compTurn e depth (.ref I) (.ref D) cenv).onRaise (fun x => do noteFrame x cenv; theTreesLotGoes x)) (hund : A.under (.compLoop e depth (.ref I) (.ref D) cenv) = A)
    (W : Feed prog w A g.target I fp wr n P Md St) {Cst : Heap → Prop} {Aft : Nat → Value → List (Addr × Obj) → Prop} (Y : Lays prog w A g.target cenv Ow P Cst Aft)
    (hDf : D ∉ fp) (hOf : ∀ b ∈ Ow, b ∉ fp) (hLf : L ∉ fp) (hDO : D ∉ Ow) (hLO : L ∉ Ow) (hO : ∀ b ∈ Ow, h₀.get? b = none) (hwr : ∀ b ∈ wr, h₀.get? b = none ∧ ∀ p ∈ news, p.1 ≠ b)
    (hO' : ∀ p ∈ news, p.1 ∉ Ow) (hst : St 0 s.heap) (hC : Cst s.heap) (F : Fr h₀ L s.heap m) (N : News h₀ L s.heap ((D, lst ys₀) :: news))
    (J : Nat → List Value → Prop) (hJ : J 0 ys₀)
    (turn : ∀ i v ys own (s₁ : Shared) (Qf : Fin → Shared → Prop) (E' : Value → Shared → Prop), i < n → J i ys → Aft i v own → Same s s₁ → Cst s₁.heap → Fr h₀ L s₁.heap m → News h₀ L s₁.heap ((D, lst ys) :: (own ++ news)) → (∀ p ∈ own, p.1 ∈ Ow) →
      (∀ s₄ ys', Same s s₄ → Fr h₀ L s₄.heap m → News h₀ L s₄.heap ((D, lst ys') :: news) → Cst s₄.heap → J (i + 1) ys' → (∀ b o, b ≠ D → b ≠ L → b ∉ Ow → s₁.heap.get? b = some o → s₄.heap.get? b = some o) → Qf (.again (.compLoop e depth (.ref I) (.ref D) cenv)) s₄) →
      wpAny (model prog w) A body Qf E' s₁)
    (fin : ∀ h' tk ys, J n ys → Fr h₀ L h' m → News h₀ L h' ((D, lst ys) :: news) → Cst h' → R (.ok .next) { s with heap := h', toks := tk }) :
    codeAny (model prog w) A (.compLoop e depth (.ref I) (.ref D) cenv) R s := by
  have hD := N (D, lst ys₀) List.mem_cons_self
  have hDw : D ∉ wr := fun x => hDf (W.turns.sub _ x)
  have hLw : L ∉ wr := fun x => hLf (W.turns.sub _ x)
  have hOw : ∀ b ∈ Ow, b ∉ wr := fun b hb x => hOf b hb (W.turns.sub _ x)
  have base_wr : ∀ b o, h₀.get? b = some o → b ∉ wr := fun b o e hb => by rw [(hwr b hb).1] at e; cases e
  have base_Ow : ∀ b o, h₀.get? b = some o → b ∉ Ow := fun b o e hb => by rw [hO b hb] at e; cases e
  refine codeAny_loop hq (LoopXI h₀ L D m n St Cst news J s) ?_ (n + 1) ⟨0, ys₀, .refl s, Nat.zero_le _, rfl, hst, hC, F, N, hJ⟩
  rintro k s' ⟨i, ys, hs, hi, rfl, hst', hC', F', N', hJ'⟩
  rw [hund, hden]
  refine wpAny_noted ?_
  rw [hform]
  unfold turnK
  refine wpAny_bind (wpAny_standAt (wpAny_bind ?_))
  have next : ∀ h₁ : Heap, (∀ b o, b ∉ wr → s'.heap.get? b = some o → h₁.get? b = some o) → Fr h₀ L h₁ m ∧ News h₀ L h₁ ((D, lst ys) :: news) := fun h₁ hk₁ =>
    ⟨⟨F'.ns.at' fun o e => hk₁ L o hLw e, fun b o e => hk₁ b o (base_wr b o e) (F'.keep b o e), F'.above⟩, fun p hp => ⟨hk₁ _ _ (by
      rcases List.mem_cons.mp hp with rfl | hp
      · exact hDw
      · exact fun x => (hwr _ x).2 p hp rfl) (N' p hp).1, (N' p hp).2⟩⟩
  by_cases hlt : i < n
  · refine W.turns.item i _ _ _ hlt hst' fun v h₁ tk₁ hMd hk₁ => ?_
    refine wpAny_bind (W.turns.go i v _ _ _ hMd fun h₂ hP hst₂ hk₂ => ?_)
    have hC₂ : Cst h₂ := Y.frame _ _ hC' fun b hb o e => hk₂ b o (hOw b hb) (hk₁ b o (hOw b hb) e)
    refine wpAny_bind (Y.lay i v _ _ _ hP hC₂ fun h₃ tk₃ own hC₃ hA hown hk₃ => ?_)
    obtain ⟨F₂, N₂⟩ := next h₂ fun b o hb x => hk₂ b o hb (hk₁ b o hb x)
    have hst₃ : St (i + 1) h₃ := W.turns.frame _ _ _ hst₂ fun b hb o e => hk₃ b o (fun x => hOf b x hb) e
    have F₃ : Fr h₀ L h₃ m := ⟨F₂.ns.at' fun o e => hk₃ L o hLO e, fun b o e => hk₃ b o (base_Ow b o e) (F₂.keep b o e), F₂.above⟩
    have N₃ : News h₀ L h₃ ((D, lst ys) :: (own ++ news)) := fun p hp => by
      rcases List.mem_cons.mp hp with rfl | hp
      · exact ⟨hk₃ _ _ hDO (N₂ _ List.mem_cons_self).1, hD.2⟩
      · rcases List.mem_append.mp hp with hp | hp
        · exact ⟨(hown p hp).1, fun x => hLO (x ▸ (hown p hp).2), hO _ (hown p hp).2⟩
        · have z := N₂ p (List.mem_cons_of_mem _ hp)
          exact ⟨hk₃ _ _ (hO' p hp) z.1, z.2⟩
    rw [hifs]
    refine wpAny_bind (wpAny_tests_nil ?_)
    rw [if_pos rfl]
    refine turn i v ys own { s' with heap := h₃, toks := tk₃ } _ _ hlt hJ' hA (hs.trans (.mk s' _ _)) hC₃ F₃ N₃ (fun p hp => (hown p hp).2) fun s₄ ys' hs₄ F₄ N₄ hC₄ hJ₄ hk₄ => ?_
    exact ⟨rfl, n + 1 - (i + 1), by lia, i + 1, ys', hs₄, hlt, rfl, W.turns.frame _ _ _ hst₃ fun b hb o e => hk₄ b o (fun x => hDf (x ▸ hb)) (fun x => hLf (x ▸ hb)) (fun x => hOf b x hb) e, hC₄, F₄, N₄, hJ₄⟩
  · obtain rfl : i = n := Nat.le_antisymm hi (Nat.not_lt.mp hlt)
    refine W.turns.done _ _ _ hst' fun h₁ tk₁ hk₁ => wpAny_pure ?_
    obtain ⟨F₁, N₁⟩ := next h₁ hk₁
    obtain ⟨g, tk, rfl⟩ := hs
    exact fin h₁ tk₁ ys hJ' F₁ N₁ (Y.frame _ _ hC' fun b hb o e => hk₁ b o (hOw b hb) e)
end
end Mine
namespace Mine
section
variable {prog : Program} {w : World} {A : Around} {E : Value → Shared → Prop} {s : Shared} {h₀ : Heap} {L : Addr} {m : Str → Option Value} {env : Env}
variable {elt t1 it1 it2 : Expr} {x2 : Str} {px2 : Pos} {scope : Scope} {pos : Pos} {cl : List (Str × Addr)}
theorem lays2 {C : Addr} {P : Nat → Value → Heap → Prop} (KP : (Str → Option Value) → Prop) (hKP : ∀ m v, KP m → KP (fun z => if z = x2 then some v else m z)) (hkind : scope.kind = .function) (hx : scope.names.lookup x2 = some .local) :
    Lays prog w A (.Name x2 px2) (cenvOf scope cl C env) [C] P (fun h => ∃ m', h.Ns C m' ∧ KP m') (fun i v own => ∃ oC m', own = [(C, oC)] ∧ NsObj oC m' ∧ m' x2 = some v ∧ KP m' ∧ ∃ h, P i v h) where
  frame := fun h h' ⟨m', hn, hk⟩ hk' => ⟨m', hn.at' fun o e => hk' C (by simp) o e, hk⟩
  has := fun h ⟨m', hn, _⟩ b hb => by rw [List.mem_singleton.mp hb]; obtain ⟨o, _, _, e, _⟩ := hn; exact ⟨o, e⟩
  lay := fun i v s Q E hP ⟨m', hn, hk⟩ hQ => by
    refine wpAny_assign_Name (wpAny_storeName_local (lookup_relabel_local hx) hn (fun h' hn' hs' => ?_) (by simp [compEnvC, relabel, hkind]))
    obtain ⟨oC, e, hoC⟩ := ns_obj hn'
    refine hQ h' _ [(C, oC)] ⟨_, hn', hKP _ _ hk⟩ ⟨oC, _, rfl, hoC, by simp, hKP _ _ hk, _, hP⟩ (fun p hp => ?_) fun b o hb e => hs'.extBut b o (fun h => hb (by simp [h, compEnvC])) e
    rw [List.mem_singleton.mp hp]
    exact ⟨e, by simp⟩
noncomputable def Elt2 (h₀ : Heap) (L : Addr) (m : Str → Option Value) (s₂ : Shared) (D : Addr) (ys : List Value) (tail : List (Addr × Obj)) (J : List Value → Prop) (y : Value) (s₃ : Shared) : Prop :=
  Same s₂ s₃ ∧ Fr h₀ L s₃.heap m ∧ News h₀ L s₃.heap ((D, lst ys) :: tail) ∧ J (ys ++ [y])
inductive Inner2 (prog : Program) (w : World) (A : Around) (h₀ : Heap) (L : Addr) (m : Str → Option Value) (elt : Expr) (x2 : Str) (px2 : Pos) (cenv : Env) (D C : Addr) (oC : Obj) (ys : List Value) (news tail : List (Addr × Obj)) (Jn : List Value → Prop) (s₁ : Shared) (xv : Value) (s : Shared) : Prop
  | intro (hs : Same s₁ s) (fx : List Addr) (n : Nat) (P : Nat → Value → Heap → Prop) (J : Nat → List Value → Prop) (KP : (Str → Option Value) → Prop) (m' : Str → Option Value)
    (hst : Starts prog w A (.Name x2 px2) xv s [] fx n P) (F : Fr h₀ L s.heap m) (N : News h₀ L s.heap ((D, lst ys) :: (C, oC) :: (news ++ tail))) (hC : NsObj oC m') (hK : KP m') (hKP : ∀ m v, KP m → KP (fun z => if z = x2 then some v else m z)) (hfx : D ∉ fx ∧ C ∉ fx ∧ L ∉ fx) (hJ : J 0 ys) (hlen : ∀ i ys, J i ys → ys.length ≤ sizeLine)
    (turn : ∀ i v h ys oC m'' tail (s₂ : Shared) (E' : Value → Shared → Prop) (Qe : Value → Shared → Prop), i < n → NsObj oC m'' → m'' x2 = some v → Fr h₀ L s₂.heap m → News h₀ L s₂.heap ((D, lst ys) :: (C, oC) :: (news ++ tail)) → GoesOn h₀ L m s₂ D ys tail (J (i + 1)) Qe → KP m'' → P i v h → J i ys →
      wpAny (model prog w) A (eval elt cenv) Qe E' s₂)
    (fin : ∀ ys, J n ys → Jn ys)
theorem inner_run {C D : Addr} {oC : Obj} {ys : List Value} {news : List (Addr × Obj)} {nxt : Sem Fin} {Qf : Fin → Shared → Prop} {Jn : List Value → Prop}
    (hkind : scope.kind = .function) (hx : scope.names.lookup x2 = some .local) (F : Fr h₀ L s.heap m) (N : News h₀ L s.heap ((D, lst ys) :: (C, oC) :: news)) (hDC : D ≠ C) (hDn : ∀ p ∈ news, p.1 ≠ D) (hCn : ∀ p ∈ news, p.1 ≠ C)
    (h : wpAny (model prog w) A (eval it2 (cenvOf scope cl C env)) (Inner2 prog w A h₀ L m elt x2 px2 (cenvOf scope cl C env) D C oC ys news (rest h₀ s.heap L [D, C]) Jn s) E s)
    (hs : ∀ x, foldedSetIterable it2 (cenvOf scope cl C env) x = pure x)
    (hq : ∀ s₄ ys' m', Same s s₄ → Fr h₀ L s₄.heap m → News h₀ L s₄.heap ((D, lst ys') :: news) → s₄.heap.Ns C m' → Jn ys' → (∀ b o, b ≠ D → b ≠ L → b ∉ [C] → s.heap.get? b = some o → s₄.heap.get? b = some o) → wpAny (model prog w) A nxt Qf E s₄) :
    wpAny (model prog w) A (innerK elt t1 it1 (.Name x2 px2) it2 scope pos D (cenvOf scope cl C env) nxt) Qf E s := by
  unfold innerK
  have hD := N (D, lst ys) List.mem_cons_self
  have hC := N (C, oC) (List.mem_cons_of_mem _ List.mem_cons_self)
  refine wpAny_bind (wpAny_mono h (fun xv s₁ h₁ => ?_) fun _ _ e => e)
  obtain ⟨hsame, fx, n, P, J, KP, m', hst, F₁, N₁, hoC, hKm, hKP, ⟨fD, fC, fL⟩, hJ, hlen, turn, fin⟩ := h₁
  refine wpAny_bind (wpAny_standAt (wpAny_bind (wpAny_of_eq (hs xv) (wpAny_bind (wpAny_holding (hst _ _ fun I fp wr Md St hI W st hk hfp hwr hfx => ?_))))))
  have keep1 : ∀ b o, b ≠ L → b ∉ [D, C] → s.heap.get? b = some o → s₁.heap.get? b = some o := fun b o h1 h2 e => kept F₁ F (nSub N₁ fun p hp => by
    have := List.mem_append_right news (show p ∈ [] ++ rest h₀ s.heap L [D, C] from hp)
    exact List.mem_cons_of_mem _ (List.mem_cons_of_mem _ this)) (new := []) h1 h2 e
  have N2 := N₁.grown hk
  have F2 := F₁.keeps hk
  have hD1 := N₁ (D, lst ys) List.mem_cons_self
  have hC1 := N₁ (C, oC) (List.mem_cons_of_mem _ List.mem_cons_self)
  have nfp : ∀ {b : Addr} {o : Obj}, b ∉ fx → s₁.heap.get? b = some o → b ∉ fp := fun h1 e x => by
    rcases hfx _ x with y | y | y
    · exact h1 y
    · cases y
    · rw [e] at y; cases y
  obtain ⟨oL, _, _, eL, _⟩ := F₁.ns
  have nwr : ∀ {b : Addr} {o : Obj}, s₁.heap.get? b = some o → b ∉ wr := fun e x => by
    rcases hwr _ x with y | y
    · cases y
    · rw [e] at y; cases y
  refine wpAny_bind (wpAny_runOwn ?_)
  have Wself := W.self 0
  refine start_1 (R := _) ?_ (W.self 0 _ _ _ st ?_)
  all_goals
    refine loopG (s := { s₁ with heap := hI }) (mo₀ := []) (Mo := []) (Ow := [C]) (news := news) (ys₀ := ys) (turn_1 _ _ _) W (lays2 KP hKP hkind hx) (nfp fD hD1.1) (fun b hb => by rw [List.mem_singleton.mp hb]; exact nfp fC hC1.1) (nfp fL eL) (fun x => hDC (List.mem_singleton.mp x)) (fun x => hC.2.1 (List.mem_singleton.mp x).symm) (fun b hb => by rw [List.mem_singleton.mp hb]; exact hC.2.2)
      (fun b hb => ⟨?_, fun p hp e => ?_⟩) (fun p hp x => hCn p hp (List.mem_singleton.mp x)) hDn (fun b hb => nomatch hb) rfl st ⟨m', hoC.ns (N2 (C, oC) (List.mem_cons_of_mem _ List.mem_cons_self)).1, hKm⟩ F2 (fun p hp => ?_)
      (fun i ys mo made => made = [] ∧ J i ys) ⟨rfl, hJ⟩ (fun i v ys' mo made tail own s₃ E' hi hJ' hA hs₃ F₃ N₃ hmade hap hmo => ?_) fun h' tk ys' mo made hJ' F' N' hmo hm hC' hk' => ?_
    · cases e : h₀.get? b with
      | none => rfl
      | some o => exact absurd hb (nwr (F₁.keep b o e))
    · exact nwr (N₁ p (List.mem_cons_of_mem _ (List.mem_cons_of_mem _ (List.mem_append_left _ hp)))).1 (e ▸ hb)
    · rcases List.mem_cons.mp hp with rfl | hp
      · exact N2 _ List.mem_cons_self
      · exact N2 _ (List.mem_cons_of_mem _ (List.mem_cons_of_mem _ (List.mem_append_left _ hp)))
    · obtain ⟨rfl, hJ'⟩ := hJ'
      obtain ⟨oC', m'', rfl, hoC', hv, hKm', _, hP⟩ := hA
      obtain rfl : mo = [] := by simpa using hmo
      refine wpAny_tests_nil ?_
      rw [if_pos rfl]
      refine emit_wp (hlen _ _ hJ') (fun p hp => (hap p (List.mem_append_right _ (List.mem_append_right _ hp))).1) (fun x => nomatch x) ?_
      refine wpAny_mono (turn i v _ ys' oC' m'' tail s₃ E' (Elt2 h₀ L m s₃ D ys' tail (J (i + 1))) hi hoC' hv F₃ (by simpa using N₃) (fun y h' tk nw F' N' sub j => ⟨⟨h', tk, rfl⟩, F', nSub N' sub, j⟩) hKm' hP hJ') (fun y s₄ h₄ => ?_) fun _ _ e => e
      obtain ⟨hs₄, F₄, N₄, hJ₄⟩ := h₄
      exact ⟨hs₃.trans hs₄, [], [], F₄, by simpa using N₄, rfl, fun _ x => (nomatch x), rfl, hJ₄⟩
    · obtain ⟨rfl, hJ'⟩ := hJ'
      obtain ⟨m'', hn'', _⟩ := hC'
      obtain rfl : mo = [] := by simpa using hmo
      refine hq _ ys' m'' (hsame.trans ⟨_, _, rfl⟩) F' (by simpa using N') hn'' (fin _ hJ') fun b o h1 h2 h3 e => ?_
      have e1 := keep1 b o h2 (by
        simp only [List.mem_cons, List.mem_nil_iff, or_false, not_or] at h3 ⊢
        exact ⟨h1, h3⟩) e
      exact hk' b o (nwr e1) h3 (by simpa using h1) h2 (hk b o e1)
end
end Mine
namespace Mine
section
variable {prog : Program} {w : World} {A : Around} {E : Value → Shared → Prop} {s : Shared} {h₀ : Heap} {L : Addr} {m : Str → Option Value} {env : Env}
variable {elt t1 it1 it2 : Expr} {x2 : Str} {px2 : Pos} {scope : Scope} {pos : Pos} {cl : List (Str × Addr)}
inductive Src2 (prog : Program) (w : World) (A : Around) (h₀ : Heap) (L : Addr) (m : Str → Option Value) (elt t1 : Expr) (x2 : Str) (px2 : Pos) (it2 : Expr) (scope : Scope) (cl : List (Str × Addr)) (env : Env) (Fin : Shared → (List Value → Prop) → List (Addr × Obj) → Prop) (xv : Value) (s : Shared) : Prop
  | intro (own : List Addr) (n : Nat) (P : Nat → Value → Heap → Prop) (news : List (Addr × Obj)) (J : Nat → List Value → Prop) (Kd : Kind prog w A t1 scope cl env P) (fx : List Addr)
    (hst : Starts prog w A t1 xv s own fx n P) (F : Fr h₀ L s.heap m) (N : News h₀ L s.heap news) (hown : ∀ b ∈ own, h₀.get? b = none ∧ ∀ p ∈ news, p.1 ≠ b) (hJ : J 0 []) (hOw : ∀ C, Kd.Ow C = [C]) (hCst : ∀ C h m', h.Ns C m' → Kd.Cst C h) (hAft : ∀ C i v own', Kd.Aft C i v own' → ∃ oC, own' = [(C, oC)])
    (turn : ∀ D C oC i v ys tail (s₁ : Shared) (E' : Value → Shared → Prop), i < n → D ≠ C → (∀ p ∈ news, p.1 ≠ D ∧ p.1 ≠ C) → Fr h₀ L s₁.heap m → News h₀ L s₁.heap ((D, lst ys) :: (C, oC) :: (news ++ tail)) → Kd.Aft C i v [(C, oC)] → J i ys →
      wpAny (model prog w) A (eval it2 (cenvOf scope cl C env)) (Inner2 prog w A h₀ L m elt x2 px2 (cenvOf scope cl C env) D C oC ys news tail (J (i + 1)) s₁) E' s₁) (fin : Fin s (J n) news)
noncomputable def Fin2 (h₀ : Heap) (L : Addr) (m : Str → Option Value) (Q : Value → Shared → Prop) (s : Shared) (J : List Value → Prop) (news : List (Addr × Obj)) : Prop :=
  ∀ D h' tk ys, @LT.lt Nat _ L D → J ys → Fr h₀ L h' m → News h₀ L h' ((D, lst ys) :: news) → (∀ p ∈ news, p.1 ≠ D) → Q (.ref D) { s with heap := h', toks := tk }
noncomputable def FinA2 (h₀ : Heap) (L : Addr) (m : Str → Option Value) (y : Str) (Q : Flow → Shared → Prop) (s : Shared) (J : List Value → Prop) (news : List (Addr × Obj)) : Prop :=
  ∀ D h' tk ys, @LT.lt Nat _ L D → J ys → Fr h₀ L h' (fun z => if z = y then some (.ref D) else m z) → News h₀ L h' ((D, lst ys) :: news) → (∀ p ∈ news, p.1 ≠ D) → Q .next { s with heap := h', toks := tk }
theorem comp2_block {Fin : Shared → (List Value → Prop) → List (Addr × Obj) → Prop} {RR : Value → Addr → Result → Shared → Prop} {xv : Value} (hkind : scope.kind = .function) (hx : scope.names.lookup x2 = some .local)
    (h : Src2 prog w A h₀ L m elt t1 x2 px2 it2 scope cl env Fin xv s) (hs2 : ∀ C x, foldedSetIterable it2 (cenvOf scope cl C env) x = pure x)
    (hR : ∀ J news, Fin s J news → ∀ D C h' m' tk ys, @LT.lt Nat _ L D → J ys → Fr h₀ L h' m → News h₀ L h' ((D, lst ys) :: news) → (∀ p ∈ news, p.1 ≠ D) → (∀ p ∈ (D, lst ys) :: news, p.1 ≠ C) → h₀.get? C = none → C ≠ L → h'.Ns C m' → RR (.ref D) C (.ok .next) { s with heap := h', toks := tk }) :
    wpAny (model prog w) A (pyIter xv) (fun it s₂ => wpAny (model prog w) A (newList []) (fun acc s₃ => wpAny (model prog w) A (newFunctionEnv scope env.globals cl [] env.qual none .none (some env)) (fun cenv s₄ =>
      codeAny (model prog w) A (.compStart (lc2 elt t1 it1 (.Name x2 px2) it2 scope pos) 0 it acc { cenv with scope := relabel scope env }) (RR acc cenv.locals) s₄) E s₃) E s₂) E s := by
  obtain ⟨own, n, P, news, J, Kd, fx, hst, F, N, hown, hJ, hOwC, hCstC, hAftC, turn, fin⟩ := h
  refine hst _ _ fun I fp wr Md St h W st hk hfp hwr hfx => ?_
  have wr₀ : ∀ b ∈ wr, h₀.get? b = none ∧ ∀ p ∈ news, p.1 ≠ b := fun b hb => by
    rcases hwr b hb with x | x
    · exact hown b x
    · refine ⟨?_, fun p hp => ?_⟩
      · cases e : h₀.get? b with
        | none => rfl
        | some o => rw [F.keep b o e] at x; cases x
      · rintro rfl
        rw [(N p hp).1] at x
        cases x
  have hfs : ∀ b ∈ fp, b < h.objs.size := fun b hb => (hfp b hb).1
  have hLf : L ∉ fp := fun x => (hfp L x).2 m (F.keeps hk).ns
  have F1 := F.keeps hk
  have N1 := N.grown hk
  clear hfp hwr hfx hst
  refine wpAny_newObj_type (newEnv_comp ?_)
  have hL : L < h.objs.size := F1.ns.lt
  have hDC : (h.push (lst [])).objs.size = h.objs.size + 1 := Heap.size_push ..
  have old : ∀ b o, h.get? b = some o → (pushCells ((h.push (lst [])).push { cls := .type "dict", data := .dict #[] }) scope.names).get? b = some o := fun b o e => pushCells_keeps _ _ _ _ (Heap.get?_push_of_some _ (Heap.get?_push_of_some _ e))
  have fresh₀ : ∀ a, h.objs.size ≤ a → h₀.get? a = none := fun a ha => by
    cases e : h₀.get? a with
    | none => rfl
    | some o' => have := F1.keep a o' e; rw [Heap.get?_none_of_le ha] at this; cases this
  have hnews : ∀ p ∈ news, p.1 < h.objs.size := fun p hp => Heap.lt_size (N1 p hp).1
  have hCne : (h.push (lst [])).objs.size ≠ h.objs.size := by rw [hDC]; exact Nat.succ_ne_self _
  have hCgt : ∀ b, b < h.objs.size → b ≠ (h.push (lst [])).objs.size := fun b hb => by rw [hDC]; exact Nat.ne_of_lt (Nat.lt_succ_of_lt hb)
  have hC0 : h₀.get? (h.push (lst [])).objs.size = none := fresh₀ _ (by rw [hDC]; exact Nat.le_succ _)
  show codeAny _ _ (.compStart _ 0 (.ref I) (.ref h.objs.size) (cenvOf scope cl (h.push (lst [])).objs.size env)) _ _
  refine codeAny_compStart_list (R := RR (.ref h.objs.size) (h.push (lst [])).objs.size) ?_ (W.self 0 _ _ _ (W.turns.frame _ _ _ st fun b _ o e => old b o e) ?_)
  all_goals
    refine loopX (turn_0 _ _ _) rfl rfl rfl rfl W (Kd.lays _) (fun x => Nat.lt_irrefl _ (hfs _ x)) (fun b hb x => ?_) hLf ?_ ?_ (fun b hb => ?_) wr₀ (fun p hp x => ?_) (W.turns.frame _ _ _ st fun b _ o e => old b o e) (Kd.start _) (F1.keeps old) (fun p hp => ?_) J hJ
      (fun i v ys own' s₁ Qf E' hi hJi hA hs₁ hCs F₁ N₁ hOw cont => ?_) fun h' tk ys hJ' F' N' hC' => ?_
    · rw [hOwC] at hb
      rw [List.mem_singleton.mp hb] at x
      exact hCgt _ (hfs _ x) rfl
    · rw [hOwC]
      exact fun x => hCne (List.mem_singleton.mp x).symm
    · rw [hOwC]
      exact fun x => hCgt L hL (List.mem_singleton.mp x)
    · rw [hOwC] at hb
      rw [List.mem_singleton.mp hb]
      exact hC0
    · rw [hOwC] at x
      exact hCgt _ (hnews p hp) (List.mem_singleton.mp x)
    · rcases List.mem_cons.mp hp with rfl | hp
      · exact ⟨pushCells_keeps _ _ _ _ (Heap.get?_push_of_some _ (Heap.get?_push_size _ rfl)), Nat.ne_of_gt hL, fresh₀ _ (Nat.le_refl _)⟩
      · exact ⟨old _ _ (N1 p hp).1, (N1 p hp).2⟩
    · obtain ⟨oC, rfl⟩ := hAftC _ _ _ _ hA
      have hnDC : ∀ p ∈ news, p.1 ≠ h.objs.size ∧ p.1 ≠ (h.push (lst [])).objs.size := fun p hp => ⟨Nat.ne_of_lt (hnews p hp), hCgt _ (hnews p hp)⟩
      have N₂ : News h₀ L s₁.heap ((h.objs.size, lst ys) :: ((h.push (lst [])).objs.size, oC) :: (news ++ rest h₀ s₁.heap L [h.objs.size, (h.push (lst [])).objs.size])) := fun p hp => by
        rcases List.mem_cons.mp hp with rfl | hp
        · exact N₁ _ List.mem_cons_self
        · rcases List.mem_cons.mp hp with rfl | hp
          · exact N₁ _ (List.mem_cons_of_mem _ (by simp))
          · rcases List.mem_append.mp hp with hp | hp
            · exact N₁ p (List.mem_cons_of_mem _ (List.mem_append_right _ hp))
            · exact rest_news p hp
      refine inner_run (news := news) hkind hx F₁ (by simpa using N₁) (Ne.symm hCne) (fun p hp => (hnDC p hp).1) (fun p hp => (hnDC p hp).2) (turn _ _ oC i v ys _ s₁ E' hi (Ne.symm hCne) hnDC F₁ N₂ hA hJi) (hs2 _) fun s₄ ys' m' hs₄ F₄ N₄ hn₄ hJ₄ hk₄ => ?_
      exact wpAny_pure (cont s₄ ys' (hs₁.trans hs₄) F₄ N₄ (hCstC _ _ _ hn₄) hJ₄ (by rw [hOwC]; exact hk₄))
    · obtain ⟨m', hm'⟩ := Kd.ns _ _ hC'
      refine hR _ _ fin _ _ h' m' tk ys hL hJ' F' N' (fun p hp => Nat.ne_of_lt (hnews p hp)) (fun p hp => ?_) hC0 (fun x => hCgt L hL x.symm) hm'
      rcases List.mem_cons.mp hp with rfl | hp
      · exact Ne.symm hCne
      · exact hCgt _ (hnews p hp)
theorem comp2 {Q : Value → Shared → Prop} (_F₀ : Fr h₀ L s.heap m) (hclos : closureFor scope env = pure cl) (hkind : scope.kind = .function) (hx : scope.names.lookup x2 = some .local) (hnames : ∀ y ∈ scope.names, y.2 = .local → scope.names.lookup y.1 = some .local)
    (h : wpAny (model prog w) A (eval it1 env) (Src2 prog w A h₀ L m elt t1 x2 px2 it2 scope cl env (Fin2 h₀ L m Q)) E s)
    (hs : ∀ x, foldedSetIterable it1 env x = pure x := by intro _; rfl) (hs2 : ∀ C x, foldedSetIterable it2 (cenvOf scope cl C env) x = pure x := by intro _ _; rfl) :
    wpAny (model prog w) A (eval (lc2 elt t1 it1 (.Name x2 px2) it2 scope pos) env) Q E s := by
  rw [eval_ListComp]
  refine wpAny_comprehension_free (use := none) rfl hs hclos hkind hnames (wpAny_mono h (fun xv s₁ h₁ => ?_) fun _ _ e => e)
  refine comp2_block (RR := fun acc C => compPost (model prog w) A E none Q acc C) hkind hx h₁ hs2 fun J news fin D C h' m' tk ys hLD j F' N' o1 o2 o3 o4 o5 => ?_
  exact ⟨m', o5, fun h'' hs'' => fin D h'' tk ys hLD j (F'.change hs'' o4 o3) (fun p hp => ⟨hs''.extBut _ _ (o2 p hp) (N' p hp).1, (N' p hp).2⟩) o1⟩
theorem assign2 {y : Str} {py spos : Pos} {Q : Flow → Shared → Prop} (_F₀ : Fr h₀ L s.heap m) (hLe : env.locals = L)
    (hsw : swapsWith (lc2 elt t1 it1 (.Name x2 px2) it2 scope pos) (some (.Name y py)) spos.line env = pure true)
    (hclos : closureFor scope env = pure cl) (hkind : scope.kind = .function) (hx : scope.names.lookup x2 = some .local) (hnames : ∀ y ∈ scope.names, y.2 = .local → scope.names.lookup y.1 = some .local)
    (hy : env.kindOf y = some .local) (hp : (env.scope.kind == .class || (env.scope.kind == .module && env.locals != env.globals)) = false)
    (h : wpAny (model prog w) A (eval it1 env) (Src2 prog w A h₀ L m elt t1 x2 px2 it2 scope cl env (FinA2 h₀ L m y Q)) E s)
    (hs : ∀ x, foldedSetIterable it1 env x = pure x := by intro _; rfl) (hs2 : ∀ C x, foldedSetIterable it2 (cenvOf scope cl C env) x = pure x := by intro _ _; rfl) :
    wpAny (model prog w) A (exec (.Assign [.Name y py] (lc2 elt t1 it1 (.Name x2 px2) it2 scope pos) spos) env) Q E s := by
  subst hLe
  rw [exec_Assign_Name_used _ _ _ _ hsw]
  refine wpAny_bind (wpAny_standAt (wpAny_bind ?_))
  show wpAny _ A (do let _ ← comprehension (lc2 elt t1 it1 (.Name x2 px2) it2 scope pos) scope env _ (newList []) false (eval it1 env) (some (assign (.Name y py) env))) _ _ s
  refine wpAny_bind (wpAny_mono (wpAny_comprehension_free (use := some (assign (.Name y py) env)) (Q := fun _ s' => Q .next s') rfl hs hclos hkind hnames
    (wpAny_mono h (fun xv s₁ h₁ => ?_) fun _ _ e => e)) (fun _ s' hq => wpAny_pure (wpAny_pure hq)) fun _ _ e => e)
  refine comp2_block (RR := fun acc C => compPost (model prog w) A E (some (assign (.Name y py) env)) (fun _ s' => Q .next s') acc C) hkind hx h₁ hs2 fun J news fin D C h' m' tk ys hLD j F' N' o1 o2 o3 o4 o5 => ?_
  show wpAny _ A (assign (.Name y py) env (.ref D)) _ _ _
  refine wpAny_assign_Name (wpAny_storeName_local hy F'.ns (fun h₂ hn₂ hs₂ => ?_) hp)
  have hL₀ : h₀.get? env.locals = none := Heap.get?_none_of_le F'.above
  have F₂ : Fr h₀ env.locals h₂ (fun z => if z = y then some (.ref D) else m z) := ⟨hn₂, fun b o e => hs₂.extBut b o (fun q => by rw [q, hL₀] at e; cases e) (F'.keep b o e), F'.above⟩
  exact ⟨m', o5.sameBut hs₂ o4, fun h'' hs'' => fin D h'' _ ys hLD j (F₂.change hs'' o4 o3) (fun p hp => ⟨hs''.extBut _ _ (o2 p hp) (hs₂.extBut _ _ (N' p hp).2.1 (N' p hp).1), (N' p hp).2⟩) o1⟩
end
end Mine
namespace Mine
local macro_rules | `(tactic| walk_at "no such place") => `(tactic| fail)
local macro_rules | `(tactic| k_handed) => `(tactic| assumption)
local macro_rules | `(tactic| walk_at $k) => Mine.stopAt ["exec Assign cons ListComp", "call type:enumerate"] k
theorem aft_pair {prog : Program} {w : World} {A : Around} {x y : Str} {px py tp : Pos} {tk : Nat} {scope : Scope} {cl : List (Str × Addr)} {env : Env} {P : Nat → Value → Value → Prop} {hh : A.handled = none} {hkind : scope.kind = .function} {hx : scope.names.lookup x = some .local} {hy : scope.names.lookup y = some .local} {hxy : x ≠ y} {C : Addr} {i : Nat} {v : Value} {oC : Obj}
    (h : (kindPair (prog := prog) (w := w) x y px py tp tk scope cl env P hh hkind hx hy hxy).Aft C i v [(C, oC)]) : ∃ mC a b, NsObj oC mC ∧ mC x = some a ∧ mC y = some b ∧ P i a b := by
  obtain ⟨oC', mC, a, b, ho, hC, ha, hb, hv⟩ := h
  obtain rfl : oC' = oC := by simpa using ho.symm
  exact ⟨mC, a, b, hC, ha, hb, hv⟩
theorem letters_sz {k : Nat} (hk : k ≤ 11) : (([97, 98, 99, 100, 101, 102, 104, 105, 106, 108, 111] : List Nat).take k).toArray.size = k := by simp; lia
theorem letter_at {k j c : Nat} (hk : k ≤ 11) (hj : j < k) (hc : (⟨(([97, 98, 99, 100, 101, 102, 104, 105, 106, 108, 111] : List Nat).take k).toArray⟩ : Str).cps[j]? = some c) : c = lc j := by
  have h11 : j < 11 := by lia
  have e : (([97, 98, 99, 100, 101, 102, 104, 105, 106, 108, 111] : List Nat).take k)[j]? = some (lc j) := by
    rw [List.getElem?_take_of_lt hj]
    exact (by decide : ∀ j : Nat, j < 11 → ([97, 98, 99, 100, 101, 102, 104, 105, 106, 108, 111] : List Nat)[j]? = some (lc j)) j h11
  have hc' : (([97, 98, 99, 100, 101, 102, 104, 105, 106, 108, 111] : List Nat).take k)[j]? = some c := by simpa using hc
  rw [e] at hc'
  exact (Option.some.inj hc').symm
theorem every_step {mn : List Nat} {i j c : Nat} {ys : List Value} (hi5 : i < 5) (hc : c = lc j) (h : StrsAre ys ((everyP mn i).map mkS ++ (List.range j).map fun j => mkS [kc i, lc j])) (t : Tok) :
    StrsAre (ys ++ [.str (Txt.item (Str.ofString "kmnpg") (i : Int) ++ ⟨#[c]⟩) t]) ((everyP mn i).map mkS ++ (List.range (j + 1)).map fun j => mkS [kc i, lc j]) := by
  rw [item_k i hi5, hc, List.range_succ, List.map_append, ← List.append_assoc]
  exact strs_snoc h
theorem starts_nat_pairs {ms : List Value} {mn : List Nat} {i : Nat} {b : Value} (hms : IntsAre ms (mn.map Int.ofNat)) (hi : i < mn.length) (hb : ms.toArray[i]? = some b) : ∃ k t, b = .int (Int.ofNat k) t ∧ mn[i]? = some k := by
  obtain ⟨x, tx, rfl, hxn⟩ := ints_mem hms i b (by rw [← List.getElem?_toArray]; exact hb)
  rw [List.getElem?_map, List.getElem?_eq_getElem hi] at hxn
  exact ⟨mn[i], tx, by rw [← Option.some.inj hxn], List.getElem?_eq_getElem hi⟩
theorem lseg6 {prog : Program} {w : World} {A : Around} {E : Value → Shared → Prop} {s : Shared} {g : Heap} {mean : ExcName → Option Value} {mg mb : PySem.Str → Option Value} {ls : List Str} {Q : Flow → Shared → Prop}
   {L f r : Addr} {cdv : Value} {R : List (Addr × Obj)} {m : Str → Option Value} {ms : List Value} {mn : List Nat} {va vb : Value}
   (X' : (K w.params).In g) (T' : Top topProg ls mean mg mb g) (hh : A.handled = none) (hd : A.depth + 100 < recursionLimit) (hu : A.units + 300 < cLine)
   (F : Fr g L s.heap m) (hm : Holds m [(Str.ofString "cells", va), (Str.ofString "most", vb), (Str.ofString "moduli", .ref r)])
   (N : News g L s.heap ((r, W.listOf ms.toArray 0) :: R)) (hms : IntsAre ms (mn.map Int.ofNat)) (hml : mn.length ≤ 5) (hmn : ∀ z ∈ mn, 1 < z ∧ z ≤ 11)
   (hQ : ∀ (h' : Heap) (tk : Nat) (m' : Str → Option Value) (V0 : Addr) (es : List Value), Fr g L h' m' → Holds m' [(Str.ofString "cells", va), (Str.ofString "most", vb), (Str.ofString "moduli", .ref r), (Str.ofString "every", .ref V0)] →
      News g L h' ((V0, lst es) :: (r, W.listOf ms.toArray 0) :: R) → StrsAre es ((everyP mn mn.length).map mkS) → (∀ p ∈ (r, W.listOf ms.toArray 0) :: R, p.1 ≠ V0) →
      wpAny (model prog w) (A.deeper (env217 L f cdv)) (execs (b217.drop 7) (env217 L f cdv)) Q E { s with heap := h', toks := tk }) :
   wpAny (model prog w) (A.deeper (env217 L f cdv)) (execs (b217.drop 6) (env217 L f cdv)) Q E s := by
  have F1 := pins F hm
  clear F hm
  rw [show b217.drop 6 = nth b217 6 :: b217.drop 7 from rfl]
  generalize b217.drop 7 = rst at *
  rw [show nth b217 6 = _ from (by conv => lhs; whnf)]
  unfold env217 at *
  rw [show sc217 = _ from (by conv => lhs; whnf)] at *
  k_steps
  rename Fr _ _ _ _ => F2
  rename News _ _ _ _ => N2
  refine' Stop.mk (assign2 (cl := []) F2 rfl ?k1 ?k2 rfl rfl ?k3 rfl rfl ?_)
  case k1 => rfl
  case k2 => rfl
  case k3 => decide
  k_steps
  refine Stop.mk (enumN F2 N2 (its := ms.toArray) (n := mn.length) ⟨_, N2.get (a := r) (by k_mem), rfl, _, rfl⟩ (by rw [List.size_toArray, hms.length, List.length_map]) fun e it h13 F13 N13 hst hown => ?_)
  clear F2 N2
  refine ⟨[e, it], mn.length, PairAt (fun j a b => ∃ t, ms.toArray[j]? = some b ∧ a = .int (j : Nat) t), _, fun i ys => i ≤ mn.length ∧ StrsAre ys ((everyP mn i).map mkS),
    kindPair _ _ _ _ _ _ _ _ _ (fun j a b => ∃ t, ms.toArray[j]? = some b ∧ a = .int (j : Nat) t) hh rfl rfl rfl (by decide), [r], hst _ _ _ _ hh, F13, N13, hown, ⟨Nat.zero_le _, .nil⟩, fun _ => rfl, fun C h m' hn => ⟨m', hn⟩, ?_, ?_, ?_⟩
  · rintro C i v own' ⟨oC, m', a, b, rfl, _⟩
    exact ⟨oC, rfl⟩
  · intro D C oC i v ys tail s₁ E' hi hDC hnD F₁ N₁ hA hj
    obtain ⟨mC, a, b, hC, hCa, hCb, ta, hb, rfl⟩ := aft_pair hA
    obtain ⟨k, tx, rfl, hk⟩ := starts_nat_pairs hms hi hb
    have hk11 := (hmn k (List.mem_of_getElem? hk)).2
    obtain ⟨hi2, hys⟩ := hj
    clear F13 N13 hA hb
    k_steps
    rename_i h14 t14 tk14 F14 N14
    have hz : Txt.slice (Str.ofString "abcdefhijlo") none (some (Int.ofNat k)) = ⟨(([97, 98, 99, 100, 101, 102, 104, 105, 106, 108, 111] : List Nat).take k).toArray⟩ := slice_take (l := [97, 98, 99, 100, 101, 102, 104, 105, 106, 108, 111]) (j := k) (by simp; lia)
    rw [hz]
    have hi5 : i < 5 := Nat.lt_of_lt_of_le hi hml
    refine ⟨⟨_, _, rfl⟩, [], k, fun j v _ => SignAt ⟨(([97, 98, 99, 100, 101, 102, 104, 105, 106, 108, 111] : List Nat).take k).toArray⟩ j v, fun j ys => j ≤ k ∧ StrsAre ys ((everyP mn i).map mkS ++ (List.range j).map fun j => mkS [kc i, lc j]), fun m => m (Str.ofString "k") = some (.int (i : Nat) ta), mC, ?_, F14, N14, hC, hCa, ?_, ⟨List.not_mem_nil, List.not_mem_nil, List.not_mem_nil⟩, ⟨Nat.zero_le _, by simpa using hys⟩, ?_, ?_, ?_⟩
    · exact starts_str' (letters_sz hk11) hh
    · intro m v h
      show (if Str.ofString "k" = Str.ofString "letter" then some v else m (Str.ofString "k")) = _
      rw [if_neg (by decide)]
      exact h
    · rintro j ys ⟨hj, hs⟩
      have h1 := hs.length
      have h2 := every_len mn (fun z hz => (hmn z hz).2) i hi2
      simp only [List.length_append, List.length_map, List.length_range] at h1
      exact Nat.le_trans (by lia : ys.length ≤ 100) (by decide)
    · intro j v _ ys' oC2 m2 tail2 s₂ E2 Qe hj hC2 hv2 F₂ N₂ hq hk2 hP hys'
      obtain ⟨c, u, hc, rfl⟩ := hP
      have hk3 : m2 (Str.ofString "k") = some (.int (i : Nat) ta) := hk2
      clear F14 N14 hk2
      k_steps
      rename Fr _ _ _ _ => F5
      rename News _ _ _ _ => N5
      exact hq _ _ _ _ F5 N5 (sub_pre [] _ _ _ _) ⟨hj, every_step hi5 (letter_at hk11 hj hc) hys'.2 _⟩
    · rintro ys' ⟨_, hys'⟩
      refine ⟨hi, ?_⟩
      rw [every_succ, List.map_append, List.getD_eq_getElem?_getD, hk, List.map_map]
      exact hys'
  · intro V0 h7 tk7 ys hLD hj F7 N7 hap7
    clear F13 N13
    exact hQ _ _ _ V0 ys F7 ⟨rfl, rfl, rfl, rfl, trivial⟩ N7 hj.2 hap7
end Mine
namespace Mine
local macro_rules | `(tactic| walk_at "no such place") => `(tactic| fail)
local macro_rules | `(tactic| k_all) => `(tactic| first | assumption | (refine' all_cons ?a ?b; (case a => k_ne); (case b => k_all)))
local macro_rules | `(tactic| k_handed) => `(tactic| assumption)
local macro_rules | `(tactic| walk_at $k) => Mine.stopAt ["eval ListComp", "subscriptTail Name Slice ref ref", "binaryOp Add ref ref"] k
local macro_rules | `(tactic| walk_at "eval Name") => `(tactic| (k_here; (with_reducible show wpAny _ _ (eval (Expr.Name (Str.ofString "count") _) (cenvOf _ _ _ _)) _ _ _); walk_at "nf"))
theorem ints_drop {vs : List Value} {ns : List Int} (h : IntsAre vs ns) : ∀ n, IntsAre (vs.drop n) (ns.drop n) := by
  induction h with
  | nil => intro n; rw [List.drop_nil, List.drop_nil]; exact .nil
  | cons x t r ih =>
    intro n
    cases n with
    | zero => exact .cons x t r
    | succ n => exact ih n
theorem ints_take {vs : List Value} {ns : List Int} (h : IntsAre vs ns) : ∀ n, IntsAre (vs.take n) (ns.take n) := by
  induction h with
  | nil => intro n; rw [List.take_nil, List.take_nil]; exact .nil
  | cons x t r ih =>
    intro n
    cases n with
    | zero => exact .nil
    | succ n => exact .cons x t (ih n)
theorem run_N {prog : Program} {w : World} {A : Around} {E : Value → Shared → Prop} {s : Shared} {g : Heap} {Q : Value → Shared → Prop} {L : Addr} {m : Str → Option Value} {news : List (Addr × Obj)} {value slice : Expr} {l : Addr} {vs : List Value} {a b : Nat} {lo hi : Int} {t u : Tok} (F : Fr g L s.heap m) (N : News g L s.heap news) (hl : s.heap.IsList l vs.toArray) (elo : lo = (a : Int)) (ehi : hi = (b : Int)) (hb : b ≤ vs.length) (hab : a ≤ b) (hsz : vs.length ≤ 1000)
    (h : ∀ (D : Addr) (h' : Heap), Fr g L h' m → News g L h' ((D, W.listOf ((vs.drop a).take (b - a)).toArray 0) :: news) → (∀ p ∈ news, p.1 < D) → Q (.ref D) { s with heap := h' })
    (hs : subscripted slice false (.ref l) (.ref s.heap.objs.size) = operate [.ref s.heap.objs.size, .ref l] (getItem (.ref l) (.ref s.heap.objs.size)) := by with_unfolding_all rfl)
    (ht : ∀ r, letTemporaryGo value (.ref l) r = pure () := by intro _; with_unfolding_all rfl) :
    wpAny (model prog w) A (subscriptTail value slice (.ref l) (.ref s.heap.objs.size)) Q E { s with heap := s.heap.push { cls := .type "slice", data := .fields #[.int lo t, .int hi u, .none] } } := by
  subst elo ehi
  exact slice_list (hsz := by rw [List.size_toArray]; exact Nat.le_trans hsz (by decide)) F N hl (.int _ _) (.int _ _) (fun h' F' N' => h _ h' F' (by
    rw [slicePick_run vs.toArray a b (by simpa using hb) hab] at N'
    exact N') fun p hp => Nat.lt_succ_of_lt (lt_new N (Nat.le_refl _) p hp)) hs ht
theorem sick_snoc {zs : List Value} {sk : List Nat} {c count : Nat} (h : IntsAre zs (sk.map Int.ofNat)) (hs : ∀ p ∈ sk, p < count) (hlt : Int.fmod (Int.ofNat c) ((count : Int) + 1) < (count : Int)) (t : Tok) : ∃ sk' : List Nat, IntsAre (zs ++ [.int (Int.fmod (Int.ofNat c) ((count : Int) + 1)) t]) (sk'.map Int.ofNat) ∧ ∀ p ∈ sk', p < count := by
  have hy : Int.fmod (Int.ofNat c) ((count : Int) + 1) = ((c % (count + 1) : Nat) : Int) := fmod_nat c (count + 1)
  refine ⟨sk ++ [c % (count + 1)], ?_, fun p hp => ?_⟩
  · rw [List.map_append, hy]
    exact ints_snoc h _ _
  · rcases List.mem_append.mp hp with hp | hp
    · exact hs p hp
    · rw [List.mem_singleton.mp hp]
      rw [hy] at hlt
      exact Int.ofNat_lt.mp hlt
theorem run_le {α : Type} {l : List α} {most : Nat} (hm : 1 ≤ most) : ((l.drop 3).take (2 + most - 3)).length ≤ most - 1 := by
  rw [List.length_take]
  lia
theorem lseg8 {prog : Program} {w : World} {A : Around} {E : Value → Shared → Prop} {s : Shared} {g : Heap} {mean : ExcName → Option Value} {mg mb : PySem.Str → Option Value} {ls : List Str} {Q : Flow → Shared → Prop}
   {L f D : Addr} {cdv : Value} {o3 o6 : Obj} {u6 : Option Value} {R : List (Addr × Obj)} {m : Str → Option Value} {ys : List Value} {cs : List Nat} {count most : Nat} {t3 t4 : Tok} {va vb : Value}
   (X' : (K w.params).In g) (T' : Top topProg ls mean mg mb g) (hh : A.handled = none) (hd : A.depth + 100 < recursionLimit) (hu : A.units + 300 < cLine)
   (F : Fr g L s.heap m) (hm : Holds m [(Str.ofString "cells", .ref D), (Str.ofString "most", .int (most : Nat) t4), (Str.ofString "every", va), (Str.ofString "agents", vb)])
   (N : News g L s.heap ((D, lst ys) :: (L + 1 + 1 + 1, o3) :: (L + 1 + 1 + 1 + 1 + 1 + 1, o6) :: R)) (h3 : o3.data = .cell (some (.int (count : Nat) t3))) (h6 : o6.data = .cell u6)
   (hys : IntsAre ys (cs.map Int.ofNat)) (hcs : cs.length = 6) (hc0 : 5 ≤ count) (hc1 : count ≤ 8) (hm0 : 1 ≤ most) (hm1 : most ≤ 3) (hR6 : ∀ p ∈ (D, lst ys) :: R, p.1 ≠ L + 1 + 1 + 1 + 1 + 1 + 1)
   (hQ : ∀ (h' : Heap) (tk : Nat) (m' : Str → Option Value) (K0 : Addr) (ks : List Value) (sk : List Nat) (o6' : Obj), Fr g L h' m' → Holds m' [(Str.ofString "cells", .ref D), (Str.ofString "every", va), (Str.ofString "agents", vb)] →
      News g L h' ((K0, W.listOf ks.toArray 0) :: (D, lst ys) :: (L + 1 + 1 + 1, o3) :: (L + 1 + 1 + 1 + 1 + 1 + 1, o6') :: R) → o6'.data = .cell (some (.ref K0)) → IntsAre ks (sk.map Int.ofNat) → 1 ≤ sk.length → sk.length ≤ most → (∀ p ∈ sk, p < count) → (∀ p ∈ (D, lst ys) :: (L + 1 + 1 + 1, o3) :: (L + 1 + 1 + 1 + 1 + 1 + 1, o6) :: R, p.1 ≠ K0) →
      wpAny (model prog w) (A.deeper (env217 L f cdv)) (execs (b217.drop 9) (env217 L f cdv)) Q E { s with heap := h', toks := tk }) :
   wpAny (model prog w) (A.deeper (env217 L f cdv)) (execs (b217.drop 8) (env217 L f cdv)) Q E s := by
  have F1 := pins F hm
  clear F hm
  rw [show b217.drop 8 = nth b217 8 :: b217.drop 9 from rfl]
  generalize b217.drop 9 = rst at *
  rw [show nth b217 8 = _ from (by conv => lhs; whnf)]
  unfold env217 at *
  rw [show sc217 = _ from (by conv => lhs; whnf)] at *
  obtain ⟨hl, hg⟩ := ints_get hys
  k_steps
  rename Fr _ _ _ _ => F2
  rename News _ _ _ _ => N2
  refine' Stop.mk (compOfT (cl := [(Str.ofString "count", L + 1 + 1 + 1)]) F2 ?k1 rfl ?k3 rfl ?_)
  case k1 => exact rfl
  case k3 => decide
  k_steps
  rename_i S1 h1 q1
  have hyl : ys.length = 6 := by rw [hl, List.length_map, hcs]
  refine Stop.mk (run_N (a := 3) (b := 2 + most) (vs := ys) F2 N2 ⟨_, N2.get (a := D) (by k_mem), rfl, _, rfl⟩ rfl (by lia) (by lia) (by lia) (by lia) fun D3 h3' F3 N3 l3 => ?_)
  have l3' := allLt_of l3
  simp only [AllLt] at l3'
  clear F2 N2
  have hsl := ints_take (ints_drop hys 3) (2 + most - 3)
  rw [← List.map_drop, ← List.map_take] at hsl
  have hul := run_le (l := cs) hm0
  generalize (cs.drop 3).take (2 + most - 3) = us' at *
  generalize (ys.drop 3).take (2 + most - 3) = us at *
  refine ⟨[], us'.length, _, _, fun i zs => zs.length ≤ i ∧ i ≤ us'.length ∧ ∃ sk : List Nat, IntsAre zs (sk.map Int.ofNat) ∧ ∀ p ∈ sk, p < count,
    [D3], starts_nats hh N3 (by k_mem) hsl, F3, N3, (fun _ h => nomatch h), ⟨Nat.le_refl _, Nat.zero_le _, [], .nil, fun _ h => nomatch h⟩, ?_, ?_, ?_⟩
  · rintro i zs ⟨h, h2, _⟩
    exact Nat.le_trans (Nat.le_trans h (Nat.le_trans h2 (Nat.le_trans hul (Nat.le_trans (Nat.sub_le _ _) hm1)))) (by decide)
  · intro D4 C oC mC i v _ zs tail s₁ E' Qe Qs hi hC hCv F₁ N₁ hap hq hq' hP hj
    obtain ⟨c, tx, hc, rfl⟩ := hP
    have N₂ := N₁
    rw [List.cons_append, List.cons_append, List.cons_append, List.cons_append] at N₂
    clear F3 N3
    k_steps
    · rename Int.fmod _ _ < _ => hlt
      obtain ⟨hlen, hile, sk, hzs, hskc⟩ := hj
      exact hq _ _ _ _ F₁ N₁ (sub_pre [] _ _ _ _) ⟨by rw [List.length_append]; exact Nat.succ_le_succ hlen, hi, sick_snoc hzs hskc hlt _⟩
    · obtain ⟨hlen, hile, hz⟩ := hj
      exact hq' _ _ _ F₁ N₁ (sub_pre [] _ _ _ _) ⟨Nat.le_succ_of_le hlen, hi, hz⟩
  · intro D4 h7 tk7 zs hLD F7 N7 hap7 hj
    obtain ⟨hlen, hile, sk, hzs, hskc⟩ := hj
    clear F3 N3
    have q0 : ((List.map Int.ofNat cs).getD (Int.toNat 2) 0).fmod ((count : Nat) : Int) = ((cs.getD 2 0 % count : Nat) : Int) := by rw [getD_nat, fmod_nat]; rfl
    have e0lt : cs.getD 2 0 % count < count := Nat.mod_lt _ (by lia)
    rw [q0] at N7 hap7
    generalize cs.getD 2 0 % count = e0 at *
    have nS : @Ne Nat S1 D4 := hap7 _ (List.mem_cons_of_mem _ List.mem_cons_self)
    have nc : @Ne Nat (L + 1 + 1 + 1 + 1 + 1 + 1) D4 := hap7 (L + 1 + 1 + 1 + 1 + 1 + 1, o6) (by k_mem)
    have hDc : @Ne Nat D (L + 1 + 1 + 1 + 1 + 1 + 1) := hR6 _ List.mem_cons_self
    have hRc : ∀ p ∈ R, p.1 ≠ L + 1 + 1 + 1 + 1 + 1 + 1 := fun p hp => hR6 p (List.mem_cons_of_mem _ hp)
    have hzl := hzs.length
    rw [List.length_map] at hzl
    have hz3 : zs.length ≤ 3 := Nat.le_trans hlen (Nat.le_trans hul (Nat.le_trans (Nat.sub_le _ _) hm1))
    have hsm : (e0 :: sk).length ≤ most := Nat.succ_le_of_lt (Nat.lt_of_le_of_lt (hzl ▸ Nat.le_trans hlen hul) (Nat.sub_lt hm0 Nat.one_pos))
    k_steps
    refine Stop.mk (add_N (l := S1) (b := D4) (us := [_]) (vs := zs) (n1 := 0) (n2 := zs.length) F7 N7 (by k_mem) (by k_mem) (Nat.le_trans (Nat.add_le_add_left hz3 1) (by decide)) fun K0 h8 F8 N8 l8 => ?_)
    have l8' := allLt_of l8
    simp only [AllLt] at l8'
    clear F7 N7
    k_steps
    rename Fr _ _ _ _ => F9
    rename News _ _ _ _ => N9
    rename_i o9 d9
    refine hQ _ _ _ K0 ([Value.int (e0 : Int) (s.toks + 1)] ++ zs) (e0 :: sk) o9 F9 ⟨rfl, rfl, rfl, trivial⟩ (nPick N9 [0, 4, 5, 6] 7) d9 (.cons _ _ hzs) (Nat.succ_le_succ (Nat.zero_le _)) hsm ?_ fun p hp => Nat.ne_of_lt (l8 p (pickL_sub _ 6 [3, 4, 5] p hp))
    intro p hp
    rcases List.mem_cons.mp hp with rfl | hp
    · exact e0lt
    · exact hskc p hp
end Mine
namespace Mine
section
variable {prog : Program} {w : World} {A : Around} {E : Value → Shared → Prop} {s : Shared} {h₀ : Heap} {L : Addr} {m : Str → Option Value} {env : Env} {elt iter : Expr} {scope : Scope} {pos : Pos} {cl : List (Str × Addr)}
inductive SrcNM (prog : Program) (w : World) (A : Around) (h₀ : Heap) (L : Addr) (m : Str → Option Value) (elt : Expr) (x : Str) (px : Pos) (scope : Scope) (cl : List (Str × Addr)) (env : Env) (Q : Value → Shared → Prop) (xv : Value) (s : Shared) : Prop
  | intro (own : List Addr) (n : Nat) (P : Nat → Value → Heap → Prop) (news : List (Addr × Obj)) (J : Nat → List Value → List (Addr × Obj) → Prop) (fx : List Addr)
    (hst : Starts prog w A (.Name x px) xv s own fx n P) (F : Fr h₀ L s.heap m) (N : News h₀ L s.heap news) (hown : ∀ b ∈ own, h₀.get? b = none ∧ ∀ p ∈ news, p.1 ≠ b) (hJ : J 0 [] []) (hlen : ∀ i ys made, J i ys made → ys.length ≤ sizeLine)
    (turn : ∀ D C oC mC i v h ys made tail (s₁ : Shared) (E' : Value → Shared → Prop) (Qe : Value → Shared → Prop), i < n → NsObj oC mC → mC x = some v → Fr h₀ L s₁.heap m → News h₀ L s₁.heap ((D, lst ys) :: (C, oC) :: (news ++ tail)) → (∀ p ∈ (C, oC) :: (news ++ tail), p.1 ≠ D) → (∀ p ∈ made, p ∈ tail) →
      (∀ y h' tk new nw, Fr h₀ L h' m → News h₀ L h' nw → (∀ p ∈ (D, lst ys) :: (new ++ tail), p ∈ nw) → (∀ p ∈ new, p.1 ≠ D ∧ ∀ q ∈ tail, p.1 ≠ q.1) → J (i + 1) (ys ++ [y]) (new ++ made) → Qe y { s₁ with heap := h', toks := tk }) →
      P i v h → J i ys made → wpAny (model prog w) A (eval elt (cenvOf scope cl C env)) Qe E' s₁)
    (fin : ∀ D h' tk ys made, @LT.lt Nat _ L D → Fr h₀ L h' m → News h₀ L h' ((D, lst ys) :: (made ++ news)) → (∀ p ∈ made ++ news, p.1 ≠ D) → J n ys made → Q (.ref D) { s with heap := h', toks := tk })
theorem compOfNM {x : Str} {px : Pos} {Q : Value → Shared → Prop} (F₀ : Fr h₀ L s.heap m) (hclos : closureFor scope env = pure cl) (hkind : scope.kind = .function) (hnames : ∀ y ∈ scope.names, y.2 = .local → scope.names.lookup y.1 = some .local)
    (hx : scope.names.lookup x = some .local)
    (h : wpAny (model prog w) A (eval iter env) (SrcNM prog w A h₀ L m elt x px scope cl env Q) E s)
    (hs : ∀ x, foldedSetIterable iter env x = pure x := by intro _; rfl) :
    wpAny (model prog w) A (eval (.ListComp elt [⟨(.Name x px), iter, [], 0⟩] scope pos) env) Q E s := by
  refine comp1 (Mo := []) F₀ hclos hkind hnames (wpAny_mono h (fun xv s' h' => ?_) fun _ _ e => e) hs
  obtain ⟨own, n, P, news, J, fx, hst, F, N, hown, hJ, hlen, turn, fin⟩ := h'
  refine ⟨own, n, P, [], news, fun i ys mo made => mo = [] ∧ J i ys made, kindName x px scope cl env P hkind hx, fx, hst, F, N, rfl, (fun _ h => nomatch h), hown, ⟨rfl, hJ⟩, (fun i ys _ made h => hlen i ys made h.2), ?_, ?_⟩
  · intro D C i v ys mo made tail own' s₁ E' hi hj hA hs F₁ N₁ hmade hap _ _
    obtain ⟨rfl, hj⟩ := hj
    obtain ⟨oC, mC, rfl, hC, hv, hh, hp⟩ := hA
    exact wpAny_tests_nil (show (if true = true then _ else _) from turn D C oC mC i v hh ys made tail s₁ E' _ hi hC hv F₁ N₁ (fun p hp => (hap p hp).1) hmade
      (fun y h' tk new nw F' N' sub ap j => ⟨hs.trans ⟨h', tk, rfl⟩, [], new, F', nSub N' sub, rfl, fun p hp => ⟨(ap p hp).1, List.not_mem_nil, (ap p hp).2⟩, rfl, j⟩) hp hj)
  · intro D h' tk ys mo made hLD hj F' N' _ hap
    obtain ⟨rfl, hj⟩ := hj
    exact fin D h' tk ys made hLD F' N' hap hj
end
end Mine
namespace Mine
theorem sub_new {α : Type} (new : List α) (d c : α) (n t : List α) : ∀ p ∈ d :: (new ++ t), p ∈ new ++ d :: c :: (n ++ t) := fun p hp => by
  rcases List.mem_cons.mp hp with rfl | hp
  · exact List.mem_append_right _ List.mem_cons_self
  · exact (List.mem_append.mp hp).elim (fun h => List.mem_append_left _ h) fun h => List.mem_append_right _ (List.mem_cons_of_mem _ (List.mem_cons_of_mem _ (List.mem_append_right _ h)))
theorem ne4 {led : List (Addr × Obj)} {T l lr la : Addr} {o1 o2 o3 o4 : Obj} (hT : ∀ p ∈ (l, o2) :: (lr, o3) :: (la, o4) :: led, p.1 < T) (ne : ∀ p ∈ led, p.1 ≠ la ∧ p.1 ≠ lr ∧ p.1 ≠ l) : ∀ q ∈ [(T, o1), (l, o2), (lr, o3), (la, o4)], ∀ r ∈ led, q.1 ≠ r.1 :=
  allP_cons (fun r hr => Nat.ne_of_gt (hT r (List.mem_cons_of_mem _ (List.mem_cons_of_mem _ (List.mem_cons_of_mem _ hr))))) (allP_cons (fun r hr => Ne.symm (ne r hr).2.2) (allP_cons (fun r hr => Ne.symm (ne r hr).2.1) (allP_cons (fun r hr => Ne.symm (ne r hr).1) fun _ h => nomatch h)))
inductive SrcRec (P : Params) (all : List (Addr × Obj)) (v : Value) : Prop
  | intro (zz : Addr) (uz : List Str) (ri : List Int) (dl rl : Option Nat) (hv : v = .ref zz) (h1 : uz.length ≤ 60) (h2 : ri.length ≤ 60) (h : RecAt P all zz uz ri dl rl)
inductive GoneJ (P : Params) (R U : List (Addr × Obj)) (L GL : Addr) (i : Nat) (ys : List Value) (md : List (Addr × Obj)) : Prop
  | intro (h1 : ys.length = i) (h2 : i ≤ 2) (h3 : ∀ v ∈ ys, GoneAt P (md ++ R) v) (h4 : ∀ q ∈ md, q.1 ≠ L + 1 ∧ q.1 ≠ GL ∧ ∀ r ∈ U, q.1 ≠ r.1)
theorem GoneJ.step {P : Params} {R U : List (Addr × Obj)} {L GL : Addr} {i : Nat} {ys : List Value} {md new : List (Addr × Obj)} {v : Value} (j : GoneJ P R U L GL i ys md) (hi : i < 2) (hv : GoneAt P (new ++ R) v)
    (hne : ∀ q ∈ new, q.1 ≠ L + 1 ∧ q.1 ≠ GL ∧ ∀ r ∈ U, q.1 ≠ r.1) : GoneJ P R U L GL (i + 1) (ys ++ [v]) (new ++ md) := by
  obtain ⟨h1, h2, h3, h4⟩ := j
  refine ⟨by rw [List.length_append, h1]; rfl, hi, fun u hu => ?_, fun q hq => (List.mem_append.mp hq).elim (hne q) (h4 q)⟩
  rw [List.append_assoc]
  rcases List.mem_append.mp hu with hu | hu
  · exact (h3 u hu).more fun q hq => List.mem_append_right _ hq
  · rw [List.mem_singleton.mp hu]
    exact hv.more fun q hq => (List.mem_append.mp hq).elim (fun h => List.mem_append_left _ h) fun h => List.mem_append_right _ (List.mem_append_right _ h)
theorem src2 {P : Params} {R : List (Addr × Obj)} {z x : Addr} (hz : SrcRec P R (.ref z)) (hx : SrcRec P R (.ref x)) : ∀ (j : Nat) (v : Value), (#[Value.ref z, Value.ref x] : Array Value)[j]? = some v → SrcRec P R v := by
  intro j v hv
  match j, hv with
  | 0, hv => exact (Option.some.inj hv : Value.ref z = v) ▸ hz
  | 1, hv => exact (Option.some.inj hv : Value.ref x = v) ▸ hx
  | j + 2, hv => simp at hv
end Mine
namespace Mine
local macro_rules | `(tactic| k_all) => `(tactic| first | assumption | (refine' all_cons ?a ?b; (case a => k_ne); (case b => k_all)))
local macro_rules | `(tactic| k_handed) => `(tactic| assumption)
local macro_rules | `(tactic| walk_at $k) => Mine.stopAt ["call ref", "eval ListComp", "call builtin:list.extend"] k
theorem finGone {α : Type} {d s o g : α} {md U : List α} : ∀ p ∈ g :: d :: o :: (md ++ U), p ∈ d :: (md ++ (s :: o :: g :: U)) := fun p hp => by
  rcases List.mem_cons.mp hp with rfl | hp
  · exact .tail _ (List.mem_append_right _ (.tail _ (.tail _ (.head _))))
  rcases List.mem_cons.mp hp with rfl | hp
  · exact .head _
  rcases List.mem_cons.mp hp with rfl | hp
  · exact .tail _ (List.mem_append_right _ (.tail _ (.head _)))
  exact .tail _ ((List.mem_append.mp hp).elim (fun h => List.mem_append_left _ h) fun h => List.mem_append_right _ (.tail _ (.tail _ (.tail _ h))))
theorem dropD {α : Type} {g d o : α} {r : List α} : ∀ p ∈ o :: g :: r, p ∈ g :: d :: o :: r := fun p hp => by
  rcases List.mem_cons.mp hp with rfl | hp
  · exact .tail _ (.tail _ (.head _))
  rcases List.mem_cons.mp hp with rfl | hp
  · exact .head _
  exact .tail _ (.tail _ (.tail _ hp))
theorem goneTurn {prog : Program} {w : World} {A : Around} {E : Value → Shared → Prop} {s : Shared} {g : Heap} {mean : ExcName → Option Value} {mg mb : PySem.Str → Option Value} {ls : List Str} {Q : Flow → Shared → Prop}
   {L GL x z : Addr} {oc : Obj} {gone : List Value} {n : Nat} {R U : List (Addr × Obj)} {va vw vk vn : Value} {m : Str → Option Value}
   (X' : (K w.params).In g) (T' : Top topProg ls mean mg mb g) (hh : A.handled = none) (hd : A.depth + 60 < recursionLimit) (hu : A.units + 200 < cLine)
   (F : Fr g L s.heap m) (hm : Holds m [(Str.ofString "agents", va), (Str.ofString "words", vw), (Str.ofString "sick", vk), (Str.ofString "number", vn), (Str.ofString "merged", .ref z), (Str.ofString "gone", .ref GL), (Str.ofString "own", .ref x)])
   (N : News g L s.heap ((L + 1, oc) :: (GL, W.listOf gone.toArray n) :: U)) (hR : ∀ q ∈ R, q ∈ U) (hz : SrcRec w.params R (.ref z)) (hx : SrcRec w.params R (.ref x)) (hU : ∀ q ∈ U, q.1 ≠ GL) (hgl : gone.length ≤ 10) (hLG : @LT.lt Nat _ (L + 1) GL)
   (hQ : ∀ (h' : Heap) (tk : Nat) (ys : List Value) (n' : Nat) (md : List (Addr × Obj)), Fr g L h' m → News g L h' ((L + 1, oc) :: (GL, W.listOf (gone ++ ys).toArray n') :: (md ++ U)) → GoneJ w.params R U L GL 2 ys md → Q .next { s with heap := h', toks := tk }) :
   wpAny (model prog w) (A.deeper (env212 L)) (exec (nth (forB (nth (fnBody (nth top 24)) 2)) 5) (env212 L)) Q E s := by
  have hmE := pins_eq hm
  rw [← hmE] at F hQ
  clear hmE hm
  rw [show nth (forB (nth (fnBody (nth top 24)) 2)) 5 = _ from (by conv => lhs; whnf)]
  unfold env212
  rw [show sc212 = _ from (by conv => lhs; whnf)]
  k_steps
  rename Fr _ _ _ _ => F2
  rename News _ _ _ _ => N2
  refine' Stop.mk (compOfNM F2 ?k1 rfl ?k3 rfl ?_)
  case k1 => exact rfl
  case k3 => decide
  k_steps
  rename_i S h3 F3 N3 l7
  refine ⟨[], 2, fun j v _ => (#[Value.ref z, Value.ref x] : Array Value)[j]? = some v, _, GoneJ w.params R U L GL,
    [S], starts_list' rfl hh ⟨_, N3.get (a := S) (by k_mem), rfl, _, rfl⟩, F3, N3, (fun _ h => nomatch h), ⟨rfl, Nat.zero_le _, (fun _ h => nomatch h), (fun _ h => nomatch h)⟩, ?_, ?_, ?_⟩
  · intro j ys md hj
    obtain ⟨h1, h2, _, _⟩ := hj
    exact Nat.le_trans (h1 ▸ h2) (by decide)
  · intro D C oC mC j v hp ys md tail3 s₁ E3 Qe hj hC hCv F₁ N₁ hapD hmd hq hv hJ
    obtain ⟨zz, uz, ri, dl', rl', rfl, h60, h61, hrr⟩ := src2 hz hx j v hv
    obtain ⟨dzz, a3, r3, y1, y2, y3, y4, us3, rs3, c1, c2, dv3, rv3, hsub3, hus3, hrs3, hdl3, hrl3⟩ := hrr
    clear F3 N3 hQ hz hx hv
    k_steps
    rename Fr _ _ _ _ => F4
    rename News _ _ _ _ => N4
    refine Stop.mk (fields_N X' T' F4 N4 hh (by show A.depth + 1 + 20 < _; lia) (by show A.units + _ + 100 < _; lia) (x := zz) (dx := dzz) (a := a3) (r := r3) (t1 := y1) (t2 := y2) (t3 := y3) (t4 := y4) (us := us3) (rs := rs3) (n1 := c1) (n2 := c2) (dl := dv3) (rr := rv3)
      (fun q hq => List.mem_append_right [_, _] (List.mem_append_left tail3 (List.mem_append_right [_, _, _] (hR q (hsub3 q hq))))) hus3 h60 hrs3 h61 hdl3.handed hrl3.handed fun l la lr k3 k4 h5 tk5 F5 N5 ne5 lt1 lt2 => ?_)
    clear F4 N4
    k_steps
    rename Fr _ _ _ _ => F6
    rename News _ _ _ _ => N6
    rename_i T6 h6 lT6
    have n4 := ne4 (o1 := { cls := .type "tuple", data := .seq #[.ref zz, .ref l] }) (mem_allLt (l := (l, W.listOf #[.ref la, .ref lr, dv3, rv3] 0) :: (lr, W.listOf rs3.toArray k4) :: (la, W.listOf us3.toArray k3) :: (D, lst ys) :: (C, oC) :: _) lT6) ne5
    exact hq _ _ _ _ _ F6 N6 (sub_new [_, _, _, _] _ _ _ tail3) (fun p hp => ⟨n4 p hp _ List.mem_cons_self, fun q hq => n4 p hp q (List.mem_append_right [_, _] (List.mem_append_right (_ :: _ :: _ :: U) hq))⟩)
      (hJ.step hj ⟨T6, zz, dzz, a3, r3, l, la, lr, y1, y2, y3, y4, us3, rs3, c1, c2, k3, k4, dv3, rv3, uz, ri, rfl, List.mem_cons_self, fun q hq => List.mem_append_right _ (hsub3 q hq), .tail _ (.head _), .tail _ (.tail _ (.tail _ (.head _))), .tail _ (.tail _ (.head _)), hus3, hrs3, h60, h61, hdl3.handed, hrl3.handed⟩
        fun p hp => ⟨n4 p hp (L + 1, oc) (List.mem_append_right [_, _] (List.mem_append_left tail3 (.tail _ (.head _)))), n4 p hp (GL, W.listOf gone.toArray n) (List.mem_append_right [_, _] (List.mem_append_left _ (.tail _ (.tail _ (.head _))))),
          fun q hq => n4 p hp q (List.mem_append_right [_, _] (List.mem_append_left tail3 (List.mem_append_right [_, _, _] hq)))⟩)
  · intro D h7 tk7 ys md hLD F7 N7 hap7 hJ
    have hJ' := hJ
    obtain ⟨hy, _, _, h4⟩ := hJ'
    have nGD : @Ne Nat GL D := hap7 (GL, W.listOf gone.toArray n) (List.mem_append_right _ (.tail _ (.tail _ (.head _))))
    have N8 := nSub N7 finGone
    clear F3 N3 N7 hz hx
    have hall : ∀ q ∈ (D, lst ys) :: (L + 1, oc) :: (md ++ U), q.1 ≠ GL := all_cons (Ne.symm nGD) (all_cons (Nat.ne_of_lt hLG) fun q hq => (List.mem_append.mp hq).elim (fun h => (h4 q h).2.1) (hU q))
    k_steps
    refine' Stop.mk (kl_extend (its := gone.toArray) (its2 := ys.toArray) (n2 := ys.length) (l := gone ++ ys) F7 N8 (b := D) ?m ?e ?ne (Upd.head hall) ?d ?z ?y ?_)
    case m => k_mem
    case e => simp
    case ne => simp [hy]
    case d =>
      have hs100 : 100 ≤ sizeLine := by decide
      simp [Builtin.List.listTooLong]
      intro _
      lia
    case z => exact Nat.le_trans (by simpa using hgl : _ ≤ 10) (by decide)
    case y => exact Nat.le_trans (by simp [hy]; lia : _ ≤ 12) (by decide)
    intro h8 F8 N9
    clear F7 N8
    k_steps
    exact hQ _ _ _ _ md F8 (nSub N9 dropD) hJ
theorem mergeTurn {prog : Program} {w : World} {A : Around} {E : Value → Shared → Prop} {s : Shared} {g : Heap} {mean : ExcName → Option Value} {mg mb : PySem.Str → Option Value} {ls : List Str} {Q : Flow → Shared → Prop}
   {L x z : Addr} {gv : Value} {R all : List (Addr × Obj)} {va vw vk vn : Value} {m : Str → Option Value} {mz oz : List Str} {rz qz : List Int} {dl rl od orr : Option Nat}
   (X' : (K w.params).In g) (T' : Top topProg ls mean mg mb g) (hh : A.handled = none) (hd : A.depth + 60 < recursionLimit) (hu : A.units + 200 < cLine)
   (F : Fr g L s.heap m) (hm : Holds m [(Str.ofString "agents", va), (Str.ofString "words", vw), (Str.ofString "sick", vk), (Str.ofString "number", vn), (Str.ofString "merged", .ref z), (Str.ofString "gone", gv), (Str.ofString "own", .ref x)])
   (N : News g L s.heap all) (hR : ∀ q ∈ R, q ∈ all) (hz : RecAt w.params R z mz rz dl rl) (hx : RecAt w.params R x oz qz od orr) (hmz : mz.length ≤ 60) (hrz : rz.length ≤ 100) (hoz : oz.length ≤ 60) (hqz : qz.length ≤ 100)
   (hQ : ∀ (h' : Heap) (tk : Nat) (m' : Str → Option Value) (z' : Addr) (new : List (Addr × Obj)), Fr g L h' m' → News g L h' (new ++ all) → (∀ q ∈ new, ∀ p ∈ all, q.1 ≠ p.1) → RecAt w.params new z' (mz.filter fun k => oz.any (· == k)) (rz ++ qz) (od.or dl) (orr.or rl) →
      Holds m' [(Str.ofString "agents", va), (Str.ofString "words", vw), (Str.ofString "sick", vk), (Str.ofString "number", vn), (Str.ofString "merged", .ref z'), (Str.ofString "gone", gv)] → Q .next { s with heap := h', toks := tk }) :
   wpAny (model prog w) (A.deeper (env212 L)) (exec (nth (forB (nth (fnBody (nth top 24)) 2)) 6) (env212 L)) Q E s := by
  have F1 := pins F hm
  clear F hm
  rw [show nth (forB (nth (fnBody (nth top 24)) 2)) 6 = _ from (by conv => lhs; whnf)]
  unfold env212
  rw [show sc212 = _ from (by conv => lhs; whnf)]
  obtain ⟨dz, az, r, w1, w2, w3, w4, us, rs, k1, k2, dv0, rv0, hsub, hus, hrs, hdl0, hrl0⟩ := hz
  obtain ⟨dx, b, c, u1, u2, u3, u4, vs, qs, k3, k4, dv, rv, hsub2, hvs, hqs, hdv, hrv⟩ := hx
  k_steps
  rename Fr _ _ _ _ => F10
  rename News _ _ _ _ => N10
  refine Stop.mk (merge_N X' T' F10 N10 hh (by show A.depth + 1 + 20 < _; lia) (by show A.units + _ + 100 < _; lia) (fun q hq => (List.mem_append.mp hq).elim (fun h => hR q (hsub q h)) fun h => hR q (hsub2 q h)) hvs hoz hus hmz hrs hqs hrz hqz hdl0.handed hrl0.handed hdv.int hrv.int
    fun z' dz' la' lr' v1 v2 v3 v4 zs ws c1 c2 h11 tk11 F11 N11 d1 d2 d3 d4 hzs hws => ?_)
  clear F10 N10
  k_steps
  rename Fr _ _ _ _ => F12
  rename News _ _ _ _ => N12
  have big : ∀ {b : Addr}, @LE.le Nat _ dz' b → ∀ p ∈ all, b ≠ p.1 := fun hb p hp => Nat.ne_of_gt (Nat.lt_of_lt_of_le (d1 p hp) hb)
  have e1 := Nat.le_of_lt d2
  have e2 := Nat.le_trans e1 (Nat.le_of_lt d3)
  exact hQ _ _ _ z' (entObs w.params z' dz' la' lr' v1 v2 v3 v4 zs ws c1 c2 (lastV dv0 dv) (lastV rv0 rv)) F12 N12 (allP_cons (big e1) (allP_cons (big (Nat.le_refl _)) (allP_cons (big e2) (allP_cons (big (Nat.le_trans e2 (Nat.le_of_lt d4))) fun _ h => nomatch h))))
    ⟨dz', la', lr', v1, v2, v3, v4, zs, ws, c1, c2, _, _, fun q hq => hq, hzs, hws, hdl0.last hdv, hrl0.last hrv⟩ ⟨rfl, rfl, rfl, rfl, rfl, rfl, trivial⟩
theorem subU {α : Type} {o g : α} {md B tail new own4 : List α} : ∀ q ∈ o :: g :: ((new ++ (md ++ own4)) ++ tail), q ∈ new ++ (o :: g :: (md ++ (own4 ++ (B ++ tail)))) := fun q hq => by
  rcases List.mem_cons.mp hq with rfl | hq
  · exact List.mem_append_right _ (.head _)
  rcases List.mem_cons.mp hq with rfl | hq
  · exact List.mem_append_right _ (.tail _ (.head _))
  rcases List.mem_append.mp hq with hq | hq
  · rcases List.mem_append.mp hq with hq | hq
    · exact List.mem_append_left _ hq
    · exact List.mem_append_right _ (.tail _ (.tail _ ((List.mem_append.mp hq).elim (fun h => List.mem_append_left _ h) fun h => List.mem_append_right _ (List.mem_append_left _ h))))
  · exact List.mem_append_right _ (.tail _ (.tail _ (List.mem_append_right _ (List.mem_append_right _ (List.mem_append_right _ hq)))))
theorem subR {α : Type} {md own4 made B new : List α} : ∀ q ∈ md ++ (own4 ++ (made ++ B)), q ∈ (new ++ (md ++ own4)) ++ made ++ B := fun q hq => by
  rcases List.mem_append.mp hq with hq | hq
  · exact List.mem_append_left _ (List.mem_append_left _ (List.mem_append_right _ (List.mem_append_left _ hq)))
  rcases List.mem_append.mp hq with hq | hq
  · exact List.mem_append_left _ (List.mem_append_left _ (List.mem_append_right _ (List.mem_append_right _ hq)))
  rcases List.mem_append.mp hq with hq | hq
  · exact List.mem_append_left _ (List.mem_append_right _ hq)
  exact List.mem_append_right _ hq
theorem turn2 {prog : Program} {w : World} {A : Around} {E : Value → Shared → Prop} {s : Shared} {g : Heap} {mean : ExcName → Option Value} {mg mb : PySem.Str → Option Value} {ls : List Str} {Q : Flow → Shared → Prop}
   {L GL RL2 x dx D25 z : Addr} {oc : Obj} {gone os : List Value} {n n25 p : Nat} {tail made B : List (Addr × Obj)} {dv rv va vw vk vn : Value} {ta tb u1 u2 u3 u4 : Tok} {m : Str → Option Value} {mz oz : List Str} {rz : List Int} {dl rl od orr : Option Nat}
   (X' : (K w.params).In g) (T' : Top topProg ls mean mg mb g) (hh : A.handled = none) (hd : A.depth + 60 < recursionLimit) (hu : A.units + 200 < cLine)
   (F : Fr g L s.heap m) (hm : Holds m [(Str.ofString "agents", va), (Str.ofString "words", vw), (Str.ofString "sick", vk), (Str.ofString "number", vn), (Str.ofString "merged", .ref z), (Str.ofString "gone", .ref GL), (Str.ofString "own", .ref x)])
   (N : News g L s.heap ((L + 1, oc) :: (GL, W.listOf gone.toArray n) :: (RL2, W.listOf #[.int (p : Int) ta, .int (p : Int) tb] 0) :: (x, instObj 59 dx) :: (dx, entDict w.params u1 u2 u3 u4 (.ref D25) (.ref RL2) dv rv) :: (D25, W.listOf os.toArray n25) :: (B ++ tail)))
   (hdv : ValIs dv od) (hrv : ValIs rv orr) (hos : StrsAre os oz) (hoz : oz.length ≤ 60) (hrec : RecAt w.params (made ++ B) z mz rz dl rl) (hmz : mz.length ≤ 60) (hrz : rz.length ≤ 60)
   (hmade : ∀ q ∈ made, q ∈ tail) (hap : ∀ q ∈ B ++ tail, q.1 ∉ [L + 1, GL]) (hgl : gone.length ≤ 10) (hlt : ∀ q ∈ B ++ tail, @LT.lt Nat _ q.1 dx) (l1 : @LT.lt Nat _ (L + 1) dx) (l2 : @LT.lt Nat _ GL dx) (l3 : @LT.lt Nat _ dx x) (l4 : @LT.lt Nat _ x D25) (l5 : @LT.lt Nat _ D25 RL2) (l6 : @LT.lt Nat _ (L + 1) GL)
   (hgone : ∀ v ∈ gone, GoneAt w.params (made ++ B) v)
   (hQ : ∀ (h' : Heap) (tk : Nat) (m' : Str → Option Value) (gone' : List Value) (n' : Nat) (z' : Addr) (new : List (Addr × Obj)), Fr g L h' m' → News g L h' ((L + 1, oc) :: (GL, W.listOf gone'.toArray n') :: (new ++ tail)) → (∀ q ∈ new, q.1 ∉ [L + 1, GL] ∧ ∀ r ∈ tail, q.1 ≠ r.1) →
      RecAt w.params (new ++ made ++ B) z' (mz.filter fun k => oz.any (· == k)) (rz ++ [(p : Int), (p : Int)]) (od.or dl) (orr.or rl) → gone'.length = gone.length + 2 → (∀ v ∈ gone', GoneAt w.params (new ++ made ++ B) v) →
      Holds m' [(Str.ofString "agents", va), (Str.ofString "words", vw), (Str.ofString "sick", vk), (Str.ofString "number", vn), (Str.ofString "merged", .ref z'), (Str.ofString "gone", .ref GL)] → Q .next { s with heap := h', toks := tk }) :
   wpAny (model prog w) (A.deeper (env212 L)) (execs ((forB (nth (fnBody (nth top 24)) 2)).drop 5) (env212 L)) Q E s := by
  have hx : RecAt w.params ((RL2, W.listOf #[.int (p : Int) ta, .int (p : Int) tb] 0) :: (x, instObj 59 dx) :: (dx, entDict w.params u1 u2 u3 u4 (.ref D25) (.ref RL2) dv rv) :: (D25, W.listOf os.toArray n25) :: (made ++ B)) x oz [(p : Int), (p : Int)] od orr :=
    ⟨dx, D25, RL2, u1, u2, u3, u4, os, [.int (p : Int) ta, .int (p : Int) tb], n25, 0, dv, rv, allP_cons (.tail _ (.head _)) (allP_cons (.tail _ (.tail _ (.head _))) (allP_cons (.tail _ (.tail _ (.tail _ (.head _)))) (allP_cons (.head _) fun _ h => nomatch h))), wrd_of hos, .cons _ _ (.cons _ _ .nil), hdv, hrv⟩
  have hap' : ∀ q ∈ B ++ tail, q.1 ≠ L + 1 ∧ q.1 ≠ GL := fun q hq => ⟨fun e => hap q hq (e ▸ .head _), fun e => hap q hq (e ▸ .tail _ (.head _))⟩
  have notin : ∀ {b : Addr}, b ≠ L + 1 → b ≠ GL → b ∉ [L + 1, GL] := fun h1 h2 h => (List.mem_cons.mp h).elim h1 fun h => h2 (List.mem_singleton.mp h)
  have mid : ∀ {b : Addr}, @LE.le Nat _ dx b → b ≠ L + 1 ∧ b ≠ GL ∧ ∀ r ∈ B ++ tail, b ≠ r.1 := fun hb => ⟨Nat.ne_of_gt (Nat.lt_of_lt_of_le l1 hb), Nat.ne_of_gt (Nat.lt_of_lt_of_le l2 hb), fun r hr => Nat.ne_of_gt (Nat.lt_of_lt_of_le (hlt r hr) hb)⟩
  have e1 := Nat.le_of_lt l3
  have e2 := Nat.le_trans e1 (Nat.le_of_lt l4)
  obtain ⟨own4, ho⟩ : ∃ l, l = [(RL2, W.listOf #[.int (p : Int) ta, .int (p : Int) tb] 0), (x, instObj 59 dx), (dx, entDict w.params u1 u2 u3 u4 (.ref D25) (.ref RL2) dv rv), (D25, W.listOf os.toArray n25)] := ⟨_, rfl⟩
  have h4 : ∀ q ∈ own4, q.1 ≠ L + 1 ∧ q.1 ≠ GL ∧ ∀ r ∈ B ++ tail, q.1 ≠ r.1 := ho ▸ allP_cons (mid (Nat.le_trans e2 (Nat.le_of_lt l5))) (allP_cons (mid e1) (allP_cons (mid (Nat.le_refl _)) (allP_cons (mid e2) fun _ h => nomatch h)))
  change News g L s.heap ((L + 1, oc) :: (GL, W.listOf gone.toArray n) :: ([(RL2, W.listOf #[.int (p : Int) ta, .int (p : Int) tb] 0), (x, instObj 59 dx), (dx, entDict w.params u1 u2 u3 u4 (.ref D25) (.ref RL2) dv rv), (D25, W.listOf os.toArray n25)] ++ (B ++ tail))) at N
  change RecAt w.params ([(RL2, W.listOf #[.int (p : Int) ta, .int (p : Int) tb] 0), (x, instObj 59 dx), (dx, entDict w.params u1 u2 u3 u4 (.ref D25) (.ref RL2) dv rv), (D25, W.listOf os.toArray n25)] ++ (made ++ B)) x oz [(p : Int), (p : Int)] od orr at hx
  rw [← ho] at N hx
  clear ho mid e1 e2 hlt l1 l2 l3 l4 l5 hos hdv hrv hap
  have hR : ∀ q ∈ own4 ++ (made ++ B), q ∈ own4 ++ (B ++ tail) := fun q hq => (List.mem_append.mp hq).elim (fun h => List.mem_append_left _ h) fun h => List.mem_append_right _ ((List.mem_append.mp h).elim (fun h => List.mem_append_right _ (hmade q h)) fun h => List.mem_append_left _ h)
  have hz := hrec.more (b := own4 ++ (made ++ B)) fun q hq => List.mem_append_right _ hq
  rw [show (forB (nth (fnBody (nth top 24)) 2)).drop 5 = [nth (forB (nth (fnBody (nth top 24)) 2)) 5, nth (forB (nth (fnBody (nth top 24)) 2)) 6] from by kernel_rfl]
  refine wpAny_execs_cons (goneTurn X' T' hh hd hu F hm N hR ⟨z, mz, rz, dl, rl, rfl, hmz, hrz, hz⟩ ⟨x, oz, _, od, orr, rfl, hoz, by simp, hx⟩ (fun q hq => (List.mem_append.mp hq).elim (fun h => (h4 q h).2.1) fun h => (hap' q h).2) hgl l6 fun h1 tk1 ys n1 md F1 N1 hJ => ?_)
  obtain ⟨hy, _, hg, hmd⟩ := hJ
  refine wpAny_execs_cons (mergeTurn (s := { s with heap := h1, toks := tk1 }) X' T' hh hd hu F1 hm N1 (fun q hq => List.mem_append_right [_, _] (List.mem_append_right md (hR q hq))) hz hx hmz (by lia) hoz (by simp) fun h2 tk2 m2 z2 new F2 N2 hne hr hm2 => ?_)
  refine wpAny_execs_nil (hQ h2 tk2 m2 (gone ++ ys) n1 z2 (new ++ (md ++ own4)) F2 (nSub N2 subU) (fun q hq => ?_) (hr.more fun q hq => List.mem_append_left _ (List.mem_append_left _ (List.mem_append_left _ hq))) (by rw [List.length_append, hy]) (fun v hv => ?_) hm2)
  · rcases List.mem_append.mp hq with h | h
    · exact ⟨notin (hne q h (L + 1, oc) (.head _)) (hne q h (GL, W.listOf (gone ++ ys).toArray n1) (.tail _ (.head _))), fun r hr => hne q h r (List.mem_append_right [_, _] (List.mem_append_right md (List.mem_append_right own4 (List.mem_append_right B hr))))⟩
    · rcases List.mem_append.mp h with h | h
      · exact ⟨notin (hmd q h).1 (hmd q h).2.1, fun r hr => (hmd q h).2.2 r (List.mem_append_right own4 (List.mem_append_right B hr))⟩
      · exact ⟨notin (h4 q h).1 (h4 q h).2.1, fun r hr => (h4 q h).2.2 r (List.mem_append_right B hr)⟩
  · rcases List.mem_append.mp hv with hv | hv
    · exact (hgone v hv).more fun q hq => (List.mem_append.mp hq).elim (fun h => List.mem_append_left _ (List.mem_append_right _ h)) fun h => List.mem_append_right _ h
    · exact (hg v hv).more subR
end Mine
namespace Mine
local macro_rules | `(tactic| walk_at "no such place") => `(tactic| fail)
local macro_rules | `(tactic| k_all) => `(tactic| first | assumption | (refine' all_cons ?a ?b; (case a => k_ne); (case b => k_all)))
local macro_rules | `(tactic| k_handed) => `(tactic| assumption)
local macro_rules | `(tactic| walk_at $k) => Mine.stopAt ["call ref", "eval ListComp", "compareOp NotEq ref ref"] k
inductive PairG (P : Params) (all : List (Addr × Obj)) : Value → Value → Prop
  | intro (x dx a r l la lr : Addr) (t1 t2 t3 t4 : Tok) (us rs : List Value) (n1 n2 k1 k2 : Nat) (dv rv : Value) (uz : List Str) (ri : List Int)
    (h1 : ∀ p ∈ entObs P x dx a r t1 t2 t3 t4 us rs n1 n2 dv rv, p ∈ all) (h2 : (l, W.listOf #[.ref la, .ref lr, dv, rv] 0) ∈ all) (h3 : (la, W.listOf us.toArray k1) ∈ all) (h4 : (lr, W.listOf rs.toArray k2) ∈ all) (h5 : Wrd us.toArray uz) (h6 : IntsAre rs ri) (h7 : uz.length ≤ 60) (h8 : ri.length ≤ 60) (h9 : handedIn dv = true) (h10 : handedIn rv = true) : PairG P all (.ref x) (.ref l)
noncomputable def isSeq (p : Addr × Obj) : Bool := match p.2.data with
  | .seq _ _ => true
  | _ => false
theorem isSeq_no {p : Addr × Obj} (h : isSeq p = true) : NoDict p.2 := fun es ep e => by
  unfold isSeq at h
  rw [e] at h
  cases h
theorem turn3 {prog : Program} {w : World} {A : Around} {E : Value → Shared → Prop} {s : Shared} {g : Heap} {mean : ExcName → Option Value} {mg mb : PySem.Str → Option Value} {ls : List Str} {Q : Flow → Shared → Prop}
   {L GL z : Addr} {gone : List Value} {n : Nat} {all : List (Addr × Obj)} {va vw vk vn : Value} {m : Str → Option Value}
   (X' : (K w.params).In g) (T' : Top topProg ls mean mg mb g) (hh : A.handled = none) (hd : A.depth + 60 < recursionLimit) (hu : A.units + 200 < cLine)
   (F : Fr g L s.heap m) (hm : Holds m [(Str.ofString "agents", va), (Str.ofString "words", vw), (Str.ofString "sick", vk), (Str.ofString "number", vn), (Str.ofString "merged", .ref z), (Str.ofString "gone", .ref GL)])
   (N : News g L s.heap ((GL, W.listOf gone.toArray n) :: all)) (hgone : ∀ v ∈ gone, GoneAt w.params all v)
   (hQ : ∀ (h' : Heap) (tk : Nat) (m' : Str → Option Value), Fr g L h' m' → News g L h' all → Q (.ret (.ref z)) { s with heap := h', toks := tk }) :
   wpAny (model prog w) (A.deeper (env212 L)) (execs ((fnBody (nth top 24)).drop 3) (env212 L)) Q E s := by
  have F1 := pins F hm
  clear F hm
  rw [show (fnBody (nth top 24)).drop 3 = _ from (by conv => lhs; whnf)]
  unfold env212
  rw [show sc212 = _ from (by conv => lhs; whnf)]
  k_steps
  rename Fr _ _ _ _ => F2
  rename News _ _ _ _ => N2
  refine' Stop.mk (compOfPT F2 ?k1 rfl ?k3 hh rfl rfl (by decide) ?_)
  case k1 => exact rfl
  case k3 => decide
  k_steps
  have hstart : ∀ (elts : List Expr) (k : Nat) (pos : Pos) (A' : Around), A'.handled = none → Starts prog w A' (.Tuple elts k pos) (.ref GL) s [] ([GL] ++ (all.filter isSeq).map (·.1)) gone.length (PairAt fun _ a b => PairG w.params all a b) := fun elts k pos A' hh' =>
    Starts.side (starts_listT (n := gone.length) (by rw [List.size_toArray]) hh' ⟨_, N2.get (a := GL) (by k_mem), rfl, _, rfl⟩) (all.filter isSeq)
    (fun p hp => (N2 p (List.mem_cons_of_mem _ (List.mem_filter.mp hp).1)).1) (fun p hp => isSeq_no (List.mem_filter.mp hp).2) (fun _ _ => List.not_mem_nil)
    (fun i v h hv ho => by
      obtain ⟨T, x, dx, a, r, l, la, lr, t1, t2, t3, t4, us, rs, n1, n2, k1, k2, dv, rv, uz, ri, rfl, hT, h1, h2, h3, h4, h5, h6, h7, h8, h9, h10⟩ := hgone v (List.mem_of_getElem? (by rw [← List.getElem?_toArray]; exact hv))
      exact ⟨T, .ref x, .ref l, rfl, ⟨_, ho _ (List.mem_filter.mpr ⟨hT, rfl⟩), rfl, _, rfl⟩, x, dx, a, r, l, la, lr, t1, t2, t3, t4, us, rs, n1, n2, k1, k2, dv, rv, uz, ri, h1, h2, h3, h4, h5, h6, h7, h8, h9, h10⟩)
  refine ⟨[], gone.length, fun _ a b => PairG w.params all a b, _, fun _ ys => ys = [], _, hstart _ _ _ _ hh, F2, N2, (fun _ h => nomatch h), rfl, ?_, ?_, ?_⟩
  · rintro i ys rfl
    exact Nat.zero_le _
  · intro D C oC mC j a b ys tail s₁ E' Qe Qs hj hC hCa hCb F₁ N₁ hap hq hq' hP hys
    obtain ⟨x, dx, a3, r3, l, la, lr, t1, t2, t3, t4, us, rs, n1, n2, k1, k2, dv, rv, uz, ri, hsub, hl, hla, hlr, hus, hrs, h60, h61, hdv, hrv⟩ := hP
    obtain rfl := hys
    have hin : ∀ q ∈ all, q ∈ (D, lst []) :: (C, oC) :: ((GL, W.listOf gone.toArray n) :: all ++ tail) := fun q hq => List.mem_cons_of_mem _ (List.mem_cons_of_mem _ (List.mem_append_left tail (List.mem_cons_of_mem _ hq)))
    clear F2 N2
    k_steps
    rename Fr _ _ _ _ => F4
    rename News _ _ _ _ => N4
    refine Stop.mk (fields_N X' T' F4 N4 hh (by show A.depth + 1 + 20 < _; lia) (by show A.units + _ + 100 < _; lia) (x := x) (dx := dx) (a := a3) (r := r3) (t1 := t1) (t2 := t2) (t3 := t3) (t4 := t4) (us := us) (rs := rs) (n1 := n1) (n2 := n2) (dl := dv) (rr := rv) (fun q hq => hin q (hsub q hq)) hus h60 hrs h61 hdv hrv fun l' la' lr' k3 k4 h5 tk5 F5 N5 ne5 lt1 lt2 => ?_)
    clear F4 N4
    k_steps
    have at5 : ∀ {b : Addr} {o : Obj}, (b, o) ∈ all → h5.get? b = some o := fun hb => (N5 _ (List.mem_cons_of_mem _ (List.mem_cons_of_mem _ (List.mem_cons_of_mem _ (hin _ hb))))).1
    refine Stop.mk (same_fields (us := us.toArray) (rs := rs.toArray) (dl := dv) (rr := rv) (la := la) (lr := lr) (la' := la') (lr' := lr') (by show A.units + _ + 5 < _; lia) ⟨_, at5 hl, rfl, _, rfl⟩ ⟨_, N5.get (a := l') (by k_mem), rfl, _, rfl⟩ ⟨_, at5 hla, rfl, _, rfl⟩ ⟨_, N5.get (a := la') (by k_mem), rfl, _, rfl⟩ ⟨_, at5 hlr, rfl, _, rfl⟩ ⟨_, N5.get (a := lr') (by k_mem), rfl, _, rfl⟩
      (Ne.symm (ne5 _ (hin _ hla)).1) (Ne.symm (ne5 _ (hin _ hlr)).2.1) ?_)
    k_steps
    exact hq' _ _ _ F5 N5 (sub_pre [_, _, _] _ _ _ _) rfl
  · intro D h7 tk7 ys hLD F7 N7 hap7 hys
    obtain rfl := hys
    clear F2 N2
    have N8 : News g L h7 ((D, lst []) :: all) := nPick N7 [0] 2
    clear N7
    k_steps
    rename Fr _ _ _ _ => F9
    rename News _ _ _ _ => N9
    exact hQ _ _ _ F9 (nSub N9 fun q hq => List.mem_cons_of_mem _ (List.mem_cons_of_mem _ hq))
end Mine
namespace Mine
local macro_rules | `(tactic| walk_at "no such place") => `(tactic| fail)
local macro_rules | `(tactic| k_all) => `(tactic| first | assumption | (refine' all_cons ?a ?b; (case a => k_ne); (case b => k_all)))
local macro_rules | `(tactic| k_handed) => `(tactic| assumption)
local macro_rules | `(tactic| walk_at $k) => Mine.stopAt ["call ref", "subscriptTail Name Slice ref ref", "binaryOp Add ref ref", "exec For Tuple Call cons nil", "exec For", "eval ListComp"] k
local macro_rules | `(tactic| walk_at "exec Assign") => `(tactic| (rename StopHere => shX; clear shX; k_here; refine Stop.out ?_))
theorem zLen (az : List Str) (wcs : List (List Nat)) (sk : List Nat) (h : az.length ≤ 50) : (mergedZ az wcs sk).length ≤ 60 := by
  have key : ∀ (sk : List Nat) (M : List Str), M.length ≤ 60 → (sk.foldl (fun M p => M.filter fun k => (ownZ az (mkS (wcs.getD p []))).any (· == k)) M).length ≤ 60 := by
    intro sk
    induction sk with
    | nil => intro M h; exact h
    | cons p r ih => intro M h; exact ih _ (Nat.le_trans (List.length_filter_le _ _) h)
  exact key sk _ (by simp [startZ]; lia)
theorem rLen (c : Nat) (sk : List Nat) : (rulesZ c sk).length = 1 + 2 * sk.length := by
  have key : ∀ (sk : List Nat) (R : List Int), (sk.foldl (fun (R : List Int) (p : Nat) => R ++ [((p : Nat) : Int), ((p : Nat) : Int)]) R).length = R.length + 2 * sk.length := by
    intro sk
    induction sk with
    | nil => intro R; rfl
    | cons p r ih => intro R; rw [List.foldl_cons, ih]; simp; lia
  rw [rulesZ, key]
  rfl
noncomputable abbrev b212 : List Stmt := fnBody (nth top 24)
noncomputable abbrev fb212 : List Stmt := forB (nth b212 2)
section
variable {prog : Program} {w : World} {A : Around} {E : Value → Shared → Prop} {s : Shared} {g : Heap} {mean : ExcName → Option Value} {mg mb : PySem.Str → Option Value} {ls : List Str} {Q : Flow → Shared → Prop}
   {L la lw lk : Addr} {o1 : Obj} {ags wds sks : List Value} {n1 n2 n3 : Nat} {az : List Str} {wcs : List (List Nat)} {m : Str → Option Value} {vn : Value} {rs : List Stmt}
theorem mseg0a (X' : (K w.params).In g) (T' : Top topProg ls mean mg mb g) (hh : A.handled = none) (hd : A.depth + 50 < recursionLimit)
   (F : Fr g L s.heap m) (hm : Holds m [(Str.ofString "agents", .ref la), (Str.ofString "words", .ref lw), (Str.ofString "sick", .ref lk), (Str.ofString "number", vn)])
   (N : News g L s.heap [(L + 1, o1), (la, W.listOf ags.toArray n1), (lw, W.listOf wds.toArray n2), (lk, W.listOf sks.toArray n3)]) {Q : Flow → Shared → Prop}
   (hQ : ∀ (h : Heap) (tk : Nat) (GL z dz l1 l2 : Addr) (v1 v2 v3 v4 : Tok) (m' : Str → Option Value), Fr g L h m' → Holds m' [(Str.ofString "agents", .ref la), (Str.ofString "words", .ref lw), (Str.ofString "sick", .ref lk), (Str.ofString "number", vn), (Str.ofString "merged", .ref z), (Str.ofString "gone", .ref GL)] → News g L h [(GL, W.listOf #[] 0), (z, instObj 59 dz), (dz, entDict w.params v1 v2 v3 v4 (.ref l1) (.ref l2) .none .none), (L + 1, o1), (la, W.listOf ags.toArray n1), (lw, W.listOf wds.toArray n2), (lk, W.listOf sks.toArray n3)] → (@LT.lt Nat _ (L + 1) dz ∧ @LT.lt Nat _ la dz ∧ @LT.lt Nat _ lw dz ∧ @LT.lt Nat _ lk dz) → @LT.lt Nat _ dz z → @LT.lt Nat _ z GL → Q .next { s with heap := h, toks := tk }) :
   wpAny (model prog w) A (exec (nth b212 0) (env212 L)) Q E s := by
  have TR := topRead_of T'
  have F1 := pins F hm
  clear F hm
  rw [show nth b212 0 = _ from (by conv => lhs; whnf)]
  unfold env212 at *
  rw [show sc212 = _ from (by conv => lhs; whnf)] at *
  k_steps
  rename Fr _ _ _ _ => F
  rename News _ _ _ _ => N
  refine Stop.mk (entry_N X' T' F N (by lia) fun z dz l1 l2 v1 v2 v3 v4 h2 tk2 F2 N2 q1 q2 q3 q4 => ?_)
  have q1' := allLt_of q1
  simp only [AllLt] at q1'
  clear F N
  k_steps
  rename_i GL hGL qGL T3 h3 F3 N3 q5
  refine unpack2 F3 N3 hh ⟨_, N3.get (a := T3) (by k_mem), rfl, _, rfl⟩ rfl fun h4 F4 N4 => ?_
  have N4 := nPickE N4 [1, 2, 3, 6, 7, 8, 9]
  simp only [pickE, List.drop] at N4
  clear F3 N3 q5
  refine assignInOrder_cons ?_
  k_steps
  rename Fr _ _ _ _ => F5
  rename News _ _ _ _ => N5
  exact hQ _ _ GL z dz l1 l2 v1 v2 v3 v4 _ F5 ⟨rfl, rfl, rfl, rfl, rfl, rfl, trivial⟩ N5 ⟨q1'.1, q1'.2.1, q1'.2.2.1, q1'.2.2.2.1⟩ q2 qGL.1
theorem mseg0 (X' : (K w.params).In g) (T' : Top topProg ls mean mg mb g) (hh : A.handled = none) (hd : A.depth + 50 < recursionLimit)
   (F : Fr g L s.heap m) (hm : Holds m [(Str.ofString "agents", .ref la), (Str.ofString "words", .ref lw), (Str.ofString "sick", .ref lk), (Str.ofString "number", vn)])
   (N : News g L s.heap [(L + 1, o1), (la, W.listOf ags.toArray n1), (lw, W.listOf wds.toArray n2), (lk, W.listOf sks.toArray n3)])
   (haz : StrsAre ags az) (hw0 : wds.length = wcs.length) (haz50 : az.length ≤ 50) (hwz8 : wcs.length ≤ 8) (ltA : @LT.lt Nat _ la L) (ltW : @LT.lt Nat _ lw L) (ltK : @LT.lt Nat _ lk L)
   (hQ : ∀ (h : Heap) (tk : Nat) (GL z : Addr) (B : List (Addr × Obj)) (m' : Str → Option Value), Fr g L h m' → Holds m' [(Str.ofString "agents", .ref la), (Str.ofString "words", .ref lw), (Str.ofString "sick", .ref lk), (Str.ofString "number", vn), (Str.ofString "merged", .ref z), (Str.ofString "gone", .ref GL)] →
      News g L h ((L + 1, o1) :: (GL, W.listOf #[] 0) :: B) → (la, W.listOf ags.toArray n1) ∈ B → (lw, W.listOf wds.toArray n2) ∈ B → (lk, W.listOf sks.toArray n3) ∈ B → RecAt w.params B z (startZ az) [(wcs.length : Int)] none (some wcs.length) → (∀ p ∈ B, p.1 ≠ L + 1 ∧ p.1 ≠ GL) → @LT.lt Nat _ (L + 1) GL →
      wpAny (model prog w) A (execs rs (env212 L)) Q E { s with heap := h, toks := tk }) :
   wpAny (model prog w) A (execs (nth b212 0 :: nth b212 1 :: rs) (env212 L)) Q E s := by
  refine wpAny_execs_cons ?_
  refine mseg0a X' T' hh hd F hm N fun h1 tk1 GL z dz l1 l2 v1 v2 v3 v4 m1 F1 hm1 N1 q1' q2 qGL => ?_
  have TR := topRead_of T'
  have F2 := pins F1 hm1
  clear F hm N F1 hm1
  rw [show nth b212 1 = _ from (by conv => lhs; whnf)]
  unfold env212 at *
  rw [show sc212 = _ from (by conv => lhs; whnf)] at *
  k_steps
  rename_i S5 h5 F5 N5 q6
  have ha0 := haz.length
  refine Stop.mk (add_N (l := S5) (b := la) (us := [_]) (vs := ags) (n1 := 0) (n2 := n1) F5 N5 (by k_mem) (by k_mem) (by simp; lia) fun D6 h6 F6 N6 l6 => ?_)
  have l6' := allLt_of l6
  simp only [AllLt] at l6'
  have N6 := nPickE N6 [0, 2, 3, 4, 5, 6, 7, 8]
  simp only [pickE, List.drop] at N6
  clear F5 N5 l6 q6
  k_steps
  refine Stop.mk (take_N (l := la) (us := ags) (n := n1) (b := 2) F6 N6 (by k_mem) (by lia) fun D7 h7 F7 N7 l7 => ?_)
  have l7' := allLt_of l7
  simp only [AllLt] at l7'
  clear F6 N6 l7
  k_steps
  refine Stop.mk (add_N (l := D6) (b := D7) (us := _) (vs := ags.take 2) (n1 := 0) (n2 := 0) F7 N7 (by k_mem) (by k_mem) (by simp; lia) fun D8 h8 F8 N8 l8 => ?_)
  have l8' := allLt_of l8
  simp only [AllLt] at l8'
  have N8 := nPickE N8 [0, 3, 4, 5, 6, 7, 8, 9]
  simp only [pickE, List.drop] at N8
  clear F7 N7 l8 l7' l6'
  k_steps
  have hwl : ((wds.toArray.size : Nat) : Int) = (wcs.length : Int) := by rw [List.size_toArray, hw0]
  rename Fr _ _ _ _ => F8
  rename News _ _ _ _ => N8
  refine PyProof.Rows.len_list ⟨_, N8.get (a := lw) (by k_mem), rfl, _, rfl⟩ (by rw [hwl]; lia) ?_
  rw [hwl]
  k_steps
  rename_i RL hRL F9 N9 qRL
  refine PyProof.Rows.len_list ⟨_, N9.get (a := lw) (by k_mem), rfl, _, rfl⟩ (by rw [hwl]; lia) ?_
  rw [hwl]
  k_steps
  rename_i T10 h10 F10 N10 q10
  refine assignT3 F10 N10 hh ⟨_, N10.get (a := T10) (by k_mem), rfl, _, rfl⟩ fun h11 F11 N11 => ?_
  have N11 := nPickE N11 [1, 2, 3, 4, 5, 6, 7, 8, 9]
  simp only [pickE, List.drop] at N11
  clear F10 N10 q10
  k_steps
  rename Fr _ _ _ _ => F12
  rename News _ _ _ _ => N12
  have e1 : @Ne Nat RL (L + 1) ∧ @Ne Nat RL GL := ⟨neN (by lia), neN (by lia)⟩
  have e2 : @Ne Nat D8 (L + 1) ∧ @Ne Nat D8 GL := ⟨neN (by lia), neN (by lia)⟩
  have e3 : @Ne Nat z (L + 1) ∧ @Ne Nat z GL := ⟨neN (by lia), neN (by lia)⟩
  have e4 : @Ne Nat dz (L + 1) ∧ @Ne Nat dz GL := ⟨neN (by lia), neN (by lia)⟩
  have e5 : @LT.lt Nat _ (L + 1) GL := by lia
  have old : ∀ {b : Addr}, @LT.lt Nat _ b L → b ≠ L + 1 ∧ b ≠ GL := fun h => ⟨neN (by lia), neN (by lia)⟩
  clear q1' qGL qRL l8'
  exact hQ _ _ GL z [(RL, W.listOf #[.int (wcs.length : Int) _] 0), (D8, W.listOf (Value.str (Str.ofString "*") _ :: (ags ++ List.take 2 ags)).toArray 0), (z, instObj 59 dz), (dz, entDict w.params v1 v2 v3 v4 (.ref D8) (.ref RL) .none (.int (wcs.length : Int) _)), (la, W.listOf ags.toArray n1), (lw, W.listOf wds.toArray n2), (lk, W.listOf sks.toArray n3)] _ F12 ⟨rfl, rfl, rfl, rfl, rfl, rfl, trivial⟩
    (nPickE N12 [5, 2, 0, 1, 3, 4, 6, 7, 8]) (.tail _ (.tail _ (.tail _ (.tail _ (.head _))))) (.tail _ (.tail _ (.tail _ (.tail _ (.tail _ (.head _)))))) (.tail _ (.tail _ (.tail _ (.tail _ (.tail _ (.tail _ (.head _)))))))
    ⟨dz, D8, RL, v1, v2, v3, v4, _, _, 0, 0, .none, _, allP_cons (.tail _ (.tail _ (.head _))) (allP_cons (.tail _ (.tail _ (.tail _ (.head _)))) (allP_cons (.tail _ (.head _)) (allP_cons (.head _) fun _ h => nomatch h))), wrd_of (.cons _ _ (strs_app haz (strs_take haz 2))), .cons _ _ .nil, rfl, ⟨_, rfl⟩⟩
    (allP_cons e1 (allP_cons e2 (allP_cons e3 (allP_cons e4 (allP_cons (old ltA) (allP_cons (old ltW) (allP_cons (old ltK) fun _ h => nomatch h))))))) e5
end
end Mine
namespace Mine
local macro_rules | `(tactic| k_all) => `(tactic| first | assumption | (refine' all_cons ?a ?b; (case a => k_ne); (case b => k_all)))
local macro_rules | `(tactic| k_handed) => `(tactic| assumption)
local macro_rules | `(tactic| walk_at $k) => Mine.stopAt ["call ref", "subscriptTail Name Slice ref ref", "binaryOp Add ref ref", "exec For Tuple Call cons nil", "exec For", "eval ListComp"] k
local macro_rules | `(tactic| walk_at "exec Assign") => `(tactic| (rename StopHere => shX; clear shX; k_here; refine Stop.out ?_))
section
variable {prog : Program} {w : World} {A : Around} {E : Value → Shared → Prop} {s : Shared} {g : Heap} {mean : ExcName → Option Value} {mg mb : PySem.Str → Option Value} {ls : List Str} {Q : Flow → Shared → Prop}
   {L la lw z GL : Addr} {oc : Obj} {u : Option Value} {ags wds : List Value} {n1 n2 p i number : Nat} {az : List Str} {wcs : List (List Nat)} {m : Str → Option Value} {va vw vk vg : Value} {rs : List Stmt} {U : List (Addr × Obj)} {tn t tx tw : Tok}
theorem mturnA (X' : (K w.params).In g) (T' : Top topProg ls mean mg mb g) (hh : A.handled = none) (hd : A.depth + 50 < recursionLimit) (hu : A.units + 190 < cLine)
   (F : Fr g L s.heap m) (hm : Holds m [(Str.ofString "agents", va), (Str.ofString "words", .ref lw), (Str.ofString "sick", vk), (Str.ofString "number", .int (number : Nat) tn), (Str.ofString "merged", .ref z), (Str.ofString "gone", vg), (Str.ofString "k", .int (i : Nat) t), (Str.ofString "place", .int (p : Nat) tx)])
   (N : News g L s.heap ((L + 1, oc) :: (lw, W.listOf wds.toArray n2) :: U)) (hoc : oc.data = .cell u) (hU : ∀ q ∈ U, q.1 ≠ L + 1) (ltW : @LT.lt Nat _ lw L)
   (hwz : StrsAre wds (wcs.map mkS)) (hpw : p < wcs.length) (hwz8 : wcs.length ≤ 8) (hp3 : i < 3) (hwp : (wcs.getD p []).length ≤ 20 ∧ ∀ c ∈ wcs.getD p [], 97 ≤ c ∧ c ≤ 112)
   (hQ : ∀ (h : Heap) (tk : Nat) (m' : Str → Option Value) (oc' : Obj) (t' : Tok), Fr g L h m' → Holds m' [(Str.ofString "agents", va), (Str.ofString "words", .ref lw), (Str.ofString "sick", vk), (Str.ofString "number", .int (number : Nat) tn), (Str.ofString "merged", .ref z), (Str.ofString "gone", vg), (Str.ofString "place", .int (p : Nat) tx)] →
      News g L h ((L + 1, oc') :: U) → oc'.data = .cell (some (.str (mkS (wcs.getD p [])) t')) → wpAny (model prog w) (A.deeper (env212 L)) (execs rs (env212 L)) Q E { s with heap := h, toks := tk }) :
   wpAny (model prog w) (A.deeper (env212 L)) (execs (nth fb212 0 :: nth fb212 1 :: rs) (env212 L)) Q E s := by
  have TR := topRead_of T'
  have F1 := pins F hm
  clear F hm
  rw [show nth fb212 0 = _ from (by conv => lhs; whnf), show nth fb212 1 = _ from (by conv => lhs; whnf)]
  unfold env212 at *
  rw [show sc212 = _ from (by conv => lhs; whnf)] at *
  have hw0 : wds.length = wcs.length := by rw [hwz.length, List.length_map]
  have hrest : ∀ q ∈ (lw, W.listOf wds.toArray n2) :: U, q.1 ≠ L + 1 := all_cons (neN (by lia)) hU
  k_steps
  rename Fr _ _ _ _ => F16
  rename News _ _ _ _ => N16
  have hgd : (List.map mkS wcs).getD ((p : Nat) : Int).toNat PySem.Str.empty = ⟨(wcs.getD p []).toArray⟩ := by
    rw [Int.toNat_natCast, List.getD_eq_getElem?_getD, List.getElem?_map, List.getElem?_eq_getElem hpw, List.getD_eq_getElem?_getD, List.getElem?_eq_getElem hpw]
    rfl
  have hne : ((⟨(wcs.getD p []).toArray⟩ : Str) != (List.map mkS wcs).getD ((p : Nat) : Int).toNat PySem.Str.empty) = false := by rw [hgd]; simp
  rw [show ((number : Nat) : Int) + 1299709 * ((i : Nat) : Int) = ((number + 1299709 * i : Nat) : Int) by lia]
  rw [hgd]
  refine Stop.mk (law_front_spec (cs := wcs.getD p []) (number := number + 1299709 * i) (Frag.In.keeps X' F16.keep) (T'.keeps F16.keep) hh (by show A.depth + 1 + 40 < _; lia) (by show A.units + _ + 100 < _; lia) hwp.2 hwp.1 fun h17 tk17 t17 he17 => ?_)
  have F17 := F16.keeps he17
  have N17 := N16.grown he17
  clear F16 N16
  k_steps
  rename Fr _ _ _ _ => F19
  rename News _ _ _ _ => N19
  rename Obj.data _ = Data.cell (some _) => hoc19
  exact hQ _ _ _ _ _ F19 ⟨rfl, rfl, rfl, rfl, rfl, rfl, rfl, trivial⟩ (nSub N19 (sub_cons (by k_mem) fun q hq => List.mem_cons_of_mem _ (List.mem_cons_of_mem _ hq))) hoc19
theorem mturnB (X' : (K w.params).In g) (T' : Top topProg ls mean mg mb g) (hh : A.handled = none) (hd : A.depth + 50 < recursionLimit) (hu : A.units + 190 < cLine)
   (F : Fr g L s.heap m) (hm : Holds m [(Str.ofString "agents", .ref la), (Str.ofString "words", va), (Str.ofString "sick", vk), (Str.ofString "number", .int (number : Nat) tn), (Str.ofString "merged", .ref z), (Str.ofString "gone", vg), (Str.ofString "place", .int (p : Nat) tx)])
   (N : News g L s.heap ((L + 1, oc) :: (la, W.listOf ags.toArray n1) :: U)) (hoc : oc.data = .cell (some (.str (mkS (wcs.getD p [])) t))) (haz : StrsAre ags az) (haz50 : az.length ≤ 50) (haz10 : ∀ z ∈ az, z.length ≤ 10) (hwp : (wcs.getD p []).length ≤ 20)
   (hQ : ∀ (h : Heap) (tk : Nat) (m' : Str → Option Value) (x dx D r : Addr) (u1 u2 u3 u4 : Tok) (ys : List Value), Fr g L h m' → Holds m' [(Str.ofString "agents", .ref la), (Str.ofString "words", va), (Str.ofString "sick", vk), (Str.ofString "number", .int (number : Nat) tn), (Str.ofString "merged", .ref z), (Str.ofString "gone", vg), (Str.ofString "place", .int (p : Nat) tx), (Str.ofString "own", .ref x)] →
      News g L h ((x, instObj 59 dx) :: (dx, entDict w.params u1 u2 u3 u4 (.ref D) (.ref r) .none .none) :: (D, W.listOf ys.toArray 0) :: (L + 1, oc) :: U) → StrsAre ys (ownZ az (mkS (wcs.getD p []))) → (∀ q ∈ (L + 1, oc) :: U, q.1 < dx) → @LT.lt Nat _ dx x → @LT.lt Nat _ x D →
      wpAny (model prog w) (A.deeper (env212 L)) (execs rs (env212 L)) Q E { s with heap := h, toks := tk }) :
   wpAny (model prog w) (A.deeper (env212 L)) (execs (nth fb212 2 :: nth fb212 3 :: rs) (env212 L)) Q E s := by
  have TR := topRead_of T'
  have F1 := pins F hm
  clear F hm
  rw [show nth fb212 2 = _ from (by conv => lhs; whnf), show nth fb212 3 = _ from (by conv => lhs; whnf)]
  unfold env212 at *
  rw [show sc212 = _ from (by conv => lhs; whnf)] at *
  k_steps
  rename Fr _ _ _ _ => F19
  rename News _ _ _ _ => N19
  refine Stop.mk (entry_N X' T' F19 N19 (by show A.depth + 1 + 5 < _; lia) fun x dx a2 r2 u1 u2 u3 u4 h20 tk20 F20 N20 c1 c2 c3 c4 => ?_)
  have c0 : ∀ q ∈ (L + 1, oc) :: U, @LT.lt Nat _ q.1 dx := fun q hq => c1 q (List.mem_cons.mp hq |>.elim (fun e => e ▸ .head _) fun h => .tail _ (.tail _ h))
  have cla : @LT.lt Nat _ la dx := c1 _ (.tail _ (.head _))
  have cL : @LT.lt Nat _ (L + 1) dx := c1 _ (.head _)
  have N20 := nPick N20 [0, 1, 5, 4] 6
  simp only [pickL, List.drop] at N20
  clear F19 N19 c1
  k_steps
  rename Fr _ _ _ _ => F21
  rename News _ _ _ _ => N21
  refine' Stop.mk (compOfT F21 ?k1 rfl ?k3 rfl ?_)
  case k1 => exact rfl
  case k3 => decide
  k_steps
  rename Fr _ _ _ _ => F21
  rename News _ _ _ _ => N21
  refine Stop.mk (rev_N (l := la) (us := ags) (n := n1) F21 N21 (by k_mem) (by have := haz.length; lia) fun D22 h22 F22 N22 l22 => ?_)
  have N22 := nPick N22 [0, 1, 2, 4] 5
  simp only [pickL, List.drop] at N22
  clear F21 N21 l22
  have hrv : StrsAre ags.reverse az.reverse := strs_rev haz
  obtain ⟨hr1, hr2⟩ := wrd_of hrv
  refine ⟨[], az.length, fun j v _ => ags.reverse.toArray[j]? = some v, _,
    fun j ys => ys.length ≤ j ∧ j ≤ az.length ∧ StrsAre ys ((az.reverse.take j).filter fun z => !occ (mkS (wcs.getD p [])) (Txt.lower z)),
    [D22], starts_list' (by have := haz.length; simp; lia) hh ⟨_, N22.get (a := D22) (by k_mem), rfl, _, rfl⟩, F22, N22, (fun _ h => nomatch h), ⟨Nat.le_refl _, Nat.zero_le _, .nil⟩, ?_, ?_, ?_⟩
  · intro j ys hj
    exact Nat.le_trans (Nat.le_trans hj.1 (Nat.le_trans hj.2.1 haz50)) (by decide)
  · intro D C oC mC j v hp0 ys tail s₁ E' Qe Qs hj hC hCv F₁ N₁ hap hq hq' hv hJ
    obtain ⟨hy1, hy2, hys⟩ := hJ
    obtain ⟨zz, tz, rfl, hzz⟩ := hr2 j v hv
    have hz10 : zz.length ≤ 10 := haz10 zz (by have := List.mem_of_getElem? hzz; simpa using this)
    have hgj : (az.reverse.take (j + 1)).filter (fun z => !occ (mkS (wcs.getD p [])) (Txt.lower z)) = (az.reverse.take j).filter (fun z => !occ (mkS (wcs.getD p [])) (Txt.lower z)) ++ (if (!occ (mkS (wcs.getD p [])) (Txt.lower zz)) = true then [zz] else []) := by
      rw [List.take_add_one, hzz, List.filter_append]
      congr 1
      simp only [Option.toList_some, List.filter_cons, List.filter_nil]
    clear F22 N22 hQ
    k_steps
    · rename List.isEmpty _ = true => hemp
      rename Fr _ _ _ _ => F2
      rename News _ _ _ _ => N2
      exact hq _ _ _ _ F2 N2 (sub_pre [] _ _ _ tail) ⟨by simp; lia, hj, by rw [hgj, if_pos (by unfold occ; rw [hemp]; rfl)]; exact strs_snoc hys⟩
    · rename List.isEmpty _ = false => hemp
      rename Fr _ _ _ _ => F2
      rename News _ _ _ _ => N2
      exact hq' _ _ _ F2 N2 (sub_pre [] _ _ _ tail) ⟨by lia, hj, by rw [hgj, if_neg (by unfold occ; rw [hemp]; decide), List.append_nil]; exact hys⟩
  · intro D h23 tk23 ys hLD F23 N23 hap2 hJ
    obtain ⟨hy1, hy2, hys⟩ := hJ
    clear F22 N22
    rw [List.take_of_length_le (by simp)] at hys
    have nD1 : @Ne Nat dx D := hap2 _ (.tail _ (.tail _ (.head _)))
    have far : ∀ q ∈ U, q.1 ≠ dx := fun q hq => Nat.ne_of_lt (c0 q (.tail _ hq))
    have hy50 : ys.length ≤ 50 := Nat.le_trans hy1 (Nat.le_trans hy2 haz50)
    have N23 := nPick N23 [0, 2, 3, 4] 5
    simp only [pickL, List.drop] at N23
    clear hap2 hr1 hr2 hrv
    k_steps
    rename_i S24 h24 F24 N24 l24
    refine Stop.mk (add_N (l := D) (b := S24) (us := ys) (vs := [_]) F24 N24 (by k_mem) (by k_mem) (by simp; lia) fun D25 h25 F25 N25 l25 => ?_)
    have lx : @LT.lt Nat _ x D25 := l25 (x, _) (.tail _ (.tail _ (.head _)))
    have ldx : @Ne Nat D25 dx := Nat.ne_of_gt (l25 (dx, _) (.tail _ (.tail _ (.tail _ (.head _)))))
    have N25 := nPick N25 [0, 3, 4, 5] 6
    simp only [pickL, List.drop] at N25
    clear F24 N24 l24 l25
    k_steps
    rename Fr _ _ _ _ => F26
    rename News _ _ _ _ => N26
    exact hQ _ _ _ x dx D25 r2 u1 u2 u3 u4 (ys ++ [Value.str (Str.ofString "*") _]) F26 ⟨rfl, rfl, rfl, rfl, rfl, rfl, rfl, rfl, trivial⟩ (nPick N26 [1, 2, 0, 3] 4) (strs_snoc hys) c0 c2 lx
end
end Mine
namespace Mine
local macro_rules | `(tactic| k_all) => `(tactic| first | assumption | (refine' all_cons ?a ?b; (case a => k_ne); (case b => k_all)))
local macro_rules | `(tactic| k_handed) => `(tactic| assumption)
local macro_rules | `(tactic| walk_at $k) => Mine.stopAt ["call ref", "subscriptTail Name Slice ref ref", "binaryOp Add ref ref", "exec For Tuple Call cons nil", "exec For", "eval ListComp"] k
theorem all_lt1 {a d : Addr} {o : Obj} {V : List (Addr × Obj)} (h : a < d) (hV : ∀ q ∈ V, q.1 < d) : ∀ q ∈ (a, o) :: V, q.1 < d := fun q hq => by
  rcases List.mem_cons.mp hq with rfl | hq
  · exact h
  · exact hV q hq
section
variable {prog : Program} {w : World} {A : Around} {E : Value → Shared → Prop} {s : Shared} {g : Heap} {mean : ExcName → Option Value} {mg mb : PySem.Str → Option Value} {ls : List Str} {Q : Flow → Shared → Prop}
   {L x dx D r : Addr} {p : Nat} {m : Str → Option Value} {va vw vk vn vm vg : Value} {rs : List Stmt} {V : List (Addr × Obj)} {tx u1 u2 u3 u4 : Tok}
theorem mturnC (X' : (K w.params).In g) (T' : Top topProg ls mean mg mb g) (hh : A.handled = none)
   (F : Fr g L s.heap m) (hm : Holds m [(Str.ofString "agents", va), (Str.ofString "words", vw), (Str.ofString "sick", vk), (Str.ofString "number", vn), (Str.ofString "merged", vm), (Str.ofString "gone", vg), (Str.ofString "place", .int (p : Nat) tx), (Str.ofString "own", .ref x)])
   (N : News g L s.heap ((x, instObj 59 dx) :: (dx, entDict w.params u1 u2 u3 u4 (.ref D) (.ref r) .none .none) :: V)) (hxd : @LT.lt Nat _ dx x) (hV : ∀ q ∈ V, q.1 ≠ dx) (hp8 : p < 8)
   (hQ : ∀ (h : Heap) (tk : Nat) (m' : Str → Option Value) (RL2 : Addr) (dv rv : Value) (ta tb : Tok), Fr g L h m' → Holds m' [(Str.ofString "agents", va), (Str.ofString "words", vw), (Str.ofString "sick", vk), (Str.ofString "number", vn), (Str.ofString "merged", vm), (Str.ofString "gone", vg), (Str.ofString "own", .ref x)] →
      News g L h ((RL2, W.listOf #[.int (p : Int) ta, .int (p : Int) tb] 0) :: (x, instObj 59 dx) :: (dx, entDict w.params u1 u2 u3 u4 (.ref D) (.ref RL2) dv rv) :: V) → ValIs dv (if p % 2 = 1 then some (p / 2) else none) → ValIs rv (if p % 2 = 0 then some (p / 2) else none) → (∀ q ∈ (x, instObj 59 dx) :: V, q.1 < RL2) →
      wpAny (model prog w) (A.deeper (env212 L)) (execs rs (env212 L)) Q E { s with heap := h, toks := tk }) :
   wpAny (model prog w) (A.deeper (env212 L)) (execs (nth fb212 4 :: rs) (env212 L)) Q E s := by
  have TR := topRead_of T'
  have F1 := pins F hm
  clear F hm
  rw [show nth fb212 4 = _ from (by conv => lhs; whnf)]
  unfold env212 at *
  rw [show sc212 = _ from (by conv => lhs; whnf)] at *
  have hf2 : ((p : Nat) : Int).fmod 2 = ((p % 2 : Nat) : Int) := by rw [Int.fmod_eq_emod_of_nonneg _ (by decide)]; rfl
  have hd2 : ((p : Nat) : Int).fdiv 2 = ((p / 2 : Nat) : Int) := by rw [Int.fdiv_eq_ediv_of_nonneg _ (by decide)]; rfl
  k_steps
  all_goals try (exfalso; lia)
  · skip
    rename_i q2 e1 e0 T h3 F28 N28 q3
    have big := all_lt1 (a := x) (o := instObj 59 dx) q2.1 (mem_allLt q2.2.2)
    have ndx : @LT.lt Nat _ dx _ := q2.2.1
    have nT : @LT.lt Nat _ dx T := q3.2.2.1
    clear q2 q3
    refine assignT3 F28 N28 hh ⟨_, N28.get (a := T) (by k_mem), rfl, _, rfl⟩ fun h29 F29 N29 => ?_
    have N29 := nPick N29 [1, 2, 3] 4
    simp only [pickL, List.drop] at N29
    clear F28 N28
    k_steps
    rename Fr _ _ _ _ => F30
    rename News _ _ _ _ => N30
    exact hQ _ _ _ _ _ _ _ _ F30 ⟨rfl, rfl, rfl, rfl, rfl, rfl, rfl, trivial⟩ N30 (by rw [if_pos (by lia)]; exact ⟨_, by rw [hd2]⟩) (by rw [if_neg (by lia)]; rfl) big
  · skip
    rename_i q2 e1 e0 T h3 F28 N28 q3
    have big := all_lt1 (a := x) (o := instObj 59 dx) q2.1 (mem_allLt q2.2.2)
    have ndx : @LT.lt Nat _ dx _ := q2.2.1
    have nT : @LT.lt Nat _ dx T := q3.2.2.1
    clear q2 q3
    refine assignT3 F28 N28 hh ⟨_, N28.get (a := T) (by k_mem), rfl, _, rfl⟩ fun h29 F29 N29 => ?_
    have N29 := nPick N29 [1, 2, 3] 4
    simp only [pickL, List.drop] at N29
    clear F28 N28
    k_steps
    rename Fr _ _ _ _ => F30
    rename News _ _ _ _ => N30
    exact hQ _ _ _ _ _ _ _ _ F30 ⟨rfl, rfl, rfl, rfl, rfl, rfl, rfl, trivial⟩ N30 (by rw [if_neg (by lia)]; rfl) (by rw [if_pos (by lia)]; exact ⟨_, by rw [hd2]⟩) big
end
end Mine
namespace Mine
theorem ownLen {az : List Str} {x : Str} (h : az.length ≤ 50) : (ownZ az x).length ≤ 60 := by
  have e : (ownZ az x).length ≤ az.length + 1 := by
    unfold ownZ
    rw [List.length_append]
    exact Nat.add_le_add (Nat.le_trans (List.length_filter_le _ _) (by simp)) (Nat.le_refl _)
  lia
theorem mturn {prog : Program} {w : World} {A : Around} {E : Value → Shared → Prop} {s : Shared} {g : Heap} {mean : ExcName → Option Value} {mg mb : PySem.Str → Option Value} {ls : List Str} {Q : Flow → Shared → Prop}
   {L la lw z GL : Addr} {oc : Obj} {u : Option Value} {ags wds gone : List Value} {n n1 n2 p i number : Nat} {az mz : List Str} {rz : List Int} {dl rl : Option Nat} {wcs : List (List Nat)} {m : Str → Option Value} {vk : Value} {made B tail : List (Addr × Obj)} {tn t tx : Tok}
   (X' : (K w.params).In g) (T' : Top topProg ls mean mg mb g) (hh : A.handled = none) (hd : A.depth + 60 < recursionLimit) (hu : A.units + 200 < cLine)
   (F : Fr g L s.heap m) (hm : Holds m [(Str.ofString "agents", .ref la), (Str.ofString "words", .ref lw), (Str.ofString "sick", vk), (Str.ofString "number", .int (number : Nat) tn), (Str.ofString "merged", .ref z), (Str.ofString "gone", .ref GL), (Str.ofString "k", .int (i : Nat) t), (Str.ofString "place", .int (p : Nat) tx)])
   (N : News g L s.heap ((L + 1, oc) :: (GL, W.listOf gone.toArray n) :: (B ++ tail))) (hoc : oc.data = .cell u) (hla : (la, W.listOf ags.toArray n1) ∈ B) (hlw : (lw, W.listOf wds.toArray n2) ∈ B) (ltA : @LT.lt Nat _ la L) (ltW : @LT.lt Nat _ lw L)
   (haz : StrsAre ags az) (haz50 : az.length ≤ 50) (haz10 : ∀ z ∈ az, z.length ≤ 10) (hwz : StrsAre wds (wcs.map mkS)) (hpw : p < wcs.length) (hwz8 : wcs.length ≤ 8) (hp3 : i < 3) (hwp : (wcs.getD p []).length ≤ 20 ∧ ∀ c ∈ wcs.getD p [], 97 ≤ c ∧ c ≤ 112)
   (hrec : RecAt w.params (made ++ B) z mz rz dl rl) (hmz : mz.length ≤ 60) (hrz : rz.length ≤ 60) (hmade : ∀ q ∈ made, q ∈ tail) (hap : ∀ q ∈ B ++ tail, q.1 ∉ [L + 1, GL]) (hgl : gone.length ≤ 10) (l6 : @LT.lt Nat _ (L + 1) GL) (hgone : ∀ v ∈ gone, GoneAt w.params (made ++ B) v)
   (hQ : ∀ (h' : Heap) (tk : Nat) (m' : Str → Option Value) (oc' : Obj) (u' : Option Value) (gone' : List Value) (n' : Nat) (z' : Addr) (new : List (Addr × Obj)), Fr g L h' m' → News g L h' ((L + 1, oc') :: (GL, W.listOf gone'.toArray n') :: (new ++ tail)) → oc'.data = .cell u' → (∀ q ∈ new, q.1 ∉ [L + 1, GL] ∧ ∀ r ∈ tail, q.1 ≠ r.1) →
      RecAt w.params (new ++ made ++ B) z' (mz.filter fun k => (ownZ az (mkS (wcs.getD p []))).any (· == k)) (rz ++ [(p : Int), (p : Int)]) ((if p % 2 = 1 then some (p / 2) else none).or dl) ((if p % 2 = 0 then some (p / 2) else none).or rl) → gone'.length = gone.length + 2 → (∀ v ∈ gone', GoneAt w.params (new ++ made ++ B) v) →
      Holds m' [(Str.ofString "agents", .ref la), (Str.ofString "words", .ref lw), (Str.ofString "sick", vk), (Str.ofString "number", .int (number : Nat) tn), (Str.ofString "merged", .ref z'), (Str.ofString "gone", .ref GL)] → Q .next { s with heap := h', toks := tk }) :
   wpAny (model prog w) (A.deeper (env212 L)) (execs fb212 (env212 L)) Q E s := by
  rw [show fb212 = nth fb212 0 :: nth fb212 1 :: nth fb212 2 :: nth fb212 3 :: nth fb212 4 :: (forB (nth (fnBody (nth top 24)) 2)).drop 5 from by kernel_rfl]
  have hap1 : ∀ q ∈ (GL, W.listOf gone.toArray n) :: (B ++ tail), q.1 ≠ L + 1 := all_cons (Nat.ne_of_gt l6) fun q hq e => hap q hq (e ▸ .head _)
  refine mturnA (U := (GL, W.listOf gone.toArray n) :: (B ++ tail)) X' T' hh (room hd) (room hu) F hm (nSub N (sub_cons (.head _) (sub_cons (.tail _ (.tail _ (List.mem_append_left tail hlw))) fun q hq => .tail _ hq))) hoc hap1 ltW hwz hpw hwz8 hp3 hwp fun h1 tk1 m1 oc1 t1 F1 hm1 N1 hoc1 => ?_
  refine mturnB (U := (GL, W.listOf gone.toArray n) :: (B ++ tail)) (s := { s with heap := h1, toks := tk1 }) X' T' hh (room hd) (room hu) F1 hm1 (nSub N1 (sub_cons (.head _) (sub_cons (.tail _ (.tail _ (List.mem_append_left tail hla))) fun q hq => .tail _ hq))) hoc1 haz haz50 haz10 hwp.1 fun h2 tk2 m2 x dx D r u1 u2 u3 u4 ys F2 hm2 N2 hys ltd l3 l4 => ?_
  have hV : ∀ q ∈ (D, W.listOf ys.toArray 0) :: (L + 1, oc1) :: (GL, W.listOf gone.toArray n) :: (B ++ tail), q.1 ≠ dx := all_cons (Nat.ne_of_gt (Nat.lt_trans l3 l4)) fun q hq => Nat.ne_of_lt (ltd q hq)
  have hoz60 : (ownZ az (mkS (wcs.getD p []))).length ≤ 60 := ownLen haz50
  refine mturnC (s := { s with heap := h2, toks := tk2 }) X' T' hh F2 hm2 N2 l3 hV (Nat.lt_of_lt_of_le hpw hwz8) fun h3 tk3 m3 RL2 dv rv ta tb F3 hm3 N3 hdv hrv ltR => ?_
  exact turn2 (p := p) (made := made) (s := { s with heap := h3, toks := tk3 }) X' T' hh hd hu F3 hm3 (nPick N3 [4, 5, 0, 1, 2, 3] 6) hdv hrv hys hoz60 hrec hmz hrz hmade hap hgl (fun q hq => ltd q (.tail _ (.tail _ hq))) (ltd (L + 1, oc1) (.head _)) (ltd (GL, W.listOf gone.toArray n) (.tail _ (.head _))) l3 l4 (ltR (D, W.listOf ys.toArray 0) (.tail _ (.head _))) l6 hgone
    fun h31 tk31 m31 gone31 n31 z31 new31 F31 N31 ap31 rec31 len31 gone31' hm31 => hQ h31 tk31 m31 oc1 _ gone31 n31 z31 new31 F31 N31 hoc1 ap31 rec31 len31 gone31' hm31
end Mine
namespace Mine
local macro_rules | `(tactic| walk_at "no such place") => `(tactic| fail)
local macro_rules | `(tactic| k_all) => `(tactic| first | assumption | (refine' all_cons ?a ?b; (case a => k_ne); (case b => k_all)))
local macro_rules | `(tactic| k_handed) => `(tactic| assumption)
local macro_rules | `(tactic| walk_at $k) => Mine.stopAt ["call ref", "subscriptTail Name Slice ref ref", "binaryOp Add ref ref", "exec For Tuple Call cons nil", "exec For", "eval ListComp"] k
inductive MergeJ (P : Params) (la lw : Addr) (vk vn : Value) (L GL : Addr) (B : List (Addr × Obj)) (az : List Str) (wcs : List (List Nat)) (sk : List Nat) (i : Nat) (m : Str → Option Value) (mo made : List (Addr × Obj)) : Prop
  | intro (oc : Obj) (u : Option Value) (gone : List Value) (n : Nat) (z : Addr) (hmo : mo = [(L + 1, oc), (GL, W.listOf gone.toArray n)]) (hoc : oc.data = .cell u)
      (hrec : RecAt P (made ++ B) z (mergedZ az wcs (sk.take i)) (rulesZ wcs.length (sk.take i)) (delayZ (sk.take i)) (rateZ wcs.length (sk.take i))) (hgl : gone.length = 2 * i) (hgone : ∀ v ∈ gone, GoneAt P (made ++ B) v)
      (hm : Holds m [(Str.ofString "agents", .ref la), (Str.ofString "words", .ref lw), (Str.ofString "sick", vk), (Str.ofString "number", vn), (Str.ofString "merged", .ref z), (Str.ofString "gone", .ref GL)])
theorem own_fresh {g h : Heap} {L : Addr} {m : Str → Option Value} {led : List (Addr × Obj)} (F : Fr g L h m) (N : News g L h led) : ∀ b ∈ [h.objs.size + 1, h.objs.size], g.get? b = none ∧ ∀ p ∈ led, p.1 ≠ b := fun b hb => by
  have hle : @LE.le Nat _ h.objs.size b := (List.mem_cons.mp hb).elim (fun e => e ▸ Nat.le_succ _) fun h' => List.mem_singleton.mp h' ▸ Nat.le_refl _
  refine ⟨?_, fun p hp e => ?_⟩
  · cases e : g.get? b with
    | none => rfl
    | some o => exact absurd (Heap.lt_size (F.keep b o e)) (Nat.not_lt.mpr hle)
  · exact absurd (Heap.lt_size (N p hp).1) (Nat.not_lt.mpr (e ▸ hle))
theorem mloop {prog : Program} {w : World} {A : Around} {s : Shared} {g : Heap} {mean : ExcName → Option Value} {mg mb : PySem.Str → Option Value} {ls : List Str} {Q : Flow → Shared → Prop}
   {L la lw lk z GL : Addr} {o1 : Obj} {u : Option Value} {ags wds sks : List Value} {n1 n2 n3 number : Nat} {az : List Str} {wcs : List (List Nat)} {sk : List Nat} {m : Str → Option Value} {B : List (Addr × Obj)} {tn : Tok}
   (X' : (K w.params).In g) (T' : Top topProg ls mean mg mb g) (hh : A.handled = none) (hd : A.depth + 60 < recursionLimit) (hu : A.units + 200 < cLine)
   (F : Fr g L s.heap m) (hm : Holds m [(Str.ofString "agents", .ref la), (Str.ofString "words", .ref lw), (Str.ofString "sick", .ref lk), (Str.ofString "number", .int (number : Nat) tn), (Str.ofString "merged", .ref z), (Str.ofString "gone", .ref GL)])
   (N : News g L s.heap ((L + 1, o1) :: (GL, W.listOf #[] 0) :: B)) (d1 : o1.data = .cell u) (hla : (la, W.listOf ags.toArray n1) ∈ B) (hlw : (lw, W.listOf wds.toArray n2) ∈ B) (hlk : (lk, W.listOf sks.toArray n3) ∈ B) (ltA : @LT.lt Nat _ la L) (ltW : @LT.lt Nat _ lw L)
   (hB0 : RecAt w.params B z (startZ az) [(wcs.length : Int)] none (some wcs.length)) (hBG : ∀ p ∈ B, p.1 ≠ L + 1 ∧ p.1 ≠ GL) (l6 : @LT.lt Nat _ (L + 1) GL)
   (haz : StrsAre ags az) (hwz : StrsAre wds (wcs.map mkS)) (hsk : IntsAre sks (sk.map Int.ofNat)) (haz50 : az.length ≤ 50) (hwz8 : wcs.length ≤ 8) (hwc : ∀ l ∈ wcs, l.length ≤ 20 ∧ ∀ c ∈ l, 97 ≤ c ∧ c ≤ 112) (haz10 : ∀ z ∈ az, z.length ≤ 10) (hsk3 : sk.length ≤ 3) (hskw : ∀ p ∈ sk, p < wcs.length)
   (hQ : ∀ (h' : Heap) (tk : Nat) (m' : Str → Option Value) (gone : List Value) (n : Nat) (z' : Addr) (made : List (Addr × Obj)), Fr g L h' m' → News g L h' ((GL, W.listOf gone.toArray n) :: (made ++ B)) →
      RecAt w.params (made ++ B) z' (mergedZ az wcs sk) (rulesZ wcs.length sk) (delayZ sk) (rateZ wcs.length sk) → (∀ v ∈ gone, GoneAt w.params (made ++ B) v) →
      Holds m' [(Str.ofString "agents", .ref la), (Str.ofString "words", .ref lw), (Str.ofString "sick", .ref lk), (Str.ofString "number", .int (number : Nat) tn), (Str.ofString "merged", .ref z'), (Str.ofString "gone", .ref GL)] → Q .next { s with heap := h', toks := tk }) :
   wpAny (model prog w) (A.deeper (env212 L)) (exec (nth b212 2) (env212 L)) Q (fun _ _ => False) s := by
  have TR := topRead_of T'
  have F1 := pins F hm
  clear F hm
  rw [show nth b212 2 = .For (forT0 (nth b212 2)) (forI0 (nth b212 2)) fb212 [] (forP0 (nth b212 2)) from by kernel_rfl, show forT0 (nth b212 2) = _ from (by conv => lhs; whnf), show forI0 (nth b212 2) = _ from (by conv => lhs; whnf)]
  unfold env212
  rw [show sc212 = _ from (by conv => lhs; whnf)]
  have NB := nSub N (sub_cons (a := (lk, W.listOf sks.toArray n3)) (.tail _ (.tail _ hlk)) fun q hq => hq)
  refine forG (h₀ := g) (L := L) rfl ?_
  k_steps
  rename Fr _ _ _ _ => F12
  rename News _ _ _ _ => NB'
  refine call_enumerate_list (l := lk) (items := sks.toArray) ⟨_, NB'.get (a := lk) (by k_mem), rfl, _, rfl⟩ fun h13 he13 hit13 hsz13 hk13 => ?_
  have F13 := F12.keeps hk13
  have N13 := NB'.grown hk13
  have hskl : sks.length = sk.length := by rw [hsk.length, List.length_map]
  obtain ⟨hsk1, hsk2⟩ := ints_get hsk
  have hfr := own_fresh F12 NB'
  generalize Heap.objs s.heap = oo at he13 hit13 hsz13 hfr
  refine ⟨[_, _], [lk], sk.length, fun i v h => ∃ T vals, v = .ref T ∧ (∃ t x, sks.toArray[i]? = some x ∧ vals = #[.int i t, x]) ∧ h.IsTuple T vals, [L + 1, GL], [(L + 1, o1), (GL, W.listOf #[] 0)], B, _,
    MergeJ w.params la lw (.ref lk) (.int (number : Nat) tn) L GL B az wcs sk,
    by rw [← hskl]; exact starts_enum hh he13 hit13 ⟨_, N13.get (a := lk) (by k_mem), rfl, _, rfl⟩ (Nat.succ_ne_self _), F13, nPick N13 [1, 2] 3, rfl, fun b hb => ?_, fun b hb => ⟨(hfr b hb).1, fun p hp => (hfr b hb).2 p (.tail _ (.tail _ (.tail _ hp)))⟩, ⟨o1, _, [], 0, z, rfl, d1, hB0, rfl, (fun _ h => nomatch h), ⟨rfl, rfl, rfl, rfl, rfl, rfl, trivial⟩⟩, ?_, ?_⟩
  · have h1 : ∀ c ∈ [lk], c ≠ L + 1 ∧ c ≠ GL := fun c hc => List.mem_singleton.mp hc ▸ hBG _ hlk
    rcases List.mem_cons.mp hb with rfl | hb
    · exact ⟨fun x => (h1 _ x).1 rfl, fun x => (hfr _ x).2 _ (.tail _ (.head _)) rfl, fun p hp => (hBG p hp).1⟩
    · obtain rfl := List.mem_singleton.mp hb
      exact ⟨fun x => (h1 _ x).2 rfl, fun x => (hfr _ x).2 _ (.tail _ (.tail _ (.head _))) rfl, fun p hp => (hBG p hp).2⟩
  · intro i v m₁ mo made tail s₁ E' hi hj hv hs F₁ N₁ hmade hap hmo
    obtain ⟨T, vals, rfl, ⟨t, x, hx, rfl⟩, hT⟩ := hv
    obtain ⟨oc, u1, gone, n, z1, rfl, hoc, hrec, hgl, hgone, hm1⟩ := hj
    have F₂ := pins F₁ hm1
    obtain ⟨p, hp⟩ : ∃ p, sk[i]? = some p := ⟨_, List.getElem?_eq_getElem hi⟩
    obtain ⟨tx, hxe⟩ := hsk2 i (p : Int) (by rw [List.getElem?_map, hp]; rfl)
    obtain rfl : x = .int (p : Int) tx := by
      rw [List.getElem?_toArray, hxe] at hx
      exact (Option.some.inj hx).symm
    have hpw := hskw p (List.mem_of_getElem? hp)
    have hi3 : i < 3 := Nat.lt_of_lt_of_le hi hsk3
    have hwp := hwc (wcs.getD p []) (by rw [List.getD_eq_getElem?_getD, List.getElem?_eq_getElem hpw]; exact List.getElem_mem _)
    have hz := zLen az wcs (sk.take i) haz50
    have hr : (rulesZ wcs.length (sk.take i)).length ≤ 60 := by rw [rLen, List.length_take]; lia
    clear NB' N13 F12 F13 he13 hit13 hsz13 hk13 hfr hsk1 hsk2 hx hxe F₁ hm1 hQ hB0
    refine assignP F₂ N₁ rfl hh hT rfl rfl rfl fun h14 tk14 F14 N14 => ?_
    show wpAny _ (A.deeper (env212 L)) (execs fb212 (env212 L)) _ _ _
    refine mturn (B := B) (tail := tail) (made := made) (s := { s₁ with heap := h14, toks := tk14 }) X' T' hh hd hu F14 ⟨rfl, rfl, rfl, rfl, rfl, rfl, rfl, rfl, trivial⟩ N14 hoc hla hlw ltA ltW haz haz50 haz10 hwz hpw hwz8 hi3 hwp hrec hz hr (fun q hq => hmade q hq) hap (by lia) l6 hgone fun h31 tk31 m31 oc' u' gone31 n31 z31 new31 F31 N31 hoc' ap31 rec31 len31 gone31' hm31 => ?_
    refine ForEnd.next _ (hs.trans ⟨h31, tk31, rfl⟩) m31 [(L + 1, oc'), (GL, W.listOf gone31.toArray n31)] new31 F31 N31 rfl ap31 ⟨oc', u', gone31, n31, z31, rfl, hoc', ?_, by lia, gone31', hm31⟩
    rw [show sk.take (i + 1) = sk.take i ++ [p] by rw [List.take_add_one, hp]; rfl, merged_step, rules_step, delay_step, rate_step]
    exact rec31
  · intro h9 tk9 m' mo made hj F9 N9 hmo hap
    obtain ⟨oc, u1, gone, n, z1, rfl, hoc, hrec, hgl, hgone, hm1⟩ := hj
    rw [List.take_length] at hrec
    exact hQ h9 tk9 m' gone n z1 made F9 (nSub N9 fun q hq => .tail _ hq) hrec hgone hm1
end Mine
namespace Mine
theorem merged_spec {prog : Program} {w : World} {A : Around} {E : Value → Shared → Prop} {s : Shared} {h₀ : Heap} {mean : ExcName → Option Value} {mg mb : PySem.Str → Option Value} {ls : List Str} {Q : Value → Shared → Prop}
   {la lw lk : Addr} {ags wds sks : List Value} {n1 n2 n3 : Nat} {az : List Str} {wcs : List (List Nat)} {sk : List Nat} {number : Nat} {tn : Tok}
   (X : (K w.params).In h₀) (T : Top topProg ls mean mg mb h₀) (hk : Ext h₀ s.heap) (hh : A.handled = none) (hd : A.depth + 60 < recursionLimit) (hu : A.units + 200 < cLine)
   (O : ∀ p ∈ [(la, W.listOf ags.toArray n1), (lw, W.listOf wds.toArray n2), (lk, W.listOf sks.toArray n3)], s.heap.get? p.1 = some p.2 ∧ h₀.get? p.1 = none) (hap : la ≠ lw ∧ la ≠ lk ∧ lw ≠ lk)
   (haz : StrsAre ags az) (hwz : StrsAre wds (wcs.map mkS)) (hsk : IntsAre sks (sk.map Int.ofNat)) (haz2 : 2 ≤ az.length) (haz50 : az.length ≤ 50) (hwz8 : wcs.length ≤ 8) (hwc : ∀ l ∈ wcs, l.length ≤ 20 ∧ ∀ c ∈ l, 97 ≤ c ∧ c ≤ 112) (haz10 : ∀ z ∈ az, z.length ≤ 10) (hsk3 : sk.length ≤ 3) (hskw : ∀ p ∈ sk, p < wcs.length)
   (hQ : ∀ (h' : Heap) (tk : Nat) (z dz a r : Addr) (t1 t2 t3 t4 : Tok) (us rs : List Value) (m1 m2 : Nat) (dv rv : Value), Ext s.heap h' → (∀ p ∈ entObs w.params z dz a r t1 t2 t3 t4 us rs m1 m2 dv rv, h'.get? p.1 = some p.2 ∧ (s.heap.get? p.1 = none ∨ p.1 ∈ [la, lw, lk])) →
      Wrd us.toArray (mergedZ az wcs sk) → IntsAre rs (rulesZ wcs.length sk) → ValIs dv (delayZ sk) → ValIs rv (rateZ wcs.length sk) → Q (.ref z) {s with heap := h', toks := tk}) :
   wpAny (model prog w) A (call (.ref 212) [.ref la, .ref lw, .ref lk, .int (number : Nat) tn]) Q E s := by
  have X0 := Frag.In.keeps X hk
  have T0 := T.keeps hk
  k_dflt (refine' enterC [(Str.ofString "agents", .ref la), (Str.ofString "words", .ref lw), (Str.ofString "sick", .ref lk), (Str.ofString "number", .int (number : Nat) tn)] X0 T0.nolimit ?k1 ?k2 (by lia) ?kb ?ks ?k3 ?k4 ?k5 ?k6 ?k7 ?k8 ?_)
  case k1 => k_dflt k_is
  case k2 => k_dflt k_is
  case kb => conv => lhs; whnf
  case ks => conv => lhs; whnf
  case k3 => exact BindsTo.of_eq rfl
  case k4 => rfl
  case k5 => decide
  case k6 => exact rfl
  case k7 => exact rfl
  case k8 => exact rfl
  intro h₁ L tk0 cells F0 N0 Y lc
  obtain ⟨o1, rfl, d1⟩ := Y.one
  obtain ⟨g, kx, F, N, gk, gs⟩ := ghostedN hk O F0 N0
  have X' := Frag.In.keeps X kx
  have T' := T.keeps kx
  have TR := topRead_of T'
  have ltA : @LT.lt Nat _ la L := Nat.lt_of_lt_of_le (Heap.lt_size (O (la, W.listOf ags.toArray n1) (by simp)).1) F0.above
  have ltW : @LT.lt Nat _ lw L := Nat.lt_of_lt_of_le (Heap.lt_size (O (lw, W.listOf wds.toArray n2) (by simp)).1) F0.above
  have ltK : @LT.lt Nat _ lk L := Nat.lt_of_lt_of_le (Heap.lt_size (O (lk, W.listOf sks.toArray n3) (by simp)).1) F0.above
  clear X0 T0 F0 N0
  simp only [List.cons_append, List.nil_append] at N
  have hw0 : wds.length = wcs.length := by rw [hwz.length, List.length_map]
  obtain ⟨u0, d1⟩ : ∃ u, o1.data = .cell u := ⟨_, d1⟩
  show wpAny _ (A.deeper (env212 L)) (execs b212 (env212 L)) _ _ _
  rw [show b212 = nth b212 0 :: nth b212 1 :: nth b212 2 :: (fnBody (nth top 24)).drop 3 from by kernel_rfl]
  refine mseg0 (s := { s with heap := h₁, toks := tk0 }) X' T' hh (by show A.depth + 1 + 50 < _; lia) F ⟨rfl, rfl, rfl, rfl, trivial⟩ N haz hw0 haz50 hwz8 ltA ltW ltK fun h2 tk2 GL z B m2 F2 hm2 N2 hla hlw hlk hB0 hBG l6 => ?_
  clear F N TR
  refine wpAny_execs_cons (mloop (s := { s with heap := h2, toks := tk2 }) X' T' hh hd hu F2 hm2 N2 d1 hla hlw hlk ltA ltW hB0 hBG l6 haz hwz hsk haz50 hwz8 hwc haz10 hsk3 hskw fun h9 tk9 m' gone n z' made F9 N9 hrec hgone hm' => ?_)
  refine turn3 (all := made ++ B) (n := n) (s := { s with heap := h9, toks := tk9 }) X' T' hh hd hu F9 hm' N9 hgone fun h10 tk10 m10 F10 N10 => ?_
  obtain ⟨dz, a, r, t1, t2, t3, t4, us, rs, m1, m2, dv, rv, hsub, h1, h2, h3, h4⟩ := hrec
  refine hQ h10 _ z' dz a r t1 t2 t3 t4 us rs m1 m2 dv rv (ext_back gk O F10.keep ?_) (fun q hq => ⟨(N10 q (hsub q hq)).1, ?_⟩) h1 h2 h3 h4
  · intro q hq
    rcases List.mem_cons.mp hq with rfl | hq
    · exact (N10 _ (List.mem_append_right _ hla)).1
    · rcases List.mem_cons.mp hq with rfl | hq
      · exact (N10 _ (List.mem_append_right _ hlw)).1
      · rw [List.mem_singleton.mp hq]
        exact (N10 _ (List.mem_append_right _ hlk)).1
  · by_cases hm : q.1 ∈ [la, lw, lk]
    · exact .inr hm
    · refine .inl (none_back gk (N10 q (hsub q hq)).2.2 fun p hp e => hm (e ▸ ?_))
      exact List.mem_map_of_mem (f := (·.1)) hp
end Mine
namespace Mine
local macro_rules | `(tactic| k_all) => `(tactic| first | assumption | (refine' all_cons ?a ?b; (case a => k_ne); (case b => k_all)))
local macro_rules | `(tactic| k_handed) => `(tactic| assumption)
local macro_rules | `(tactic| walk_at $k) => Mine.stopAt ["call ref"] k
theorem lseg9 {prog : Program} {w : World} {A : Around} {E : Value → Shared → Prop} {s : Shared} {g : Heap} {mean : ExcName → Option Value} {mg mb : PySem.Str → Option Value} {ls : List Str} {Q : Flow → Shared → Prop}
   {L f D A0 W0 K0 : Addr} {cdv : Value} {o5 o6 o7 : Obj} {u7 : Option Value} {R : List (Addr × Obj)} {m : Str → Option Value} {ys as ws ks : List Value} {cs sk : List Nat} {az : List Str} {wcs : List (List Nat)} {va : Value}
   (X' : (K w.params).In g) (T' : Top topProg ls mean mg mb g) (hh : A.handled = none) (hd : A.depth + 100 < recursionLimit) (hu : A.units + 300 < cLine)
   (F : Fr g L s.heap m) (hm : Holds m [(Str.ofString "cells", .ref D), (Str.ofString "every", va), (Str.ofString "agents", .ref A0)])
   (N : News g L s.heap ((K0, W.listOf ks.toArray 0) :: (W0, lst ws) :: (A0, lst as) :: (D, lst ys) :: (L + 1 + 1 + 1 + 1 + 1, o5) :: (L + 1 + 1 + 1 + 1 + 1 + 1, o6) :: (L + 1 + 1 + 1 + 1 + 1 + 1 + 1, o7) :: R))
   (h5 : o5.data = .cell (some (.ref W0))) (h6 : o6.data = .cell (some (.ref K0))) (h7 : o7.data = .cell u7) (hys : IntsAre ys (cs.map Int.ofNat)) (hcs : cs.length = 6)
   (hap : A0 ≠ W0 ∧ A0 ≠ K0 ∧ W0 ≠ K0) (hR7 : ∀ p ∈ (K0, W.listOf ks.toArray 0) :: (W0, lst ws) :: (A0, lst as) :: (D, lst ys) :: R, p.1 ≠ L + 1 + 1 + 1 + 1 + 1 + 1 + 1)
   (haz : StrsAre as az) (hwz : StrsAre ws (wcs.map mkS)) (hsk : IntsAre ks (sk.map Int.ofNat)) (haz2 : 2 ≤ az.length) (haz50 : az.length ≤ 50) (hwz8 : wcs.length ≤ 8) (hwc : ∀ l ∈ wcs, l.length ≤ 20 ∧ ∀ c ∈ l, 97 ≤ c ∧ c ≤ 112) (haz10 : ∀ z ∈ az, z.length ≤ 10) (hsk3 : sk.length ≤ 3) (hskw : ∀ p ∈ sk, p < wcs.length)
   (hQ : ∀ (h' : Heap) (tk : Nat) (m' : Str → Option Value) (z dz a r : Addr) (t1 t2 t3 t4 : Tok) (us rs : List Value) (m1 m2 : Nat) (dv rv : Value) (o7' : Obj), Fr g L h' m' → Holds m' [(Str.ofString "every", va), (Str.ofString "agents", .ref A0)] →
      News g L h' ((K0, W.listOf ks.toArray 0) :: (W0, lst ws) :: (A0, lst as) :: (L + 1 + 1 + 1 + 1 + 1, o5) :: (L + 1 + 1 + 1 + 1 + 1 + 1, o6) :: (L + 1 + 1 + 1 + 1 + 1 + 1 + 1, o7') :: (entObs w.params z dz a r t1 t2 t3 t4 us rs m1 m2 dv rv ++ R)) → o7'.data = .cell (some (.ref z)) →
      Wrd us.toArray (mergedZ az wcs sk) → IntsAre rs (rulesZ wcs.length sk) → ValIs dv (delayZ sk) → ValIs rv (rateZ wcs.length sk) →
      wpAny (model prog w) (A.deeper (env217 L f cdv)) (execs (b217.drop 10) (env217 L f cdv)) Q E { s with heap := h', toks := tk }) :
   wpAny (model prog w) (A.deeper (env217 L f cdv)) (execs (b217.drop 9) (env217 L f cdv)) Q E s := by
  have F1 := pins F hm
  clear F hm
  rw [show b217.drop 9 = nth b217 9 :: b217.drop 10 from rfl]
  generalize b217.drop 10 = rst at *
  rw [show nth b217 9 = _ from (by conv => lhs; whnf)]
  unfold env217 at *
  rw [show sc217 = _ from (by conv => lhs; whnf)] at *
  obtain ⟨hl, hg⟩ := ints_get hys
  k_steps
  rename Fr _ _ _ _ => F2
  rename News _ _ _ _ => N2
  rw [show ((List.map Int.ofNat cs).getD (Int.toNat 5) 0) = ((cs.getD (Int.toNat 5) 0 : Nat) : Int) from by
    rw [List.getD_eq_getElem?_getD, List.getD_eq_getElem?_getD, List.getElem?_map]
    cases cs[Int.toNat 5]? <;> rfl]
  have zA := N2 (A0, lst as) (by k_mem)
  have zW := N2 (W0, lst ws) (by k_mem)
  have zK := N2 (K0, W.listOf ks.toArray 0) (by k_mem)
  refine Stop.mk (merged_spec (h₀ := g) (n1 := as.length) (n2 := ws.length) (n3 := 0) (az := az) (wcs := wcs) (sk := sk) X' T' F2.keep hh (by show A.depth + 1 + 60 < _; lia) (by show A.units + _ + 200 < _; lia) ?O hap haz hwz hsk haz2 haz50 hwz8 hwc haz10 hsk3 hskw fun h3 tk3 z dz a r t1 t2 t3 t4 us rs m1 m2 dv rv he ho hus hrs hdv hrv => ?_)
  case O => exact allP_cons ⟨zA.1, zA.2.2⟩ (allP_cons ⟨zW.1, zW.2.2⟩ (allP_cons ⟨zK.1, zK.2.2⟩ fun _ h => nomatch h))
  have NE : ∀ p ∈ entObs w.params z dz a r t1 t2 t3 t4 us rs m1 m2 dv rv, (h3.get? p.1 = some p.2 ∧ p.1 ≠ L ∧ g.get? p.1 = none) ∧ p.1 ≠ L + 1 + 1 + 1 + 1 + 1 + 1 + 1 := fun p hp => by
    obtain ⟨e, h⟩ := ho p hp
    rcases h with h | h
    · refine ⟨⟨e, ?_, ?_⟩, ?_⟩
      · intro x
        obtain ⟨oL, _, _, hL, _⟩ := F2.ns
        rw [x, hL] at h
        cases h
      · cases e' : g.get? p.1 with
        | none => rfl
        | some o => rw [F2.keep _ o e'] at h; cases h
      · intro x
        rw [x, (N2 (L + 1 + 1 + 1 + 1 + 1 + 1 + 1, o7) (by k_mem)).1] at h
        cases h
    · have key : ∀ q ∈ [A0, W0, K0], q ≠ L ∧ g.get? q = none ∧ q ≠ L + 1 + 1 + 1 + 1 + 1 + 1 + 1 := allP_cons ⟨zA.2.1, zA.2.2, hR7 (A0, lst as) (.tail _ (.tail _ (.head _)))⟩ (allP_cons ⟨zW.2.1, zW.2.2, hR7 (W0, lst ws) (.tail _ (.head _))⟩ (allP_cons ⟨zK.2.1, zK.2.2, hR7 (K0, W.listOf ks.toArray 0) (.head _)⟩ fun _ h => nomatch h))
      exact ⟨⟨e, (key _ h).1, (key _ h).2.1⟩, (key _ h).2.2⟩
  have hQ2 := fun h' tk m' o7' x1 x2 x3 x4 => hQ h' tk m' z dz a r t1 t2 t3 t4 us rs m1 m2 dv rv o7' x1 x2 x3 x4 hus hrs hdv hrv
  clear hQ ho
  generalize entObs w.params z dz a r t1 t2 t3 t4 us rs m1 m2 dv rv = EO at *
  have F3 := F2.keeps he
  have N3 : News g L h3 ((K0, W.listOf ks.toArray 0) :: (W0, lst ws) :: (A0, lst as) :: (L + 1 + 1 + 1 + 1 + 1, o5) :: (L + 1 + 1 + 1 + 1 + 1 + 1, o6) :: (L + 1 + 1 + 1 + 1 + 1 + 1 + 1, o7) :: (EO ++ R)) :=
    nApp (a := [(K0, W.listOf ks.toArray 0), (W0, lst ws), (A0, lst as), (L + 1 + 1 + 1 + 1 + 1, o5), (L + 1 + 1 + 1 + 1 + 1 + 1, o6), (L + 1 + 1 + 1 + 1 + 1 + 1 + 1, o7)]) (nSub (N2.grown he) (sub_cons (by k_mem) (sub_cons (by k_mem) (sub_cons (by k_mem) (sub_cons (by k_mem) (sub_cons (by k_mem) (sub_cons (by k_mem) fun _ h => nomatch h))))))) (nApp (fun p hp => (NE p hp).1) (nPick (N2.grown he) [] 7))
  have nK : @Ne Nat K0 (L + 1 + 1 + 1 + 1 + 1 + 1 + 1) := hR7 (K0, W.listOf ks.toArray 0) (.head _)
  have nW : @Ne Nat W0 (L + 1 + 1 + 1 + 1 + 1 + 1 + 1) := hR7 (W0, lst ws) (.tail _ (.head _))
  have nA : @Ne Nat A0 (L + 1 + 1 + 1 + 1 + 1 + 1 + 1) := hR7 (A0, lst as) (.tail _ (.tail _ (.head _)))
  have hER : ∀ p ∈ EO ++ R, p.1 ≠ L + 1 + 1 + 1 + 1 + 1 + 1 + 1 := fun p hp => (List.mem_append.mp hp).elim (fun h => (NE p h).2) fun h => hR7 p (.tail _ (.tail _ (.tail _ (.tail _ h))))
  clear F2 N2
  k_steps
  rename Fr _ _ _ _ => F9
  rename News _ _ _ _ => N9
  rename_i o9 d9
  exact hQ2 _ _ _ o9 F9 ⟨rfl, rfl, trivial⟩ N9 d9
end Mine
namespace Mine
local macro_rules | `(tactic| walk_at "no such place") => `(tactic| fail)
local macro_rules | `(tactic| k_all) => `(tactic| first | assumption | (refine' all_cons ?a ?b; (case a => k_ne); (case b => k_all)))
local macro_rules | `(tactic| k_handed) => `(tactic| assumption)
local macro_rules | `(tactic| walk_at $k) => Mine.stopAt ["eval ListComp", "binaryOp Add ref ref"] k
noncomputable def dblZ (sk : List Nat) : List Int := sk.flatMap fun (p : Nat) => [(p : Int), (p : Int)]
theorem rules_dbl (c : Nat) (sk : List Nat) : rulesZ c sk = (c : Int) :: dblZ sk := by
  have key : ∀ (sk : List Nat) (R : List Int), sk.foldl (fun (R : List Int) (p : Nat) => R ++ [((p : Nat) : Int), ((p : Nat) : Int)]) R = R ++ dblZ sk := by
    intro sk
    induction sk with
    | nil => intro R; simp [dblZ]
    | cons p r ih => intro R; rw [List.foldl_cons, ih]; simp [dblZ]
  unfold rulesZ
  rw [key]
  rfl
theorem dbl_snoc (sk : List Nat) (p : Nat) : dblZ (sk ++ [p]) = dblZ sk ++ [(p : Int), (p : Int)] := by
  unfold dblZ
  rw [List.flatMap_append]
  rfl
theorem dbl_len : ∀ l : List Nat, (dblZ l).length = 2 * l.length := by
  intro l
  induction l with
  | nil => rfl
  | cons a r ih => show (dblZ r).length + 2 = _; rw [ih]; simp; lia
theorem dbl_step {sk : List Nat} {i j p : Nat} {zs : List Value} (h : IntsAre zs (dblZ (sk.take i) ++ List.replicate j (Int.ofNat p))) (t : Tok) : IntsAre (zs ++ [.int (Int.ofNat p) t]) (dblZ (sk.take i) ++ List.replicate (j + 1) (Int.ofNat p)) := by
  rw [List.replicate_succ', ← List.append_assoc]
  exact ints_snoc h _ _
theorem dbl_le {sk : List Nat} {i : Nat} {ys : List Value} (hys : IntsAre ys (dblZ (sk.take i))) (h3 : sk.length ≤ 3) : ys.length ≤ 10 := by
  rw [hys.length, dbl_len, List.length_take]
  lia
theorem aft_name {prog : Program} {w : World} {A : Around} {x : Str} {px : Pos} {scope : Scope} {cl : List (Str × Addr)} {env : Env} {P : Nat → Value → Heap → Prop} {hkind : scope.kind = .function} {hx : scope.names.lookup x = some .local} {C : Addr} {i : Nat} {v : Value} {oC : Obj}
    (h : (kindName (prog := prog) (w := w) (A := A) x px scope cl env P hkind hx).Aft C i v [(C, oC)]) : ∃ mC h, NsObj oC mC ∧ mC x = some v ∧ P i v h := by
  obtain ⟨oC', mC, ho, hC, hCv, h, hv⟩ := h
  obtain rfl : oC' = oC := by simpa using ho.symm
  exact ⟨mC, h, hC, hCv, hv⟩
theorem lseg10 {prog : Program} {w : World} {A : Around} {E : Value → Shared → Prop} {s : Shared} {g : Heap} {mean : ExcName → Option Value} {mg mb : PySem.Str → Option Value} {ls : List Str} {Q : Flow → Shared → Prop}
   {L f K0 : Addr} {cdv : Value} {o3 o6 o7 : Obj} {R : List (Addr × Obj)} {m : Str → Option Value} {ks : List Value} {sk : List Nat} {count : Nat} {t0 : Tok} {va vb : Value}
   {z dz a r : Addr} {t1 t2 t3 t4 : Tok} {us rs : List Value} {m1 m2 : Nat} {dv rv : Value}
   (X' : (K w.params).In g) (T' : Top topProg ls mean mg mb g) (hh : A.handled = none) (hd : A.depth + 100 < recursionLimit) (hu : A.units + 300 < cLine)
   (F : Fr g L s.heap m) (hm : Holds m [(Str.ofString "every", va), (Str.ofString "agents", vb)])
   (N : News g L s.heap ((z, instObj 59 dz) :: (dz, entDict w.params t1 t2 t3 t4 (.ref a) (.ref r) dv rv) :: (a, W.listOf us.toArray m1) :: (r, W.listOf rs.toArray m2) :: (K0, W.listOf ks.toArray 0) :: (L + 1 + 1 + 1, o3) :: (L + 1 + 1 + 1 + 1 + 1 + 1, o6) :: (L + 1 + 1 + 1 + 1 + 1 + 1 + 1, o7) :: R))
   (h3 : o3.data = .cell (some (.int (count : Nat) t0))) (h6 : o6.data = .cell (some (.ref K0))) (h7 : o7.data = .cell (some (.ref z)))
   (hsk : IntsAre ks (sk.map Int.ofNat)) (hsk3 : sk.length ≤ 3) (hrs : IntsAre rs (rulesZ count sk)) (hdl : handedIn dv = true) (hrr : handedIn rv = true)
   (hQ : ∀ (h' : Heap) (tk : Nat) (m' : Str → Option Value), Fr g L h' m' → Holds m' [(Str.ofString "every", va), (Str.ofString "agents", vb)] →
      News g L h' ((z, instObj 59 dz) :: (dz, entDict w.params t1 t2 t3 t4 (.ref a) (.ref r) dv rv) :: (a, W.listOf us.toArray m1) :: (r, W.listOf rs.toArray m2) :: (K0, W.listOf ks.toArray 0) :: (L + 1 + 1 + 1, o3) :: (L + 1 + 1 + 1 + 1 + 1 + 1, o6) :: (L + 1 + 1 + 1 + 1 + 1 + 1 + 1, o7) :: R) →
      wpAny (model prog w) (A.deeper (env217 L f cdv)) (execs (b217.drop 11) (env217 L f cdv)) Q E { s with heap := h', toks := tk }) :
   wpAny (model prog w) (A.deeper (env217 L f cdv)) (execs (b217.drop 10) (env217 L f cdv)) Q E s := by
  rw [rules_dbl] at hrs
  have F1 := pins F hm
  clear F hm
  rw [show b217.drop 10 = nth b217 10 :: b217.drop 11 from rfl]
  generalize b217.drop 11 = rst at *
  rw [show nth b217 10 = _ from (by conv => lhs; whnf)]
  unfold env217 at *
  rw [show sc217 = _ from (by conv => lhs; whnf)] at *
  k_steps
  rename_i S1 h1 F2 N2 q1
  refine' Stop.mk (comp2 (cl := []) F2 ?k1 rfl rfl ?k3 ?_)
  case k1 => rfl
  case k3 => decide
  k_steps
  refine ⟨[], sk.length, _, _, fun i ys => i ≤ sk.length ∧ IntsAre ys (dblZ (sk.take i)), kindName _ _ _ _ _ _ rfl rfl, [K0], starts_nats hh N2 (by k_mem) hsk, F2, N2, (fun _ h => nomatch h), ⟨Nat.zero_le _, .nil⟩, fun _ => rfl, fun C h m' hn => ⟨m', hn⟩, ?_, ?_, ?_⟩
  · rintro C i v own' ⟨oC, m', rfl, _⟩
    exact ⟨oC, rfl⟩
  · intro D C oC i v ys tail s₁ E' hi hDC hnD F₁ N₁ hA hj
    obtain ⟨mC, _, hC, hCv, p, tx, hp, rfl⟩ := aft_name hA
    obtain ⟨hi2, hys⟩ := hj
    have hylen := dbl_le hys hsk3
    clear F2 N2 hA
    k_steps
    rename_i h10 tk10 ta1 ta2 ta3 hr10 F10 N10 he10
    refine ⟨⟨_, _, rfl⟩, [], 2, fun j v _ => ∃ t, v = .int ((0 : Int) + (j : Nat)) t, fun j zs => j ≤ 2 ∧ zs.length = ys.length + j ∧ IntsAre zs (dblZ (sk.take i) ++ List.replicate j (Int.ofNat p)), fun m => m (Str.ofString "place") = some (.int (Int.ofNat p) tx), mC, starts_range hh hr10 (by decide) (by decide), F10, N10, hC, hCv, ?_, ⟨List.not_mem_nil, List.not_mem_nil, List.not_mem_nil⟩, ⟨Nat.zero_le _, rfl, by simpa using hys⟩, ?_, ?_, ?_⟩
    · intro m v h
      show (if Str.ofString "place" = Str.ofString "k" then some v else m (Str.ofString "place")) = _
      rw [if_neg (by decide)]
      exact h
    · rintro j zs ⟨hj, hl, _⟩
      exact Nat.le_trans (by lia : zs.length ≤ 100) (by decide)
    · intro j v _ zs oC2 m2 tail2 s₂ E2 Qe hj hC2 hv2 F₂ N₂ hq hk2 hP hz
      obtain ⟨t5, rfl⟩ := hP
      have hk3 : m2 (Str.ofString "place") = some (.int (Int.ofNat p) tx) := hk2
      clear F10 N10 hk2
      k_steps
      obtain ⟨hj2, hzl, hzs⟩ := hz
      exact hq _ _ _ _ F₂ N₂ (sub_pre [] _ _ _ _) ⟨hj, by rw [List.length_append, hzl]; rfl, dbl_step hzs _⟩
    · rintro zs ⟨_, _, hzs⟩
      refine ⟨hi, ?_⟩
      rw [List.take_add_one, hp, Option.toList_some, dbl_snoc]
      exact hzs
  · intro D h7' tk7 ys hLD hj F7 N7 hap7
    obtain ⟨_, hys⟩ := hj
    clear F2 N2
    rw [List.take_length] at hys
    have hyl := hys.length
    rw [dbl_len] at hyl
    have nS : @Ne Nat S1 D := hap7 _ List.mem_cons_self
    k_steps
    refine Stop.mk (add_N (l := S1) (b := D) (us := [_]) (vs := ys) (n1 := 0) (n2 := ys.length) F7 N7 (by k_mem) (by k_mem) (by simp; lia) fun P0 h8 F8 N8 l8 => ?_)
    have hP : IntsAre ([Value.int (count : Int) t0] ++ ys) ((count : Int) :: dblZ sk) := .cons _ _ hys
    generalize ([Value.int (count : Int) t0] ++ ys) = ps at *
    clear F7 N7
    k_steps
    rename Fr _ _ _ _ => F9
    rename News _ _ _ _ => N9
    exact hQ _ _ _ F9 ⟨rfl, rfl, trivial⟩ (nSub N9 fun p hp => List.mem_cons_of_mem _ (List.mem_cons_of_mem _ (List.mem_cons_of_mem _ hp)))
end Mine
namespace Mine
local macro_rules | `(tactic| k_all) => `(tactic| first | assumption | (refine' all_cons ?a ?b; (case a => k_ne); (case b => k_all)))
local macro_rules | `(tactic| k_handed) => `(tactic| assumption)
local macro_rules | `(tactic| walk_at $k) => Mine.stopAt ["eval ListComp", "binaryOp Add ref ref", "subscriptTail", "last subscriptTail"] k
noncomputable def halves (b : Nat) (sk : List Nat) : List Nat := (sk.filter fun p => p % 2 == b).map (· / 2)
theorem halves_snoc (b : Nat) (sk : List Nat) (p : Nat) : halves b (sk ++ [p]) = halves b sk ++ (if p % 2 = b then [p / 2] else []) := by
  unfold halves
  rw [List.filter_append, List.map_append]
  congr 1
  by_cases h : p % 2 = b <;> simp [h]
theorem delay_last (sk : List Nat) : delayZ sk = (halves 1 sk).getLast? := by
  have key : ∀ n (sk : List Nat), sk.length = n → delayZ sk = (halves 1 sk).getLast? := by
    intro n
    induction n with
    | zero => intro sk h; rw [List.length_eq_zero_iff.mp h]; rfl
    | succ n ih =>
      intro sk h
      have hne : sk ≠ [] := by intro e; rw [e] at h; cases h
      rw [← List.dropLast_concat_getLast hne, delay_step, halves_snoc, ih _ (by simp [h])]
      by_cases h2 : sk.getLast hne % 2 = 1
      · simp [h2]
      · simp [h2]
  exact key _ sk rfl
theorem rate_last (c : Nat) (sk : List Nat) : rateZ c sk = some (((halves 0 sk).getLast?).getD c) := by
  have key : ∀ n (sk : List Nat), sk.length = n → rateZ c sk = some (((halves 0 sk).getLast?).getD c) := by
    intro n
    induction n with
    | zero => intro sk h; rw [List.length_eq_zero_iff.mp h]; rfl
    | succ n ih =>
      intro sk h
      have hne : sk ≠ [] := by intro e; rw [e] at h; cases h
      rw [← List.dropLast_concat_getLast hne, rate_step, halves_snoc, ih _ (by simp [h])]
      by_cases h2 : sk.getLast hne % 2 = 0
      · simp [h2]
      · simp [h2]
  exact key _ sk rfl
theorem ints_last {ys : List Value} {hs : List Nat} (h : IntsAre ys (hs.map Int.ofNat)) (v0 : Value) : ∃ dv, ([v0] ++ ys).getLast? = some dv ∧ ((hs.getLast? = none ∧ dv = v0) ∨ ∃ n t, hs.getLast? = some n ∧ dv = .int (n : Int) t) := by
  have hl := h.length
  rw [List.length_map] at hl
  rcases Nat.eq_zero_or_pos ys.length with e | e
  · have e1 := List.length_eq_zero_iff.mp e
    have e2 := List.length_eq_zero_iff.mp (show hs.length = 0 by lia)
    subst e1 e2
    exact ⟨v0, rfl, .inl ⟨rfl, rfl⟩⟩
  · obtain ⟨v, hv⟩ : ∃ v, ys[ys.length - 1]? = some v := ⟨_, List.getElem?_eq_getElem (by lia)⟩
    obtain ⟨x, t, rfl, hx⟩ := ints_mem h _ _ hv
    rw [List.getElem?_map] at hx
    cases e2 : hs[ys.length - 1]? with
    | none => rw [e2] at hx; cases hx
    | some n =>
      rw [e2] at hx
      obtain rfl := Option.some.inj hx
      refine ⟨.int (n : Int) t, ?_, .inr ⟨n, t, ?_, rfl⟩⟩
      · rw [List.getLast?_append, List.getLast?_eq_getElem? (l := ys), hv]
        rfl
      · rw [List.getLast?_eq_getElem?, ← hl, e2]
theorem half_in {ys : List Value} {sk : List Nat} {i p b : Nat} (hp : sk[i]? = some p) (h : IntsAre ys ((halves b (sk.take i)).map Int.ofNat)) (hb : p % 2 = b) (t : Tok) : IntsAre (ys ++ [.int (Int.fdiv (Int.ofNat p) 2) t]) ((halves b (sk.take (i + 1))).map Int.ofNat) := by
  rw [List.take_add_one, hp, Option.toList_some, halves_snoc, if_pos hb, List.map_append]
  have := ints_snoc h (Int.fdiv (Int.ofNat p) 2) t
  rwa [show Int.fdiv (Int.ofNat p) 2 = Int.ofNat (p / 2) from fdiv_nat p 2] at this ⊢
theorem half_out {ys : List Value} {sk : List Nat} {i p b : Nat} (hp : sk[i]? = some p) (h : IntsAre ys ((halves b (sk.take i)).map Int.ofNat)) (hb : p % 2 ≠ b) : IntsAre ys ((halves b (sk.take (i + 1))).map Int.ofNat) := by
  rw [List.take_add_one, hp, Option.toList_some, halves_snoc, if_neg hb, List.append_nil]
  exact h
theorem fmod_two {p : Nat} {b : Nat} (h : Int.fmod (Int.ofNat p) 2 = (b : Int)) : p % 2 = b := by
  have := fmod_nat p 2
  exact Int.ofNat.inj (this.symm.trans h)
theorem fmod_two_ne {p : Nat} {b : Nat} (h : Int.fmod (Int.ofNat p) 2 ≠ (b : Int)) : p % 2 ≠ b := fun e => h ((fmod_nat p 2).trans (congrArg Int.ofNat e))
theorem lseg11 {prog : Program} {w : World} {A : Around} {E : Value → Shared → Prop} {s : Shared} {g : Heap} {mean : ExcName → Option Value} {mg mb : PySem.Str → Option Value} {ls : List Str} {Q : Flow → Shared → Prop}
   {L f K0 : Addr} {cdv : Value} {o3 o6 : Obj} {R : List (Addr × Obj)} {m : Str → Option Value} {ks : List Value} {sk : List Nat} {count : Nat} {t0 : Tok} {va vb : Value}
   (X' : (K w.params).In g) (T' : Top topProg ls mean mg mb g) (hh : A.handled = none) (hd : A.depth + 100 < recursionLimit) (hu : A.units + 300 < cLine)
   (F : Fr g L s.heap m) (hm : Holds m [(Str.ofString "every", va), (Str.ofString "agents", vb)])
   (N : News g L s.heap ((K0, W.listOf ks.toArray 0) :: (L + 1 + 1 + 1, o3) :: (L + 1 + 1 + 1 + 1 + 1 + 1, o6) :: R))
   (h3 : o3.data = .cell (some (.int (count : Nat) t0))) (h6 : o6.data = .cell (some (.ref K0)))
   (hsk : IntsAre ks (sk.map Int.ofNat)) (hsk3 : sk.length ≤ 3)
   (hQ : ∀ (h' : Heap) (tk : Nat) (m' : Str → Option Value) (dv rv : Value), Fr g L h' m' → Holds m' [(Str.ofString "every", va), (Str.ofString "agents", vb), (Str.ofString "late", dv), (Str.ofString "rate", rv)] →
      News g L h' ((K0, W.listOf ks.toArray 0) :: (L + 1 + 1 + 1, o3) :: (L + 1 + 1 + 1 + 1 + 1 + 1, o6) :: R) → ValIs dv (delayZ sk) → ValIs rv (rateZ count sk) →
      wpAny (model prog w) (A.deeper (env217 L f cdv)) (execs (b217.drop 12) (env217 L f cdv)) Q E { s with heap := h', toks := tk }) :
   wpAny (model prog w) (A.deeper (env217 L f cdv)) (execs (b217.drop 11) (env217 L f cdv)) Q E s := by
  have F1 := pins F hm
  clear F hm
  rw [show b217.drop 11 = nth b217 11 :: b217.drop 12 from rfl]
  generalize b217.drop 12 = rst at *
  rw [show nth b217 11 = _ from (by conv => lhs; whnf)]
  unfold env217 at *
  rw [show sc217 = _ from (by conv => lhs; whnf)] at *
  k_steps
  rename_i S1 h1 F2 N2 q1
  refine' Stop.mk (compOfT (cl := []) F2 ?k1x rfl ?k3x rfl ?_)
  case k1x => exact rfl
  case k3x => decide
  k_steps
  refine ⟨[], sk.length, _, _, fun i ys => ys.length ≤ i ∧ i ≤ sk.length ∧ IntsAre ys ((halves 1 (sk.take i)).map Int.ofNat), [K0], starts_nats hh N2 (by k_mem) hsk, F2, N2, (fun _ h => nomatch h), ⟨Nat.le_refl _, Nat.zero_le _, .nil⟩, ?_, ?_, ?_⟩
  · rintro i ys ⟨h, h2, _⟩
    exact Nat.le_trans (Nat.le_trans h (Nat.le_trans h2 hsk3)) (by decide)
  · intro D C oC mC i v _ ys tail s₁ E' Qe Qs hi hC hCv F₁ N₁ hap hq hq' hP hj
    obtain ⟨p, tx, hp, rfl⟩ := hP
    clear F2 N2
    k_steps
    · rename Int.fmod _ _ = 1 => hb
      obtain ⟨hlen, hile, hys⟩ := hj
      exact hq _ _ _ _ F₁ N₁ (sub_pre [] _ _ _ _) ⟨by rw [List.length_append]; exact Nat.succ_le_succ hlen, hi, half_in hp hys (fmod_two hb) _⟩
    · rename Int.fmod _ _ ≠ 1 => hb
      obtain ⟨hlen, hile, hys⟩ := hj
      exact hq' _ _ _ F₁ N₁ (sub_pre [] _ _ _ _) ⟨Nat.le_succ_of_le hlen, hi, half_out hp hys (fmod_two_ne hb)⟩
  intro Dx h7x tk7x ysx hLDx F7 N7 hap7 hjx
  obtain ⟨hlenx, _, hysx⟩ := hjx
  clear F2 N2
  rw [List.take_length] at hysx
  obtain ⟨dvx, hdvx, hvalx⟩ := ints_last hysx .none
  have nSx : @Ne Nat S1 Dx := hap7 _ List.mem_cons_self
  k_steps
  refine Stop.mk (add_N (l := S1) (b := Dx) (us := [_]) (vs := ysx) (n1 := 0) (n2 := ysx.length) F7 N7 (by k_mem) (by k_mem) (by simp; lia) fun Tx h8x F8 N8 l8x => ?_)
  clear F7 N7
  k_steps
  refine Stop.mk (item_last ⟨_, N8.get (a := Tx) (by k_mem), rfl, _, rfl⟩ hdvx ?_)
  have F2 := F8
  have N2 := nSub N8 (a := (K0, W.listOf ks.toArray 0) :: (L + 1 + 1 + 1, o3) :: (L + 1 + 1 + 1 + 1 + 1 + 1, o6) :: R) fun q hq => List.mem_cons_of_mem _ (List.mem_cons_of_mem _ (List.mem_cons_of_mem _ hq))
  clear F8 N8
  k_steps
  rename_i S2 h2 F2 N2 q2
  refine' Stop.mk (compOfT (cl := []) F2 ?k1y rfl ?k3y rfl ?_)
  case k1y => exact rfl
  case k3y => decide
  k_steps
  refine ⟨[], sk.length, _, _, fun i ys => ys.length ≤ i ∧ i ≤ sk.length ∧ IntsAre ys ((halves 0 (sk.take i)).map Int.ofNat), [K0], starts_nats hh N2 (by k_mem) hsk, F2, N2, (fun _ h => nomatch h), ⟨Nat.le_refl _, Nat.zero_le _, .nil⟩, ?_, ?_, ?_⟩
  · rintro i ys ⟨h, h2, _⟩
    exact Nat.le_trans (Nat.le_trans h (Nat.le_trans h2 hsk3)) (by decide)
  · intro D C oC mC i v _ ys tail s₁ E' Qe Qs hi hC hCv F₁ N₁ hap hq hq' hP hj
    obtain ⟨p, tx, hp, rfl⟩ := hP
    clear F2 N2
    k_steps
    · rename Int.fmod _ _ = 0 => hb
      obtain ⟨hlen, hile, hys⟩ := hj
      exact hq _ _ _ _ F₁ N₁ (sub_pre [] _ _ _ _) ⟨by rw [List.length_append]; exact Nat.succ_le_succ hlen, hi, half_in hp hys (fmod_two hb) _⟩
    · rename Int.fmod _ _ ≠ 0 => hb
      obtain ⟨hlen, hile, hys⟩ := hj
      exact hq' _ _ _ F₁ N₁ (sub_pre [] _ _ _ _) ⟨Nat.le_succ_of_le hlen, hi, half_out hp hys (fmod_two_ne hb)⟩
  intro Dy h7y tk7y ysy hLDy F7 N7 hap7 hjy
  obtain ⟨hleny, _, hysy⟩ := hjy
  clear F2 N2
  rw [List.take_length] at hysy
  obtain ⟨dvy, hdvy, hvaly⟩ := ints_last hysy (.int (count : Int) t0)
  have nSy : @Ne Nat S2 Dy := hap7 _ List.mem_cons_self
  k_steps
  refine Stop.mk (add_N (l := S2) (b := Dy) (us := [_]) (vs := ysy) (n1 := 0) (n2 := ysy.length) F7 N7 (by k_mem) (by k_mem) (by simp; lia) fun Ty h8y F8 N8 l8y => ?_)
  clear F7 N7
  k_steps
  refine Stop.mk (item_last ⟨_, N8.get (a := Ty) (by k_mem), rfl, _, rfl⟩ hdvy ?_)
  have F2 := F8
  have N2 := nSub N8 (a := (K0, W.listOf ks.toArray 0) :: (L + 1 + 1 + 1, o3) :: (L + 1 + 1 + 1 + 1 + 1 + 1, o6) :: R) fun q hq => List.mem_cons_of_mem _ (List.mem_cons_of_mem _ (List.mem_cons_of_mem _ hq))
  clear F8 N8
  k_steps
  rename Fr _ _ _ _ => F5
  rename News _ _ _ _ => N5
  rename_i T5 h5 q5
  refine unpack2 F5 N5 hh ⟨_, N5.get (a := T5) (by k_mem), rfl, _, rfl⟩ rfl fun h6' F6 N6 => ?_
  clear F5 N5
  refine assignInOrder_cons ?_
  k_steps
  rename Fr _ _ _ _ => F9
  rename News _ _ _ _ => N9
  refine hQ _ _ _ dvx dvy F9 ⟨rfl, rfl, rfl, rfl, trivial⟩ (nSub N9 fun q hq => List.mem_cons_of_mem _ hq) ?_ ?_
  · rw [delay_last]
    rcases hvalx with ⟨e, rfl⟩ | ⟨n, t, e, rfl⟩
    · rw [e]; rfl
    · rw [e]; exact ⟨t, rfl⟩
  · rw [rate_last]
    rcases hvaly with ⟨e, rfl⟩ | ⟨n, t, e, rfl⟩
    · rw [e]; exact ⟨t0, rfl⟩
    · rw [e]; exact ⟨t, rfl⟩
end Mine
namespace Mine
local macro_rules | `(tactic| k_all) => `(tactic| first | assumption | (refine' all_cons ?a ?b; (case a => k_ne); (case b => k_all)))
local macro_rules | `(tactic| k_handed) => `(tactic| assumption)
local macro_rules | `(tactic| walk_at $k) => Mine.stopAt ["eval ListComp", "exec Assign cons ListComp", "binaryOp Add ref ref", "subscriptTail Name Slice ref ref"] k
local macro_rules | `(tactic| walk_at "eval Name") => `(tactic| (k_here; (with_reducible show wpAny _ _ (eval (Expr.Name (Str.ofString "sick") _) (cenvOf _ _ _ _)) _ _ _); (with_reducible refine' nameFree1 (Str.ofString "agent") ?N ?c ?m ?d ?_ ?k ?x ?l ?b ?y); (case k => rfl); (case x => kernel_rfl); (case l => kernel_rfl); (case b => decide); (case y => decide); (case N => k_asm); (case c => rfl); (case m => k_mem); (case d => assumption); k_whole))
local macro_rules | `(tactic| walk_at "eval Name") => `(tactic| (k_here; (with_reducible show wpAny _ _ (eval (Expr.Name (Str.ofString "words") _) (cenvOf _ _ _ _)) _ _ _); walk_at "nf"))
local macro_rules | `(tactic| walk_at "eval Name") => `(tactic| (k_here; (with_reducible show wpAny _ _ (eval (Expr.Name (Str.ofString "agent") _) (cenvOf _ [_, _] _ _)) _ _ _); walk_at "nf"))
theorem strs_mem2 {vs : List Value} {ns : List Str} (h : StrsAre vs ns) : ∀ (i : Nat) (v : Value), vs[i]? = some v → ∃ n t, v = .str n t ∧ ns[i]? = some n := by
  induction h with
  | nil => intro i v e; simp at e
  | cons n t _ ih =>
    intro i v e
    cases i with
    | zero => exact ⟨n, t, by simpa using e.symm, rfl⟩
    | succ i => exact ih i v (by simpa using e)
theorem sick_step {wcs : List (List Nat)} {z : Str} {sk : List Nat} {j p : Nat} (hp : sk[j]? = some p) : sickIn wcs z (sk.take (j + 1)) = sickIn wcs z (sk.take j) ++ (if occ (mkS (wcs.getD p [])) (Txt.lower z) = true then [p] else []) := by
  unfold sickIn
  rw [List.take_add_one, hp, Option.toList_some, List.filter_append]
  congr 1
  rw [List.filter_cons]
  rfl
theorem starts_strs {prog : Program} {w : World} {A : Around} {s : Shared} {x : Str} {px : Pos} {g : Heap} {L l : Addr} {news : List (Addr × Obj)} {vs : List Value} {zs : List Str} (hh : A.handled = none) (N : News g L s.heap news) (hm : (l, W.listOf vs.toArray 0) ∈ news) (hi : StrsAre vs zs) :
    Starts prog w A (.Name x px) (.ref l) s [] [l] zs.length (fun i v _ => ∃ (z : Str) (t : Tok), zs[i]? = some z ∧ v = .str z t) :=
  (starts_list' (by rw [List.size_toArray, hi.length]) hh ⟨_, N.get hm, rfl, _, rfl⟩).imp fun i v _ e => by
    obtain ⟨n, t, rfl, hn⟩ := strs_mem2 hi i v (by rw [← List.getElem?_toArray]; exact e)
    exact ⟨n, t, hn, rfl⟩
theorem word_at {ws : List Value} {wcs : List (List Nat)} {p : Nat} (hwz : StrsAre ws (wcs.map mkS)) (hwc : ∀ l ∈ wcs, l.length ≤ 20) (hwl : wcs.length ≤ 8) (hpw : p < wcs.length) : ∃ (wd : Str) (tw : Tok), ws[p]? = some (.str wd tw) ∧ wd.length ≤ 20 ∧ (p : Int) < 2 ^ 63 ∧ wd = mkS (wcs.getD p []) := by
  have hwsl : ws.length = wcs.length := by rw [hwz.length, List.length_map]
  obtain ⟨zz, tt, e1, e2⟩ := strs_mem2 hwz p (ws[p]'(by lia)) (List.getElem?_eq_getElem _)
  rw [List.getElem?_map, List.getElem?_eq_getElem hpw] at e2
  have e3 : zz = mkS (wcs.getD p []) := by rw [List.getD_eq_getElem?_getD, List.getElem?_eq_getElem hpw, Option.getD_some, ← Option.some.inj e2]
  refine ⟨zz, tt, by rw [List.getElem?_eq_getElem (by lia), e1], ?_, Int.lt_of_lt_of_le (Int.ofNat_lt.mpr (Nat.lt_of_lt_of_le hpw hwl)) (by decide), e3⟩
  rw [e3]
  show (wcs.getD p []).toArray.size ≤ 20
  rw [List.size_toArray, List.getD_eq_getElem?_getD, List.getElem?_eq_getElem hpw]
  exact hwc _ (List.getElem_mem _)
theorem sick_in {wcs : List (List Nat)} {z wd : Str} {sk : List Nat} {j p : Nat} {zs : List Value} (hp : sk[j]? = some p) (hwd : wd = mkS (wcs.getD p [])) (hzs : IntsAre zs ((sickIn wcs z (sk.take j)).map Int.ofNat)) (h : occ wd (Txt.lower z) = true) (t : Tok) : IntsAre (zs ++ [.int (Int.ofNat p) t]) ((sickIn wcs z (sk.take (j + 1))).map Int.ofNat) := by
  rw [sick_step hp, ← hwd, if_pos h, List.map_append]
  exact ints_snoc hzs _ _
theorem sick_out {wcs : List (List Nat)} {z wd : Str} {sk : List Nat} {j p : Nat} {zs : List Value} (hp : sk[j]? = some p) (hwd : wd = mkS (wcs.getD p [])) (hzs : IntsAre zs ((sickIn wcs z (sk.take j)).map Int.ofNat)) (h : occ wd (Txt.lower z) = false) : IntsAre zs ((sickIn wcs z (sk.take (j + 1))).map Int.ofNat) := by
  rw [sick_step hp, ← hwd, if_neg (by rw [h]; decide), List.append_nil]
  exact hzs
theorem left_step {wcs : List (List Nat)} {z : Str} {sk : List Nat} {cz : List Str} {i : Nat} (hz : cz[i]? = some z) : (cz.take (i + 1)).filter (fun a => (sickIn wcs a sk).isEmpty) = (cz.take i).filter (fun a => (sickIn wcs a sk).isEmpty) ++ (if (sickIn wcs z sk).isEmpty = true then [z] else []) := by
  rw [List.take_add_one, hz, Option.toList_some, List.filter_append]
  congr 1
  rw [List.filter_cons]
  rfl
theorem left_in {wcs : List (List Nat)} {z : Str} {sk : List Nat} {cz : List Str} {i : Nat} {ys : List Value} (hz : cz[i]? = some z) (hys : StrsAre ys ((cz.take i).filter fun a => (sickIn wcs a sk).isEmpty)) (h : List.map Int.ofNat (sickIn wcs z sk) = []) (t : Tok) : StrsAre (ys ++ [.str z t]) ((cz.take (i + 1)).filter fun a => (sickIn wcs a sk).isEmpty) := by
  rw [left_step hz, if_pos (by rw [List.map_eq_nil_iff.mp h]; rfl)]
  exact strs_snoc hys
theorem left_out {wcs : List (List Nat)} {z : Str} {sk : List Nat} {cz : List Str} {i : Nat} {ys : List Value} (hz : cz[i]? = some z) (hys : StrsAre ys ((cz.take i).filter fun a => (sickIn wcs a sk).isEmpty)) (h : ¬ List.map Int.ofNat (sickIn wcs z sk) = []) : StrsAre ys ((cz.take (i + 1)).filter fun a => (sickIn wcs a sk).isEmpty) := by
  rw [left_step hz, if_neg (fun e => h (by rw [List.isEmpty_iff.mp e]; rfl)), List.append_nil]
  exact hys
theorem lseg12 {prog : Program} {w : World} {A : Around} {E : Value → Shared → Prop} {s : Shared} {g : Heap} {mean : ExcName → Option Value} {mg mb : PySem.Str → Option Value} {ls : List Str} {Q : Flow → Shared → Prop}
   {L f A0 W0 K0 : Addr} {cdv : Value} {o5 o6 : Obj} {R : List (Addr × Obj)} {m : Str → Option Value} {as ws ks : List Value} {sk : List Nat} {az : List Str} {wcs : List (List Nat)} {va vb vc : Value}
   (X' : (K w.params).In g) (T' : Top topProg ls mean mg mb g) (hh : A.handled = none) (hd : A.depth + 100 < recursionLimit) (hu : A.units + 300 < cLine)
   (F : Fr g L s.heap m) (hm : Holds m [(Str.ofString "every", va), (Str.ofString "agents", .ref A0), (Str.ofString "late", vb), (Str.ofString "rate", vc)])
   (N : News g L s.heap ((K0, W.listOf ks.toArray 0) :: (W0, lst ws) :: (A0, lst as) :: (L + 1 + 1 + 1 + 1 + 1, o5) :: (L + 1 + 1 + 1 + 1 + 1 + 1, o6) :: R))
   (h5 : o5.data = .cell (some (.ref W0))) (h6 : o6.data = .cell (some (.ref K0)))
   (haz : StrsAre as az) (hwz : StrsAre ws (wcs.map mkS)) (hsk : IntsAre ks (sk.map Int.ofNat)) (haz50 : az.length ≤ 50) (haz10 : ∀ z ∈ az, z.length ≤ 10) (hwc : ∀ l ∈ wcs, l.length ≤ 20) (hsk3 : sk.length ≤ 3) (hskw : ∀ p ∈ sk, p < wcs.length) (hwl : wcs.length ≤ 8)
   (hQ : ∀ (h' : Heap) (tk : Nat) (m' : Str → Option Value) (B0 : Addr) (bs : List Value), Fr g L h' m' → Holds m' [(Str.ofString "every", va), (Str.ofString "late", vb), (Str.ofString "rate", vc), (Str.ofString "left", .ref B0)] →
      News g L h' ((B0, lst bs) :: (K0, W.listOf ks.toArray 0) :: (W0, lst ws) :: (L + 1 + 1 + 1 + 1 + 1, o5) :: (L + 1 + 1 + 1 + 1 + 1 + 1, o6) :: R) → StrsAre bs (leftZ az wcs sk) → (∀ p ∈ (K0, W.listOf ks.toArray 0) :: (W0, lst ws) :: (L + 1 + 1 + 1 + 1 + 1, o5) :: (L + 1 + 1 + 1 + 1 + 1 + 1, o6) :: R, p.1 ≠ B0) →
      wpAny (model prog w) (A.deeper (env217 L f cdv)) (execs (b217.drop 13) (env217 L f cdv)) Q E { s with heap := h', toks := tk }) :
   wpAny (model prog w) (A.deeper (env217 L f cdv)) (execs (b217.drop 12) (env217 L f cdv)) Q E s := by
  have F1 := pins F hm
  clear F hm
  rw [show b217.drop 12 = nth b217 12 :: b217.drop 13 from rfl]
  generalize b217.drop 13 = rst at *
  rw [show nth b217 12 = _ from (by conv => lhs; whnf)]
  unfold env217 at *
  rw [show sc217 = _ from (by conv => lhs; whnf)] at *
  have hal := haz.length
  k_steps
  rename Fr _ _ _ _ => F2
  rename News _ _ _ _ => N2
  refine' Stop.mk (assignOfCT (cl := [(Str.ofString "words", L + 1 + 1 + 1 + 1 + 1), (Str.ofString "sick", L + 1 + 1 + 1 + 1 + 1 + 1)]) F2 rfl ?k1 ?k2 rfl ?k3 rfl rfl rfl (fun _ => rfl) (fun _ => rfl) ?_)
  case k1 => rfl
  case k2 => exact rfl
  case k3 => decide
  k_steps
  refine Stop.mk (take_N (l := A0) (us := as) (n := as.length) (b := 2) F2 N2 (by k_mem) (by lia) fun D3 h3 F3 N3 l3 => ?_)
  have l3' := allLt_of l3
  simp only [AllLt] at l3'
  clear F2 N2
  k_steps
  refine Stop.mk (add_N (l := A0) (b := D3) (us := as) (vs := as.take 2) (n1 := as.length) (n2 := 0) F3 N3 (by k_mem) (by k_mem) (by simp; lia) fun D4 h4 F4 N4 l4 => ?_)
  clear F3 N3
  have hzz : StrsAre (as ++ as.take 2) (az ++ az.take 2) := strs_app haz (strs_take haz 2)
  have hz60 : (az ++ az.take 2).length ≤ 60 := by simp; lia
  have hz10 : ∀ z ∈ az ++ az.take 2, z.length ≤ 10 := fun z hz => (List.mem_append.mp hz).elim (haz10 z) fun h => haz10 z (List.mem_of_mem_take h)
  have hleft : leftZ az wcs sk = (az ++ az.take 2).filter fun a => (sickIn wcs a sk).isEmpty := rfl
  rw [hleft] at hQ
  generalize as ++ as.take 2 = cs at *
  generalize az ++ az.take 2 = cz at *
  clear hleft
  have N5 : News g L h4 ((D4, W.listOf cs.toArray 0) :: (K0, W.listOf ks.toArray 0) :: (W0, lst ws) :: (L + 1 + 1 + 1 + 1 + 1, o5) :: (L + 1 + 1 + 1 + 1 + 1 + 1, o6) :: R) := nPick N4 [0, 2, 3, 5, 6] 7
  clear N4
  refine ⟨[], cz.length, _, _, fun i ys => ys.length ≤ i ∧ i ≤ cz.length ∧ StrsAre ys ((cz.take i).filter fun a => (sickIn wcs a sk).isEmpty), [D4], starts_strs hh N5 (by k_mem) hzz, F4, N5, (fun _ h => nomatch h), ⟨Nat.le_refl _, Nat.zero_le _, .nil⟩, ?_, ?_, ?_⟩
  · rintro i ys ⟨h, h2, _⟩
    exact Nat.le_trans (Nat.le_trans h (Nat.le_trans h2 hz60)) (by decide)
  · intro D C oC oc mC i v _ ys tail s₁ E' Qe Qs hi hC hCv F₁ N₁ hap hq hq' hP hj
    obtain ⟨z, tz, hz, rfl⟩ := hP
    have N₂ : News g L s₁.heap ((D, lst ys) :: (C + 1, oc) :: (C, oC) :: (D4, W.listOf cs.toArray 0) :: (K0, W.listOf ks.toArray 0) :: (W0, lst ws) :: (L + 1 + 1 + 1 + 1 + 1, o5) :: (L + 1 + 1 + 1 + 1 + 1 + 1, o6) :: (R ++ tail)) := N₁
    clear F4 N5 N₁
    have hzl10 : z.length ≤ 10 := hz10 z (List.mem_of_getElem? hz)
    k_steps
    rename Fr _ _ _ _ => F5
    rename News _ _ _ _ => N5
    refine' Stop.mk (compOfT (cl := [(Str.ofString "words", L + 1 + 1 + 1 + 1 + 1), (Str.ofString "agent", C + 1)]) F5 ?k4 rfl ?k5 rfl ?_)
    case k4 => exact rfl
    case k5 => decide
    k_steps
    refine ⟨[], sk.length, _, _, fun j zs => zs.length ≤ j ∧ j ≤ sk.length ∧ IntsAre zs ((sickIn wcs z (sk.take j)).map Int.ofNat), [K0], starts_nats hh N5 (by k_mem) hsk, F5, N5, (fun _ h => nomatch h), ⟨Nat.le_refl _, Nat.zero_le _, .nil⟩, ?_, ?_, ?_⟩
    · rintro j zs ⟨h, h2, _⟩
      exact Nat.le_trans (Nat.le_trans h (Nat.le_trans h2 hsk3)) (by decide)
    · intro D6 C6 oC6 mC6 j v _ zs tail6 s₆ E6 Qe6 Qs6 hj6 hC6 hCv6 F₆ N₆ hap6 hq6 hq6' hP hz6
      obtain ⟨p, tx, hp, rfl⟩ := hP
      obtain ⟨wd, tw, hwe, hwlen, hpl, hwd⟩ := word_at hwz hwc hwl (hskw p (List.mem_of_getElem? hp))
      have N₇ : News g L s₆.heap ((D6, lst zs) :: (C6, oC6) :: (D, lst ys) :: (C + 1, oc) :: (C, oC) :: (D4, W.listOf cs.toArray 0) :: (K0, W.listOf ks.toArray 0) :: (W0, lst ws) :: (L + 1 + 1 + 1 + 1 + 1, o5) :: (L + 1 + 1 + 1 + 1 + 1 + 1, o6) :: (R ++ tail ++ tail6)) := N₆
      clear F5 N5 N₆
      k_steps
      refine item_at (vs := ws) (v := .str wd tw) ⟨_, N₇.get (a := W0) (by k_mem), rfl, _, rfl⟩ (Int.natCast_nonneg p) hpl hwe ?_
      k_steps
      · rename List.isEmpty _ = true => hemp
        obtain ⟨h1, h2, h3⟩ := hz6
        exact hq6' _ _ _ F₆ N₇ (sub_pre [] _ _ ((D, lst ys) :: (C + 1, oc) :: (C, oC) :: (D4, W.listOf cs.toArray 0) :: (K0, W.listOf ks.toArray 0) :: (W0, lst ws) :: (L + 1 + 1 + 1 + 1 + 1, o5) :: (L + 1 + 1 + 1 + 1 + 1 + 1, o6) :: (R ++ tail)) _) ⟨Nat.le_succ_of_le h1, hj6, sick_out hp hwd h3 (by unfold occ; rw [hemp]; rfl)⟩
      · rename List.isEmpty _ = false => hemp
        obtain ⟨h1, h2, h3⟩ := hz6
        exact hq6 _ _ _ _ F₆ N₇ (sub_pre [] _ _ ((D, lst ys) :: (C + 1, oc) :: (C, oC) :: (D4, W.listOf cs.toArray 0) :: (K0, W.listOf ks.toArray 0) :: (W0, lst ws) :: (L + 1 + 1 + 1 + 1 + 1, o5) :: (L + 1 + 1 + 1 + 1 + 1 + 1, o6) :: (R ++ tail)) _) ⟨by rw [List.length_append]; exact Nat.succ_le_succ h1, hj6, sick_in hp hwd h3 (by unfold occ; rw [hemp]; rfl) _⟩
    · intro D6 h6' tk6 zs hLD6 F6 N6 hap6 hz6
      obtain ⟨_, _, hzs⟩ := hz6
      clear F5 N5
      rw [List.take_length] at hzs
      k_steps
      · rename decide _ = true => hx
        rename Fr _ _ _ _ => F8
        rename News _ _ _ _ => N8
        obtain ⟨hlen, hile, hys⟩ := hj
        exact hq _ _ _ _ F8 N8 (sub_pre2 [_, _] _ _ _ ((D4, W.listOf cs.toArray 0) :: (K0, W.listOf ks.toArray 0) :: (W0, lst ws) :: (L + 1 + 1 + 1 + 1 + 1, o5) :: (L + 1 + 1 + 1 + 1 + 1 + 1, o6) :: R) tail) ⟨by rw [List.length_append]; exact Nat.succ_le_succ hlen, hi, left_in hz hys (of_decide_eq_true hx) _⟩
      · rename decide _ = false => hx
        rename Fr _ _ _ _ => F8
        rename News _ _ _ _ => N8
        obtain ⟨hlen, hile, hys⟩ := hj
        exact hq' _ _ _ F8 N8 (sub_pre2 [_, _] _ _ _ ((D4, W.listOf cs.toArray 0) :: (K0, W.listOf ks.toArray 0) :: (W0, lst ws) :: (L + 1 + 1 + 1 + 1 + 1, o5) :: (L + 1 + 1 + 1 + 1 + 1 + 1, o6) :: R) tail) ⟨Nat.le_succ_of_le hlen, hi, left_out hz hys (of_decide_eq_false hx)⟩
  · intro B0 h7 tk7 ys hLD F7 N7 hap7 hj
    obtain ⟨_, _, hys⟩ := hj
    clear F4 N5
    rw [List.take_length] at hys
    exact hQ _ _ _ B0 ys F7 ⟨rfl, rfl, rfl, rfl, trivial⟩ (nPick N7 [0, 2, 3, 4, 5] 6) hys (inPick [1, 2, 3, 4] 5 hap7)
end Mine
namespace Mine
local macro_rules | `(tactic| k_all) => `(tactic| first | assumption | (refine' all_cons ?a ?b; (case a => k_ne); (case b => k_all)))
local macro_rules | `(tactic| k_handed) => `(tactic| assumption)
local macro_rules | `(tactic| walk_at $k) => Mine.stopAt ["binaryOp Add ref ref", "compareOp NotEq ref ref"] k
theorem notEq_lists {prog : Program} {w : World} {A : Around} {E : Value → Shared → Prop} {s : Shared} {l b : Addr} {items items2 : Array Value} {Q : Value → Shared → Prop} (hl : s.heap.IsList l items) (hb : s.heap.IsList b items2) (hsz : items.size = items2.size) (hu : A.units < cLine)
    (he : ∀ j (h1 : j < items.size) (h2 : j < items2.size), PySem.SeqAt.EqAt A.in1 s items[j] items2[j] true) (h : Q (.bool false) s) : wpAny (model prog w) A (compareOp .NotEq (.ref l) (.ref b)) Q E s :=
  PySem.SeqAt.RcNeAt.lists (e := fun _ => true) hl hb hsz hu he prog w E Q (by
    rw [show (List.range items.size).all (fun _ => true) = true by simp]
    exact h)
theorem valIs_eq {A : Around} {s : Shared} {a b : Value} {o : Option Nat} (ha : ValIs a o) (hb : ValIs b o) : PySem.SeqAt.EqAt A s a b true := by
  cases o with
  | none =>
    rw [show a = .none from ha, show b = .none from hb]
    exact PySem.SeqAt.EqAt.same _
  | some n =>
    obtain ⟨t, rfl⟩ := ha
    obtain ⟨u, rfl⟩ := hb
    have := (MeetsSeq.EqGives.int (n : Int) (n : Int) t u).at A s
    rwa [show ((n : Int) == (n : Int)) = true by simp] at this
theorem wrd_eq {A : Around} {s : Shared} {us vs : List Value} {zs : List Str} (hu : Wrd us.toArray zs) (hv : Wrd vs.toArray zs) : us.toArray.size = vs.toArray.size ∧ ∀ j (h1 : j < us.toArray.size) (h2 : j < vs.toArray.size), PySem.SeqAt.EqAt A s us.toArray[j] vs.toArray[j] true := by
  refine ⟨by rw [← hu.1, hv.1], fun j h1 h2 => ?_⟩
  obtain ⟨z, t, e1, e2⟩ := hu.2 j _ (Array.getElem?_eq_getElem h1)
  obtain ⟨z', t', e3, e4⟩ := hv.2 j _ (Array.getElem?_eq_getElem h2)
  rw [e2] at e4
  cases e4
  rw [e1, e3]
  have := (eqGives_str z z t t').at A s
  rwa [show (z == z) = true by simp] at this
theorem lseg13 {prog : Program} {w : World} {A : Around} {E : Value → Shared → Prop} {s : Shared} {g : Heap} {mean : ExcName → Option Value} {mg mb : PySem.Str → Option Value} {ls : List Str} {Q : Flow → Shared → Prop}
   {L f B0 : Addr} {cdv : Value} {o7 : Obj} {R : List (Addr × Obj)} {m : Str → Option Value} {bs : List Value} {zs : List Str} {va dw rw' : Value} {od orr : Option Nat}
   {z dz a r : Addr} {t1 t2 t3 t4 : Tok} {us rs : List Value} {m1 m2 : Nat} {dv rv : Value}
   (X' : (K w.params).In g) (T' : Top topProg ls mean mg mb g) (hh : A.handled = none) (hd : A.depth + 100 < recursionLimit) (hu : A.units + 300 < cLine)
   (F : Fr g L s.heap m) (hm : Holds m [(Str.ofString "every", va), (Str.ofString "late", dw), (Str.ofString "rate", rw'), (Str.ofString "left", .ref B0)])
   (N : News g L s.heap ((B0, lst bs) :: (z, instObj 59 dz) :: (dz, entDict w.params t1 t2 t3 t4 (.ref a) (.ref r) dv rv) :: (a, W.listOf us.toArray m1) :: (r, W.listOf rs.toArray m2) :: (L + 1 + 1 + 1 + 1 + 1 + 1 + 1, o7) :: R))
   (h7 : o7.data = .cell (some (.ref z))) (hdv : ValIs dv od) (hrv : ValIs rv orr) (hdw : ValIs dw od) (hrw : ValIs rw' orr) (hbs : StrsAre bs zs) (hz60 : zs.length ≤ 60) (hus : Wrd us.toArray (Str.ofString "*" :: zs))
   (hQ : ∀ (h' : Heap) (tk : Nat) (m' : Str → Option Value), Fr g L h' m' → Holds m' [(Str.ofString "every", va), (Str.ofString "left", .ref B0)] →
      News g L h' ((B0, lst bs) :: (z, instObj 59 dz) :: (dz, entDict w.params t1 t2 t3 t4 (.ref a) (.ref r) dv rv) :: (a, W.listOf us.toArray m1) :: (r, W.listOf rs.toArray m2) :: (L + 1 + 1 + 1 + 1 + 1 + 1 + 1, o7) :: R) →
      wpAny (model prog w) (A.deeper (env217 L f cdv)) (execs (b217.drop 14) (env217 L f cdv)) Q E { s with heap := h', toks := tk }) :
   wpAny (model prog w) (A.deeper (env217 L f cdv)) (execs (b217.drop 13) (env217 L f cdv)) Q E s := by
  have F1 := pins F hm
  clear F hm
  rw [show b217.drop 13 = nth b217 13 :: b217.drop 14 from rfl]
  generalize b217.drop 14 = rst at *
  rw [show nth b217 13 = _ from (by conv => lhs; whnf)]
  unfold env217 at *
  rw [show sc217 = _ from (by conv => lhs; whnf)] at *
  have hbl := hbs.length
  have hdl := hdv.handed
  have hrl := hrv.handed
  k_steps
  rename_i S1 h1 q1 S2 h2 F2 N2 q2
  refine Stop.mk (notEq_lists (l := S1) (b := S2) (items := #[dv, rv]) (items2 := #[dw, rw']) ⟨_, N2.get (a := S1) (by k_mem), rfl, _, rfl⟩ ⟨_, N2.get (a := S2) (by k_mem), rfl, _, rfl⟩ rfl (by show A.units + _ < _; lia) (fun j h1 h2 => ?_) ?_)
  · match j, h1, h2 with
    | 0, _, _ => exact valIs_eq hdv hdw
    | 1, _, _ => exact valIs_eq hrv hrw
  k_steps
  rename_i S3 h3 F3 N3 q3
  refine Stop.mk (add_N (l := S3) (b := B0) (us := [_]) (vs := bs) (n1 := 0) (n2 := bs.length) F3 N3 (by k_mem) (by k_mem) (by simp; lia) fun D4 h4 F4 N4 l4 => ?_)
  have hd4 : ∀ t : Tok, Wrd ([Value.str (Str.ofString "*") t] ++ bs).toArray (Str.ofString "*" :: zs) := fun t => wrd_of (.cons _ _ hbs)
  clear F3 N3
  k_steps
  have hwe := fun A' s' t => wrd_eq (A := A') (s := s') hus (hd4 t)
  refine Stop.mk (notEq_lists (l := a) (b := D4) (items := us.toArray) ⟨_, N4.get (a := a) (by k_mem), rfl, _, rfl⟩ ⟨_, N4.get (a := D4) (by k_mem), rfl, _, rfl⟩ (hwe A s _).1 (by show A.units + _ < _; lia) (hwe _ _ _).2 ?_)
  k_steps
  rename Fr _ _ _ _ => F9
  rename News _ _ _ _ => N9
  exact hQ _ _ _ F9 ⟨rfl, rfl, trivial⟩ (nSub N9 fun q hq => List.mem_cons_of_mem _ (List.mem_cons_of_mem _ (List.mem_cons_of_mem _ (List.mem_cons_of_mem _ hq))))
end Mine
namespace Mine
local macro_rules | `(tactic| walk_at "no such place") => `(tactic| fail)
local macro_rules | `(tactic| k_all) => `(tactic| first | assumption | (refine' all_cons ?a ?b; (case a => k_ne); (case b => k_all)))
local macro_rules | `(tactic| k_handed) => `(tactic| assumption)
local macro_rules | `(tactic| walk_at $k) => Mine.stopAt ["call ref"] k
theorem applies_N {prog : Program} {w : World} {A : Around} {E : Value → Shared → Prop} {s : Shared} {g : Heap} {mean : ExcName → Option Value} {mg mb : PySem.Str → Option Value} {ls : List Str} {Q : Value → Shared → Prop} {L : Addr} {m : Str → Option Value} {news : List (Addr × Obj)}
   {x dx a r : Addr} {t1 t2 t3 t4 tu : Tok} {us rs : List Value} {n1 n2 : Nat} {dl rr : Value} {uz : List Str} {ua fw lw : Str}
   (X : (K w.params).In g) (T : Top topProg ls mean mg mb g) (F : Fr g L s.heap m) (N : News g L s.heap news) (hh : A.handled = none) (hd : A.depth + 20 < recursionLimit) (hu : A.units + 100 < cLine)
   (sub : ∀ p ∈ entObs w.params x dx a r t1 t2 t3 t4 us rs n1 n2 dl rr, p ∈ news) (hdl : handedIn dl = true) (hrr : handedIn rr = true) (huz : Wrd us.toArray uz) (hu60 : uz.length ≤ 60) (hual : ua.length ≤ 400) (hsp : (Txt.split ua (Str.ofString "/"))[0]? = some fw) (hfw : fw.length ≤ 400) (hlw : Txt.lower fw = lw) (hlw4 : lw.length ≤ 1200) (hlow : ∀ z ∈ uz, z.length ≤ 10)
   (hQ : ∀ (h' : Heap) (tk : Nat), Fr g L h' m → News g L h' news → Q (.bool (uz.any (hits lw))) {s with heap := h', toks := tk}) :
   wpAny (model prog w) A (call (.ref 49) [.ref x, .str ua tu]) Q E s :=
  applies_str X T F.keep hh hd hu (fun p hp => ⟨(N p (sub p hp)).1, (N p (sub p hp)).2.2⟩) hdl hrr huz hu60 hual hsp hfw hlw hlw4 hlow fun h' tk he => hQ h' tk (F.keeps he) (N.grown he)
theorem appliesNone_N {prog : Program} {w : World} {A : Around} {E : Value → Shared → Prop} {s : Shared} {g : Heap} {mean : ExcName → Option Value} {mg mb : PySem.Str → Option Value} {ls : List Str} {Q : Value → Shared → Prop} {L : Addr} {m : Str → Option Value} {news : List (Addr × Obj)}
   {x dx a r : Addr} {t1 t2 t3 t4 : Tok} {us rs : List Value} {n1 n2 : Nat} {dl rr : Value} {uz : List Str}
   (X : (K w.params).In g) (T : Top topProg ls mean mg mb g) (F : Fr g L s.heap m) (N : News g L s.heap news) (hh : A.handled = none) (hd : A.depth + 20 < recursionLimit) (hu : A.units + 100 < cLine)
   (sub : ∀ p ∈ entObs w.params x dx a r t1 t2 t3 t4 us rs n1 n2 dl rr, p ∈ news) (hdl : handedIn dl = true) (hrr : handedIn rr = true) (huz : Wrd us.toArray uz) (hu60 : uz.length ≤ 60)
   (hQ : ∀ (h' : Heap) (tk : Nat), Fr g L h' m → News g L h' news → Q (.bool (uz.any (· == Str.ofString "*"))) {s with heap := h', toks := tk}) :
   wpAny (model prog w) A (call (.ref 49) [.ref x, .none]) Q E s :=
  applies_none X T F.keep hh hd hu (fun p hp => ⟨(N p (sub p hp)).1, (N p (sub p hp)).2.2⟩) hdl hrr huz hu60 fun h' tk he => hQ h' tk (F.keeps he) (N.grown he)
theorem lseg16 {prog : Program} {w : World} {A : Around} {E : Value → Shared → Prop} {s : Shared} {g : Heap} {mean : ExcName → Option Value} {mg mb : PySem.Str → Option Value} {ls : List Str} {Q : Flow → Shared → Prop}
   {L f : Addr} {cdv : Value} {o7 : Obj} {R : List (Addr × Obj)} {m : Str → Option Value} {zs : List Str}
   {z dz a r : Addr} {t1 t2 t3 t4 : Tok} {us rs : List Value} {m1 m2 : Nat} {dv rv : Value}
   {x dx a' r' : Addr} {u1 u2 u3 u4 : Tok} {us' : List Value} {n1 n2 : Nat}
   (X' : (K w.params).In g) (T' : Top topProg ls mean mg mb g) (hh : A.handled = none) (hd : A.depth + 100 < recursionLimit) (hu : A.units + 300 < cLine)
   (F : Fr g L s.heap m) (hm : Holds m [(Str.ofString "bare", .ref x)])
   (N : News g L s.heap ((L + 1 + 1 + 1 + 1 + 1 + 1 + 1, o7) :: (entObs w.params z dz a r t1 t2 t3 t4 us rs m1 m2 dv rv ++ (entObs w.params x dx a' r' u1 u2 u3 u4 us' [] n1 n2 .none .none ++ R))))
   (h7 : o7.data = .cell (some (.ref z))) (hdl : handedIn dv = true) (hrr : handedIn rv = true) (hus : Wrd us.toArray (Str.ofString "*" :: zs)) (hus' : Wrd us'.toArray zs) (hz60 : zs.length ≤ 55) (hno : zs.any (· == Str.ofString "*") = false)
   (hQ : ∀ (h' : Heap) (tk : Nat) (m' : Str → Option Value), Fr g L h' m' →
      News g L h' ((L + 1 + 1 + 1 + 1 + 1 + 1 + 1, o7) :: (entObs w.params z dz a r t1 t2 t3 t4 us rs m1 m2 dv rv ++ R)) →
      wpAny (model prog w) (A.deeper (env217 L f cdv)) (execs (b217.drop 17) (env217 L f cdv)) Q E { s with heap := h', toks := tk }) :
   wpAny (model prog w) (A.deeper (env217 L f cdv)) (execs (b217.drop 16) (env217 L f cdv)) Q E s := by
  have F1 := pins F hm
  clear F hm
  rw [show b217.drop 16 = nth b217 16 :: b217.drop 17 from rfl]
  generalize b217.drop 17 = rst at *
  rw [show nth b217 16 = _ from (by conv => lhs; whnf)]
  unfold env217 at *
  rw [show sc217 = _ from (by conv => lhs; whnf)] at *
  have N1 : News g L s.heap ((L + 1 + 1 + 1 + 1 + 1 + 1 + 1, o7) :: (z, instObj 59 dz) :: (dz, entDict w.params t1 t2 t3 t4 (.ref a) (.ref r) dv rv) :: (a, W.listOf us.toArray m1) :: (r, W.listOf rs.toArray m2) :: (x, instObj 59 dx) :: (dx, entDict w.params u1 u2 u3 u4 (.ref a') (.ref r') .none .none) :: (a', W.listOf us'.toArray n1) :: (r', W.listOf #[] n2) :: R) := N
  clear N
  k_steps
  rename Fr _ _ _ _ => F2
  rename News _ _ _ _ => N2
  refine Stop.mk (appliesNone_N (x := z) (dx := dz) (a := a) (r := r) (t1 := t1) (t2 := t2) (t3 := t3) (t4 := t4) (us := us) (rs := rs) (n1 := m1) (n2 := m2) (dl := dv) (rr := rv) (uz := Str.ofString "*" :: zs) X' T' F2 N2 hh (by show A.depth + 1 + 20 < _; lia) (by show A.units + _ + 100 < _; lia) (sub_cons (by k_mem) (sub_cons (by k_mem) (sub_cons (by k_mem) (sub_cons (by k_mem) fun _ h => nomatch h)))) hdl hrr hus (by simp; lia) fun h3 tk3 F3 N3 => ?_)
  rw [show (Str.ofString "*" :: zs).any (· == Str.ofString "*") = true by simp]
  clear F2 N2
  k_steps
  rename Fr _ _ _ _ => F4
  rename News _ _ _ _ => N4
  refine Stop.mk (appliesNone_N (x := x) (dx := dx) (a := a') (r := r') (t1 := u1) (t2 := u2) (t3 := u3) (t4 := u4) (us := us') (rs := []) (n1 := n1) (n2 := n2) (dl := .none) (rr := .none) (uz := zs) X' T' F4 N4 hh (by show A.depth + 1 + 20 < _; lia) (by show A.units + _ + 100 < _; lia) (sub_cons (by k_mem) (sub_cons (by k_mem) (sub_cons (by k_mem) (sub_cons (by k_mem) fun _ h => nomatch h)))) rfl rfl hus' (by lia) fun h5 tk5 F5 N5 => ?_)
  rw [hno]
  clear F4 N4
  k_steps
  rename Fr _ _ _ _ => F6
  rename News _ _ _ _ => N6
  exact hQ _ _ _ F6 (nPick N6 [0, 1, 2, 3, 4] 9)
end Mine
namespace Mine
local macro_rules | `(tactic| k_all) => `(tactic| first | assumption | (refine' all_cons ?a ?b; (case a => k_ne); (case b => k_all)))
local macro_rules | `(tactic| k_handed) => `(tactic| assumption)
local macro_rules | `(tactic| walk_at $k) => Mine.stopAt ["call ref", "exec Assign cons ListComp"] k
local macro_rules | `(tactic| walk_at "eval Name") => `(tactic| (k_here; (with_reducible show wpAny _ _ (eval (Expr.Name (Str.ofString "merged") _) (cenvOf _ _ _ _)) _ _ _); walk_at "nf"))
local macro_rules | `(tactic| walk_at "eval Name") => `(tactic| (k_here; (with_reducible show wpAny _ _ (eval (Expr.Name (Str.ofString "behind") _) (cenvOf _ _ _ _)) _ _ _); walk_at "nf"))
theorem strs_mem3 {vs : List Value} {ns : List Str} (h : StrsAre vs ns) : ∀ (i : Nat) (v : Value), vs[i]? = some v → ∃ n t, v = .str n t ∧ ns[i]? = some n := by
  induction h with
  | nil => intro i v e; simp at e
  | cons n t _ ih =>
    intro i v e
    cases i with
    | zero => exact ⟨n, t, by simpa using e.symm, rfl⟩
    | succ i => exact ih i v (by simpa using e)
noncomputable def toldZ (sk : List Nat) (p : Nat) : Value := .bool (!(sk.contains p))
theorem word_of {ws : List Value} {wcs : List (List Nat)} {i : Nat} {v : Value} (hws : StrsAre ws (wcs.map mkS)) (hwc : ∀ l ∈ wcs, l.length ≤ 20) (hi : i < wcs.length) (hv : ws.toArray[i]? = some v) :
    ∃ wz tw, v = .str wz tw ∧ wz = mkS (wcs.getD i []) ∧ wz.length ≤ 20 ∧ (mkS (wcs.getD i [] ++ [42])).length ≤ 1200 := by
  obtain ⟨wz, tw, rfl, hwz⟩ := strs_mem3 hws i v (by rw [← List.getElem?_toArray]; exact hv)
  rw [List.getElem?_map, List.getElem?_eq_getElem hi] at hwz
  have e := Option.some.inj hwz
  have hl : (wcs.getD i []).length ≤ 20 := by
    rw [List.getD_eq_getElem?_getD, List.getElem?_eq_getElem hi]
    exact hwc _ (List.getElem_mem _)
  have e1 : wz = mkS (wcs.getD i []) := by
    rw [← e, List.getD_eq_getElem?_getD, List.getElem?_eq_getElem hi]
    rfl
  refine ⟨wz, tw, rfl, e1, ?_, ?_⟩
  · rw [e1]
    exact hl
  · show (wcs.getD i [] ++ [42]).toArray.size ≤ 1200
    rw [List.size_toArray, List.length_append]
    show (wcs.getD i []).length + 1 ≤ 1200
    lia
theorem lseg17 {prog : Program} {w : World} {A : Around} {E : Value → Shared → Prop} {s : Shared} {g : Heap} {mean : ExcName → Option Value} {mg mb : PySem.Str → Option Value} {ls : List Str} {Q : Flow → Shared → Prop}
   {L f W0 : Addr} {cdv : Value} {o5 o7 o8 : Obj} {R : List (Addr × Obj)} {m : Str → Option Value} {zs : List Str} {ws : List Value} {wcs : List (List Nat)} {sk : List Nat} {bz : Str} {tb : Tok}
   {z dz a r : Addr} {t1 t2 t3 t4 : Tok} {us rs : List Value} {m1 m2 : Nat} {dv rv : Value}
   (X' : (K w.params).In g) (T' : Top topProg ls mean mg mb g) (hh : A.handled = none) (hd : A.depth + 100 < recursionLimit) (hu : A.units + 300 < cLine)
   (F : Fr g L s.heap m)
   (N : News g L s.heap ((W0, lst ws) :: (L + 1 + 1 + 1 + 1 + 1, o5) :: (L + 1 + 1 + 1 + 1 + 1 + 1 + 1, o7) :: (L + 1 + 1 + 1 + 1 + 1 + 1 + 1 + 1, o8) :: (z, instObj 59 dz) :: (dz, entDict w.params t1 t2 t3 t4 (.ref a) (.ref r) dv rv) :: (a, W.listOf us.toArray m1) :: (r, W.listOf rs.toArray m2) :: R))
   (h5 : o5.data = .cell (some (.ref W0))) (h7 : o7.data = .cell (some (.ref z))) (h8 : o8.data = .cell (some (.str bz tb))) (hdl : handedIn dv = true) (hrr : handedIn rv = true) (hus : Wrd us.toArray (Str.ofString "*" :: zs)) (hz60 : zs.length ≤ 55) (hz10 : ∀ z ∈ zs, z.length ≤ 10)
   (hws : StrsAre ws (wcs.map mkS)) (hwl : wcs.length ≤ 8) (hwc : ∀ l ∈ wcs, l.length ≤ 20) (hbz : bz.length ≤ 340)
   (hsp : ∀ p, p < wcs.length → ∃ fw, (Txt.split (Txt.upper (mkS (wcs.getD p [])) ++ bz) (Str.ofString "/"))[0]? = some fw ∧ fw.length ≤ 400 ∧ Txt.lower fw = mkS (wcs.getD p [] ++ [42]))
   (hlaw : ∀ p, p < wcs.length → (Str.ofString "*" :: zs).any (hits (mkS (wcs.getD p [] ++ [42]))) = !(sk.contains p))
   (hQ : ∀ (h' : Heap) (tk : Nat) (m' : Str → Option Value) (H0 : Addr), Fr g L h' m' → Holds m' [(Str.ofString "heard", .ref H0)] →
      News g L h' ((H0, lst ((List.range wcs.length).map (toldZ sk))) :: R) →
      wpAny (model prog w) (A.deeper (env217 L f cdv)) (execs (b217.drop 18) (env217 L f cdv)) Q E { s with heap := h', toks := tk }) :
   wpAny (model prog w) (A.deeper (env217 L f cdv)) (execs (b217.drop 17) (env217 L f cdv)) Q E s := by
  rw [show b217.drop 17 = nth b217 17 :: b217.drop 18 from rfl]
  generalize b217.drop 18 = rst at *
  rw [show nth b217 17 = _ from (by conv => lhs; whnf)]
  unfold env217 at *
  rw [show sc217 = _ from (by conv => lhs; whnf)] at *
  have hwsl : ws.length = wcs.length := by rw [hws.length, List.length_map]
  k_steps
  rename Fr _ _ _ _ => F2
  rename News _ _ _ _ => N2
  refine' Stop.mk (assignOfN (cl := [(Str.ofString "merged", L + 1 + 1 + 1 + 1 + 1 + 1 + 1), (Str.ofString "behind", L + 1 + 1 + 1 + 1 + 1 + 1 + 1 + 1)]) F2 rfl ?k1 ?k2 rfl ?k3 rfl rfl rfl ?_)
  case k1 => rfl
  case k2 => exact rfl
  case k3 => decide
  k_steps
  refine ⟨[], wcs.length, fun i v _ => ws.toArray[i]? = some v, _, fun i ys => i ≤ wcs.length ∧ ys = (List.range i).map (toldZ sk),
    [W0], starts_list' (by rw [List.size_toArray, hwsl]) hh ⟨_, N2.get (a := W0) (by k_mem), rfl, _, rfl⟩, F2, N2, (fun _ h => nomatch h), ⟨Nat.zero_le _, rfl⟩, ?_, ?_, ?_⟩
  · rintro i ys ⟨h2, rfl⟩
    rw [List.length_map, List.length_range]
    exact Nat.le_trans (Nat.le_trans h2 hwl) (by decide)
  · intro D C oC mC i v _ ys tail s₁ E' Qe hi hC hCv F₁ N₁ hap hq hP hj
    obtain ⟨wz, tw, rfl, hwe, hwl20, hll⟩ := word_of hws hwc hi hP
    obtain ⟨fw, hs1, hs2, hs3⟩ := hsp i hi
    have hlw := hlaw i hi
    have N₂ : News g L s₁.heap ((D, lst ys) :: (C, oC) :: (W0, lst ws) :: (L + 1 + 1 + 1 + 1 + 1, o5) :: (L + 1 + 1 + 1 + 1 + 1 + 1 + 1, o7) :: (L + 1 + 1 + 1 + 1 + 1 + 1 + 1 + 1, o8) :: (z, instObj 59 dz) :: (dz, entDict w.params t1 t2 t3 t4 (.ref a) (.ref r) dv rv) :: (a, W.listOf us.toArray m1) :: (r, W.listOf rs.toArray m2) :: (R ++ tail)) := N₁
    clear F2 N2 N₁ hP
    rw [← hwe] at hs1
    k_steps
    rename _ ∧ (Txt.upper wz ++ bz).length ≤ _ => hlen2
    refine Stop.mk (applies_N (x := z) (dx := dz) (a := a) (r := r) (t1 := t1) (t2 := t2) (t3 := t3) (t4 := t4) (us := us) (rs := rs) (n1 := m1) (n2 := m2) (dl := dv) (rr := rv) (uz := Str.ofString "*" :: zs) (fw := fw) (lw := mkS (wcs.getD i [] ++ [42])) X' T' F₁ N₂ hh (by show A.depth + 1 + 20 < _; lia) (by show A.units + _ + 100 < _; lia) (fun p hp => pickE_sub _ [6, 7, 8, 9] p hp) hdl hrr hus (by simp; lia) (by lia) hs1 hs2 hs3 hll (fun q hq => by
      rcases List.mem_cons.mp hq with rfl | hq
      · decide
      · exact hz10 q hq) fun h3 tk3 F3 N3 => ?_)
    rw [hlw]
    obtain ⟨_, rfl⟩ := hj
    exact hq _ _ _ _ F3 N3 (sub_pre [] _ _ ((W0, lst ws) :: (L + 1 + 1 + 1 + 1 + 1, o5) :: (L + 1 + 1 + 1 + 1 + 1 + 1 + 1, o7) :: (L + 1 + 1 + 1 + 1 + 1 + 1 + 1 + 1, o8) :: (z, instObj 59 dz) :: (dz, entDict w.params t1 t2 t3 t4 (.ref a) (.ref r) dv rv) :: (a, W.listOf us.toArray m1) :: (r, W.listOf rs.toArray m2) :: R) tail) ⟨hi, by rw [List.range_succ, List.map_append]; rfl⟩
  · intro H0 h7' tk7 ys hLD F7 N7 hap7 hj
    obtain ⟨_, rfl⟩ := hj
    clear F2 N2
    exact hQ _ _ _ H0 F7 ⟨rfl, trivial⟩ (nPick N7 [0] 9)
end Mine
namespace Mine
local macro_rules | `(tactic| k_all) => `(tactic| first | assumption | (refine' all_cons ?a ?b; (case a => k_ne); (case b => k_all)))
local macro_rules | `(tactic| k_handed) => `(tactic| assumption)
local macro_rules | `(tactic| walk_at $k) => Mine.stopAt ["eval ListComp", "compareOp NotIn int ref"] k
local macro_rules | `(tactic| walk_at "eval Name") => `(tactic| (k_here; (with_reducible show wpAny _ _ (eval (Expr.Name (Str.ofString "sick") _) (cenvOf _ _ _ _)) _ _ _); walk_at "nf"))
theorem any_contains (sk : List Nat) (i : Nat) : (sk.map Int.ofNat).any (· == ((i : Nat) : Int)) = sk.contains i := by
  induction sk with
  | nil => rfl
  | cons a r ih =>
    rw [List.map_cons, List.any_cons, ih, List.contains_cons]
    congr 1
    rw [Bool.eq_iff_iff]
    simp only [beq_iff_eq]
    constructor
    · intro h
      have : (a : Int) = (i : Int) := h
      lia
    · intro h
      rw [h]
      rfl
theorem lseg18 {prog : Program} {w : World} {A : Around} {E : Value → Shared → Prop} {s : Shared} {g : Heap} {mean : ExcName → Option Value} {mg mb : PySem.Str → Option Value} {ls : List Str} {Q : Flow → Shared → Prop}
   {L f K0 H0 : Addr} {cdv : Value} {o6 : Obj} {R : List (Addr × Obj)} {m : Str → Option Value} {ks : List Value} {sk : List Nat} {count : Nat}
   (X' : (K w.params).In g) (T' : Top topProg ls mean mg mb g) (hh : A.handled = none) (hd : A.depth + 100 < recursionLimit) (hu : A.units + 300 < cLine)
   (F : Fr g L s.heap m) (hm : Holds m [(Str.ofString "heard", .ref H0)])
   (N : News g L s.heap ((H0, lst ((List.range count).map (toldZ sk))) :: (K0, W.listOf ks.toArray 0) :: (L + 1 + 1 + 1 + 1 + 1 + 1, o6) :: R))
   (h6 : o6.data = .cell (some (.ref K0))) (hsk : IntsAre ks (sk.map Int.ofNat)) (hc : count ≤ 8)
   (hQ : ∀ (h' : Heap) (tk : Nat) (m' : Str → Option Value), Fr g L h' m' → News g L h' ((K0, W.listOf ks.toArray 0) :: (L + 1 + 1 + 1 + 1 + 1 + 1, o6) :: R) → Q (.ret (.bool true)) { s with heap := h', toks := tk }) :
   wpAny (model prog w) (A.deeper (env217 L f cdv)) (execs (b217.drop 18) (env217 L f cdv)) Q E s := by
  have F1 := pins F hm
  clear F hm
  rw [show b217.drop 18 = _ from (by conv => lhs; whnf)]
  unfold env217 at *
  rw [show sc217 = _ from (by conv => lhs; whnf)] at *
  k_steps
  rename Fr _ _ _ _ => F2
  rename News _ _ _ _ => N2
  refine' Stop.mk (compOfPT (cl := [(Str.ofString "sick", L + 1 + 1 + 1 + 1 + 1 + 1)]) F2 ?k1 rfl ?k3 hh rfl rfl (by decide) ?_)
  case k1 => exact rfl
  case k3 => decide
  k_steps
  refine enumN F2 N2 (its := ((List.range count).map (toldZ sk)).toArray) (n := count) ⟨_, N2.get (a := H0) (by k_mem), rfl, _, rfl⟩ (by simp) fun e it h13 F13 N13 hst hown => ?_
  clear F2 N2
  refine ⟨[e, it], count, fun j a b => ∃ t, ((List.range count).map (toldZ sk)).toArray[j]? = some b ∧ a = .int (j : Nat) t, _, fun _ ys => ys = [], [H0], hst _ _ _ _ hh, F13, N13, hown, rfl, ?_, ?_, ?_⟩
  · rintro i ys rfl
    exact Nat.zero_le _
  · intro D C oC mC i a b ys tail s₁ E' Qe Qs hi hC hCa hCb F₁ N₁ hap hq hq' hP hj
    obtain ⟨ta, hb, rfl⟩ := hP
    have N₂ : News g L s₁.heap ((D, lst ys) :: (C, oC) :: (H0, lst ((List.range count).map (toldZ sk))) :: (K0, W.listOf ks.toArray 0) :: (L + 1 + 1 + 1 + 1 + 1 + 1, o6) :: (R ++ tail)) := N₁
    clear F13 N13 N₁
    obtain rfl : b = .bool (!(sk.contains i)) := by
      have hb' : ((List.range count).map (toldZ sk))[i]? = some b := by rw [← List.getElem?_toArray]; exact hb
      rw [List.getElem?_map, List.getElem?_range hi] at hb'
      exact (Option.some.inj hb').symm
    k_steps
    refine Stop.mk (notin_list_ints ⟨_, N₂.get (a := K0) (by k_mem), rfl, _, rfl⟩ hsk ?_)
    rw [any_contains]
    clear hCb hb
    cases sk.contains i
    · k_steps
      exact hq' _ _ _ F₁ N₂ (sub_pre [] _ _ ((H0, lst ((List.range count).map (toldZ sk))) :: (K0, W.listOf ks.toArray 0) :: (L + 1 + 1 + 1 + 1 + 1 + 1, o6) :: R) tail) hj
    · k_steps
      exact hq' _ _ _ F₁ N₂ (sub_pre [] _ _ ((H0, lst ((List.range count).map (toldZ sk))) :: (K0, W.listOf ks.toArray 0) :: (L + 1 + 1 + 1 + 1 + 1 + 1, o6) :: R) tail) hj
  · intro D h7' tk7 ys hLD F7 N7 hap7 hj
    obtain rfl := hj
    clear F13 N13
    k_steps
    rename Fr _ _ _ _ => F9
    rename News _ _ _ _ => N9
    exact hQ _ _ _ F9 (nPick N9 [] 3)
end Mine
namespace Mine
theorem cell_ne {g h : Heap} {L x y : Addr} {l : List (Addr × Obj)} {o oc : Obj} {u : Option Value} (N : News g L h l) (hy : (y, oc) ∈ l) (hc : oc.data = .cell u) (hx : (x, o) ∈ l) (ho : ∀ u, o.data ≠ .cell u) : x ≠ y := by
  rintro rfl
  have e := (N _ hx).1.symm.trans (N _ hy).1
  injection e with e
  exact ho u (by rw [show o = oc from e]; exact hc)
theorem ofA1 {a : Nat} : a + 1 ≠ a := by lia
theorem ofB1 {a : Nat} : a ≠ a + 1 := by lia
theorem ofA2 {a : Nat} : a + 1 + 1 ≠ a := by lia
theorem ofB2 {a : Nat} : a ≠ a + 1 + 1 := by lia
theorem ofA3 {a : Nat} : a + 1 + 1 + 1 ≠ a := by lia
theorem ofB3 {a : Nat} : a ≠ a + 1 + 1 + 1 := by lia
theorem ofA4 {a : Nat} : a + 1 + 1 + 1 + 1 ≠ a := by lia
theorem ofB4 {a : Nat} : a ≠ a + 1 + 1 + 1 + 1 := by lia
theorem ofA5 {a : Nat} : a + 1 + 1 + 1 + 1 + 1 ≠ a := by lia
theorem ofB5 {a : Nat} : a ≠ a + 1 + 1 + 1 + 1 + 1 := by lia
theorem ofA6 {a : Nat} : a + 1 + 1 + 1 + 1 + 1 + 1 ≠ a := by lia
theorem ofB6 {a : Nat} : a ≠ a + 1 + 1 + 1 + 1 + 1 + 1 := by lia
theorem ofA7 {a : Nat} : a + 1 + 1 + 1 + 1 + 1 + 1 + 1 ≠ a := by lia
theorem ofB7 {a : Nat} : a ≠ a + 1 + 1 + 1 + 1 + 1 + 1 + 1 := by lia
theorem nTail {g h : Heap} {L : Addr} {l md : List (Addr × Obj)} {a b c : Addr × Obj} (N : News g L h l) (k : Nat) (e : l.drop k = c :: (md ++ [a, b])) : News g L h (l.take k ++ (a :: b :: c :: md)) := nSub N fun p hp => (List.mem_append.mp hp).elim List.mem_of_mem_take fun h => List.mem_of_mem_drop (e ▸ (by
  rcases List.mem_cons.mp h with rfl | h
  · exact .tail _ (List.mem_append_right _ (.head _))
  · rcases List.mem_cons.mp h with rfl | h
    · exact .tail _ (List.mem_append_right _ (.tail _ (.head _)))
    · rcases List.mem_cons.mp h with rfl | h
      · exact .head _
      · exact .tail _ (List.mem_append_left _ h)) : p ∈ l.drop k)
theorem all_nil {d : Addr} : ∀ p ∈ ([] : List (Addr × Obj)), p.1 ≠ d := fun p hp => by cases hp
theorem sub_nil {n : List (Addr × Obj)} : ∀ p ∈ ([] : List (Addr × Obj)), p ∈ n := fun p hp => by cases hp
theorem sub_skip {a : Addr × Obj} {r n : List (Addr × Obj)} (h : ∀ p ∈ r, p ∈ n) : ∀ p ∈ r, p ∈ a :: n := fun p hp => List.mem_cons_of_mem _ (h p hp)
theorem sub_id {n : List (Addr × Obj)} : ∀ p ∈ n, p ∈ n := fun _ hp => hp
theorem ne_at {d : Addr} {n : List (Addr × Obj)} (h : ∀ p ∈ n, p.1 ≠ d) {a : Addr} {o : Obj} (hm : (a, o) ∈ n) : a ≠ d := h _ hm
theorem isList_ne {h : Heap} {a : Addr} {xs : Array Value} {t : Addr} (x : h.IsList a xs) (ht : h.get? t = some (tabObj #[])) : t ≠ a := by
  rintro rfl
  obtain ⟨o, e, _, n, d⟩ := x
  rw [ht] at e
  cases e
  cases d
noncomputable abbrev tabs3 : List (Addr × Obj) := [((192 : Addr), tabObj #[]), ((86 : Addr), tabObj #[]), ((93 : Addr), tabObj #[])]
theorem holds_cells {m : Str → Option Value} {v : Value} : Holds (fun y => if y = Str.ofString "cells" then some v else m y) [(Str.ofString "cells", v)] := ⟨if_pos rfl, trivial⟩
set_option maxHeartbeats 4000000 in
theorem law_body {prog : Program} {w : World} {A : Around} {E : Value → Shared → Prop} {s : Shared} {gr : Heap} {mean : ExcName → Option Value} {mg mb : PySem.Str → Option Value} {ls : List Str} {Q : Flow → Shared → Prop}
   {L f sl : Addr} {cdv : Value} {o1 o2 o3 o4 o5 o6 o7 o8 : Obj} {u2 u3 u4 u5 u6 u7 u8 : Option Value} {m : Str → Option Value} {vs : List Value} {ns : List Int}
   (X : (K w.params).In gr) {tp : Program} (T : Top tp ls mean mg mb gr) (hh : A.handled = none) (hd : A.depth + 100 < recursionLimit) (hu : A.units + 300 < cLine)
   (t86 : gr.get? 86 = some (tabObj #[])) (t93 : gr.get? 93 = some (tabObj #[])) (t192 : gr.get? 192 = some (tabObj #[]))
   (F : Fr gr L s.heap m) (N : News gr L s.heap [(L + 1 + 1 + 1 + 1 + 1 + 1 + 1 + 1, o8), (L + 1 + 1 + 1 + 1 + 1 + 1 + 1, o7), (L + 1 + 1 + 1 + 1 + 1 + 1, o6), (L + 1 + 1 + 1 + 1 + 1, o5), (L + 1 + 1 + 1 + 1, o4), (L + 1 + 1 + 1, o3), (L + 1 + 1, o2), (L + 1, o1)])
   (h1 : o1.data = .cell (some (.ref sl))) (h2 : o2.data = .cell u2) (h3 : o3.data = .cell u3) (h4 : o4.data = .cell u4) (h5 : o5.data = .cell u5) (h6 : o6.data = .cell u6) (h7 : o7.data = .cell u7) (h8 : o8.data = .cell u8)
   (hsl : gr.IsList sl vs.toArray) (hvs : IntsAre vs ns) (hns : ns.length ≤ 63)
   (hQ : ∀ (h' : Heap) (tk : Nat) (m' : Str → Option Value) (p86 p93 p192 : Array Value), Fr (gh gr tabs3) L h' m' → News (gh gr tabs3) L h' [(86, tabObj p86), (93, tabObj p93), (192, tabObj p192)] → Q (.ret (.bool true)) { s with heap := h', toks := tk }) :
   wpAny (model prog w) (A.deeper (env217 L f cdv)) (execs b217 (env217 L f cdv)) Q E s := by
  have H : Aside gr [((192 : Addr), tabObj #[]), ((86 : Addr), tabObj #[]), ((93 : Addr), tabObj #[])] := fun p hp => by
    rcases List.mem_cons.mp hp with rfl | hp
    · exact t192
    · rcases List.mem_cons.mp hp with rfl | hp
      · exact t86
      · rw [List.mem_singleton.mp hp]; exact t93
  have hta : ∀ p ∈ [((192 : Addr), tabObj #[]), ((86 : Addr), tabObj #[]), ((93 : Addr), tabObj #[])], p.2 = tabObj #[] ∧ p.1 ∉ as := fun p hp => by
    rcases List.mem_cons.mp hp with rfl | hp
    · exact ⟨rfl, by show (192 : Nat) ∉ as; decide⟩
    · rcases List.mem_cons.mp hp with rfl | hp
      · exact ⟨rfl, by show (86 : Nat) ∉ as; decide⟩
      · rw [List.mem_singleton.mp hp]; exact ⟨rfl, by show (93 : Nat) ∉ as; decide⟩
  have X' := gh_K X (hid := [((192 : Addr), tabObj #[]), ((86 : Addr), tabObj #[]), ((93 : Addr), tabObj #[])]) fun p hp => (hta p hp).2
  have T' := gh_Top T H (fun p hp => by rw [(hta p hp).1]; exact May.tab _)
  have F' := gh_fr F [((192 : Addr), tabObj #[]), ((86 : Addr), tabObj #[]), ((93 : Addr), tabObj #[])]
  have N' := gh_news F N H
  have l0 := gh_lt F H
  have hl192 : @LT.lt Nat _ 192 L := l0 (192, tabObj #[]) List.mem_cons_self
  have hl93 : @LT.lt Nat _ 93 L := by lia
  have hsl' : (gh gr [((192 : Addr), tabObj #[]), ((86 : Addr), tabObj #[]), ((93 : Addr), tabObj #[])]).IsList sl vs.toArray := by
    have n1 := isList_ne hsl t86
    have n2 := isList_ne hsl t93
    have n3 := isList_ne hsl t192
    obtain ⟨o, e, r⟩ := hsl
    exact ⟨o, gh_get e fun p hp => by
      rcases List.mem_cons.mp hp with rfl | hp
      · exact n3
      · rcases List.mem_cons.mp hp with rfl | hp
        · exact n1
        · rw [List.mem_singleton.mp hp]; exact n2, r⟩
  clear F N H hta l0 X T hsl t86 t93 t192
  simp only [List.nil_append, List.cons_append] at N'
  generalize gh gr [((192 : Addr), tabObj #[]), ((86 : Addr), tabObj #[]), ((93 : Addr), tabObj #[])] = g at *
  refine lseg0 (rest := [(L + 1 + 1, o2), (L + 1 + 1 + 1, o3), (L + 1 + 1 + 1 + 1, o4), (L + 1 + 1 + 1 + 1 + 1, o5), (L + 1 + 1 + 1 + 1 + 1 + 1, o6), (L + 1 + 1 + 1 + 1 + 1 + 1 + 1, o7), (L + 1 + 1 + 1 + 1 + 1 + 1 + 1 + 1, o8), (192, tabObj #[]), (86, tabObj #[]), (93, tabObj #[])]) X' T' hh hd hu F' (nPickE N' [7, 6, 5, 4, 3, 2, 1, 0, 8, 9, 10]) h1 hsl' hvs hns fun h1' k1 D ys cs F1 N1 hys hcs pD => ?_
  clear N' F' hsl' hvs hns
  have nD2 : @Ne Nat D (L + 1 + 1) := fun e => ne_at pD (a := L + 1 + 1) (by (repeat (first | with_reducible exact List.mem_cons_self | with_reducible refine List.mem_cons_of_mem _ ?_))) e.symm
  have nD3 : @Ne Nat D (L + 1 + 1 + 1) := fun e => ne_at pD (a := L + 1 + 1 + 1) (by (repeat (first | with_reducible exact List.mem_cons_self | with_reducible refine List.mem_cons_of_mem _ ?_))) e.symm
  have nD4 : @Ne Nat D (L + 1 + 1 + 1 + 1) := fun e => ne_at pD (a := L + 1 + 1 + 1 + 1) (by (repeat (first | with_reducible exact List.mem_cons_self | with_reducible refine List.mem_cons_of_mem _ ?_))) e.symm
  have nD5 : @Ne Nat D (L + 1 + 1 + 1 + 1 + 1) := fun e => ne_at pD (a := L + 1 + 1 + 1 + 1 + 1) (by (repeat (first | with_reducible exact List.mem_cons_self | with_reducible refine List.mem_cons_of_mem _ ?_))) e.symm
  have nD6 : @Ne Nat D (L + 1 + 1 + 1 + 1 + 1 + 1) := fun e => ne_at pD (a := L + 1 + 1 + 1 + 1 + 1 + 1) (by (repeat (first | with_reducible exact List.mem_cons_self | with_reducible refine List.mem_cons_of_mem _ ?_))) e.symm
  have nD7 : @Ne Nat D (L + 1 + 1 + 1 + 1 + 1 + 1 + 1) := fun e => ne_at pD (a := L + 1 + 1 + 1 + 1 + 1 + 1 + 1) (by (repeat (first | with_reducible exact List.mem_cons_self | with_reducible refine List.mem_cons_of_mem _ ?_))) e.symm
  have nDt : @Ne Nat D 192 := fun e => ne_at pD (a := (192 : Addr)) (by (repeat (first | with_reducible exact List.mem_cons_self | with_reducible refine List.mem_cons_of_mem _ ?_))) e.symm
  have nDu : @Ne Nat D 86 := fun e => ne_at pD (a := (86 : Addr)) (by (repeat (first | with_reducible exact List.mem_cons_self | with_reducible refine List.mem_cons_of_mem _ ?_))) e.symm
  have nDv : @Ne Nat D 93 := fun e => ne_at pD (a := (93 : Addr)) (by (repeat (first | with_reducible exact List.mem_cons_self | with_reducible refine List.mem_cons_of_mem _ ?_))) e.symm
  clear pD
  refine lseg1 (s := { s with heap := h1', toks := k1 }) (R := [(L + 1 + 1 + 1 + 1, o4), (L + 1 + 1 + 1 + 1 + 1, o5), (L + 1 + 1 + 1 + 1 + 1 + 1, o6), (L + 1 + 1 + 1 + 1 + 1 + 1 + 1, o7), (L + 1 + 1 + 1 + 1 + 1 + 1 + 1 + 1, o8), (86, tabObj #[]), (93, tabObj #[])]) X' T' hh hd hu F1 holds_cells (nPickE N1 [0, 2, 3, 9, 4, 5, 6, 7, 8, 10, 11]) h2 h3 hys hcs (by repeat' (first | with_reducible exact all_nil | with_reducible assumption | with_reducible refine all_cons ?_ ?_ | (with_reducible refine neN ?_; with_reducible first | exact ofA1 | exact ofB1 | exact ofA2 | exact ofB2 | exact ofA3 | exact ofB3 | exact ofA4 | exact ofB4 | exact ofA5 | exact ofB5 | exact ofA6 | exact ofB6 | exact ofA7 | exact ofB7 | fail) | exact neN (by lia))) (by repeat' (first | with_reducible exact all_nil | with_reducible assumption | with_reducible refine all_cons ?_ ?_ | (with_reducible refine neN ?_; with_reducible first | exact ofA1 | exact ofB1 | exact ofA2 | exact ofB2 | exact ofA3 | exact ofB3 | exact ofA4 | exact ofB4 | exact ofA5 | exact ofB5 | exact ofA6 | exact ofB6 | exact ofA7 | exact ofB7 | fail) | exact neN (by lia))) (by repeat' (first | with_reducible exact all_nil | with_reducible assumption | with_reducible refine all_cons ?_ ?_ | (with_reducible refine neN ?_; with_reducible first | exact ofA1 | exact ofB1 | exact ofA2 | exact ofB2 | exact ofA3 | exact ofB3 | exact ofA4 | exact ofB4 | exact ofA5 | exact ofB5 | exact ofA6 | exact ofB6 | exact ofA7 | exact ofB7 | fail) | exact neN (by lia))) nD2 nD3 nDt hl192
    fun h2' k2 m2 r ms o2' o3' p192 t2 t3 t4 first count most kind place F2 hm2 N2 d2 d3 hfirst hc0 hc1 hm0 hm1 hk hpl hms hbis pr => ?_
  clear N1 F1 h2 h3
  have N2 : News g L h2' ((r, W.listOf ms.toArray 0) :: (D, lst ys) :: (L + 1 + 1, o2') :: (L + 1 + 1 + 1, o3') :: [(L + 1 + 1 + 1 + 1, o4), (L + 1 + 1 + 1 + 1 + 1, o5), (L + 1 + 1 + 1 + 1 + 1 + 1, o6), (L + 1 + 1 + 1 + 1 + 1 + 1 + 1, o7), (L + 1 + 1 + 1 + 1 + 1 + 1 + 1 + 1, o8), (86, tabObj #[]), (93, tabObj #[]), (192, tabObj p192)]) := N2
  have M := mods hk hpl hc0 hc1 hm1 hbis
  have lr4 : @LT.lt Nat _ (L + 1 + 1 + 1 + 1) r := pr _ (by (repeat (first | with_reducible exact List.mem_cons_self | with_reducible refine List.mem_cons_of_mem _ ?_)) : (L + 1 + 1 + 1 + 1, o4) ∈ _)
  have lr8 : @LT.lt Nat _ (L + 1 + 1 + 1 + 1 + 1 + 1 + 1 + 1) r := pr _ (by (repeat (first | with_reducible exact List.mem_cons_self | with_reducible refine List.mem_cons_of_mem _ ?_)) : (L + 1 + 1 + 1 + 1 + 1 + 1 + 1 + 1, o8) ∈ _)
  have lrD : @LT.lt Nat _ D r := pr _ (by (repeat (first | with_reducible exact List.mem_cons_self | with_reducible refine List.mem_cons_of_mem _ ?_)) : (D, lst ys) ∈ _)
  clear pr hbis hk hpl
  generalize (mrow kind).take (place + 1) = mn at *
  refine lseg3 (s := { s with heap := h2', toks := k2 }) (R := [(D, lst ys), (L + 1 + 1 + 1 + 1 + 1, o5), (L + 1 + 1 + 1 + 1 + 1 + 1, o6), (L + 1 + 1 + 1 + 1 + 1 + 1 + 1, o7), (L + 1 + 1 + 1 + 1 + 1 + 1 + 1 + 1, o8), (192, tabObj p192)]) X' T' hh hd hu F2 hm2 (nPickE N2 [9, 10, 0, 2, 3, 4, 1, 5, 6, 7, 8, 11]) d2 d3 h4 hms (fun z hz => ⟨(M.small z hz).1, Nat.lt_of_le_of_lt (M.small z hz).2 (by decide)⟩) (Nat.le_succ_of_le M.l5) hfirst hc0 hc1 (by repeat' (first | with_reducible exact all_nil | with_reducible assumption | with_reducible refine all_cons ?_ ?_ | (with_reducible refine neN ?_; with_reducible first | exact ofA1 | exact ofB1 | exact ofA2 | exact ofB2 | exact ofA3 | exact ofB3 | exact ofA4 | exact ofB4 | exact ofA5 | exact ofB5 | exact ofA6 | exact ofB6 | exact ofA7 | exact ofB7 | fail) | exact neN (by lia))) (fun p hp => ⟨((by repeat' (first | with_reducible exact all_nil | with_reducible assumption | with_reducible refine all_cons ?_ ?_ | (with_reducible refine neN ?_; with_reducible first | exact ofA1 | exact ofB1 | exact ofA2 | exact ofB2 | exact ofA3 | exact ofB3 | exact ofA4 | exact ofB4 | exact ofA5 | exact ofB5 | exact ofA6 | exact ofB6 | exact ofA7 | exact ofB7 | fail) | exact neN (by lia))) : ∀ p ∈ [(D, lst ys), (L + 1 + 1 + 1 + 1 + 1, o5), (L + 1 + 1 + 1 + 1 + 1 + 1, o6), (L + 1 + 1 + 1 + 1 + 1 + 1 + 1, o7), (L + 1 + 1 + 1 + 1 + 1 + 1 + 1 + 1, o8), (192, tabObj p192)], p.1 ≠ 86) p hp, ((by repeat' (first | with_reducible exact all_nil | with_reducible assumption | with_reducible refine all_cons ?_ ?_ | (with_reducible refine neN ?_; with_reducible first | exact ofA1 | exact ofB1 | exact ofA2 | exact ofB2 | exact ofA3 | exact ofB3 | exact ofA4 | exact ofB4 | exact ofA5 | exact ofB5 | exact ofA6 | exact ofB6 | exact ofA7 | exact ofB7 | fail) | exact neN (by lia))) : ∀ p ∈ [(D, lst ys), (L + 1 + 1 + 1 + 1 + 1, o5), (L + 1 + 1 + 1 + 1 + 1 + 1, o6), (L + 1 + 1 + 1 + 1 + 1 + 1 + 1, o7), (L + 1 + 1 + 1 + 1 + 1 + 1 + 1 + 1, o8), (192, tabObj p192)], p.1 ≠ 93) p hp⟩) lr4 hl93
    fun h3' k3 m3 Dr rs o4' made p86 p93 F3 hm3 N3 d4 hrl hrows pmade pDr pmD => ?_
  clear N2 F2 hm2 h4 d2
  have N3 : News g L h3' ((Dr, lst rs) :: (r, W.listOf ms.toArray 0) :: (L + 1 + 1, o2') :: (L + 1 + 1 + 1, o3') :: (L + 1 + 1 + 1 + 1, o4') :: (D, lst ys) :: (L + 1 + 1 + 1 + 1 + 1, o5) :: (L + 1 + 1 + 1 + 1 + 1 + 1, o6) :: (L + 1 + 1 + 1 + 1 + 1 + 1 + 1, o7) :: (L + 1 + 1 + 1 + 1 + 1 + 1 + 1 + 1, o8) :: (192, tabObj p192) :: (made ++ [(86, tabObj p86), (93, tabObj p93)])) := N3
  have N3 : News g L h3' ((Dr, lst rs) :: (r, W.listOf ms.toArray 0) :: (L + 1 + 1, o2') :: (L + 1 + 1 + 1, o3') :: (L + 1 + 1 + 1 + 1, o4') :: (D, lst ys) :: (L + 1 + 1 + 1 + 1 + 1, o5) :: (L + 1 + 1 + 1 + 1 + 1 + 1, o6) :: (L + 1 + 1 + 1 + 1 + 1 + 1 + 1, o7) :: (L + 1 + 1 + 1 + 1 + 1 + 1 + 1 + 1, o8) :: (86, tabObj p86) :: (93, tabObj p93) :: (192, tabObj p192) :: made) := nTail N3 10 rfl
  have hrows4 : ∀ j k, mn[j]? = some k → ∃ v, rs[j]? = some v ∧ RowAt first count (sgnM j k) ((D, lst ys) :: (L + 1 + 1 + 1, o3') :: (L + 1 + 1 + 1 + 1 + 1, o5) :: (L + 1 + 1 + 1 + 1 + 1 + 1, o6) :: (L + 1 + 1 + 1 + 1 + 1 + 1 + 1, o7) :: (L + 1 + 1 + 1 + 1 + 1 + 1 + 1 + 1, o8) :: (86, tabObj p86) :: (93, tabObj p93) :: (192, tabObj p192) :: made) v := fun j k e => by
    obtain ⟨v, hv, hr⟩ := hrows j k e
    exact ⟨v, hv, hr.more (by repeat' (first | with_reducible exact sub_nil | with_reducible exact List.mem_cons_self | with_reducible refine List.mem_cons_of_mem _ ?_ | with_reducible refine sub_cons ?_ ?_ | with_reducible exact sub_id | with_reducible refine sub_skip ?_))⟩
  refine lseg4 (made := made) (s := { s with heap := h3', toks := k3 }) (R := (D, lst ys) :: (L + 1 + 1 + 1, o3') :: (L + 1 + 1 + 1 + 1 + 1, o5) :: (L + 1 + 1 + 1 + 1 + 1 + 1, o6) :: (L + 1 + 1 + 1 + 1 + 1 + 1 + 1, o7) :: (L + 1 + 1 + 1 + 1 + 1 + 1 + 1 + 1, o8) :: (86, tabObj p86) :: (93, tabObj p93) :: (192, tabObj p192) :: made) X' T' hh hd hu F3 hm3 (nPick N3 [0, 1, 4, 5, 3, 6, 7, 8, 9, 10, 11, 12] 13) d4 hms (Nat.le_succ_of_le M.l5) M.l1 hc0 hrl hrows4
    fun h4' k4 m4 F4 hm4 N4 => ?_
  clear N3 F3 hm3
  have hrows5 : ∀ j k, mn[j]? = some k → ∃ v, rs[j]? = some v ∧ RowAt first count (sgnM j k) ((r, W.listOf ms.toArray 0) :: (D, lst ys) :: (L + 1 + 1 + 1 + 1 + 1 + 1, o6) :: (L + 1 + 1 + 1 + 1 + 1 + 1 + 1, o7) :: (L + 1 + 1 + 1 + 1 + 1 + 1 + 1 + 1, o8) :: (86, tabObj p86) :: (93, tabObj p93) :: (192, tabObj p192) :: made) v := fun j k e => by
    obtain ⟨v, hv, hr⟩ := hrows j k e
    exact ⟨v, hv, hr.more (by repeat' (first | with_reducible exact sub_nil | with_reducible exact List.mem_cons_self | with_reducible refine List.mem_cons_of_mem _ ?_ | with_reducible refine sub_cons ?_ ?_ | with_reducible exact sub_id | with_reducible refine sub_skip ?_))⟩
  clear hrows4 hrows
  have nDr5 : @Ne Nat Dr (L + 1 + 1 + 1 + 1 + 1) := fun e => ne_at pDr (a := L + 1 + 1 + 1 + 1 + 1) (by (repeat (first | with_reducible exact List.mem_cons_self | with_reducible refine List.mem_cons_of_mem _ ?_))) e.symm
  have hmade5 : ∀ p ∈ made, p.1 ≠ L + 1 + 1 + 1 + 1 + 1 := fun p hp => pmade p hp (L + 1 + 1 + 1 + 1 + 1, o5) (by (repeat (first | with_reducible exact List.mem_cons_self | with_reducible refine List.mem_cons_of_mem _ ?_)))
  refine lseg5 (r := r) (s := { s with heap := h4', toks := k4 }) (R := (r, W.listOf ms.toArray 0) :: (D, lst ys) :: (L + 1 + 1 + 1 + 1 + 1 + 1, o6) :: (L + 1 + 1 + 1 + 1 + 1 + 1 + 1, o7) :: (L + 1 + 1 + 1 + 1 + 1 + 1 + 1 + 1, o8) :: (86, tabObj p86) :: (93, tabObj p93) :: (192, tabObj p192) :: made) (first := first) X' T' hh hd hu F4 hm4 (nPick N4 [0, 4, 2, 5, 1, 3, 6, 7, 8, 9, 10, 11] 12) d3 d4 h5 M.l5 M.small hc0 hc1 hrl hrows5 (by repeat' (first | with_reducible exact all_nil | with_reducible assumption | with_reducible refine all_cons ?_ ?_ | (with_reducible refine neN ?_; with_reducible first | exact ofA1 | exact ofB1 | exact ofA2 | exact ofB2 | exact ofA3 | exact ofB3 | exact ofA4 | exact ofB4 | exact ofA5 | exact ofB5 | exact ofA6 | exact ofB6 | exact ofA7 | exact ofB7 | fail) | exact neN (by lia)))
    fun h5' k5 m5 W0 ws o5' F5 hm5 N5 d5 hws pW => ?_
  have nW06 : @Ne Nat W0 (L + 1 + 1 + 1 + 1 + 1 + 1) := fun e => ne_at pW (a := L + 1 + 1 + 1 + 1 + 1 + 1) (by (repeat (first | with_reducible exact List.mem_cons_self | with_reducible refine List.mem_cons_of_mem _ ?_))) e.symm
  have nW07 : @Ne Nat W0 (L + 1 + 1 + 1 + 1 + 1 + 1 + 1) := fun e => ne_at pW (a := L + 1 + 1 + 1 + 1 + 1 + 1 + 1) (by (repeat (first | with_reducible exact List.mem_cons_self | with_reducible refine List.mem_cons_of_mem _ ?_))) e.symm
  have nW08 : @Ne Nat W0 (L + 1 + 1 + 1 + 1 + 1 + 1 + 1 + 1) := fun e => ne_at pW (a := L + 1 + 1 + 1 + 1 + 1 + 1 + 1 + 1) (by (repeat (first | with_reducible exact List.mem_cons_self | with_reducible refine List.mem_cons_of_mem _ ?_))) e.symm
  clear N4 F4 hm4 hrows5 h5 d4 pmade pDr pmD hmade5 hrl
  refine lseg6 (s := { s with heap := h5', toks := k5 }) (R := [(W0, lst ws), (D, lst ys), (L + 1 + 1 + 1, o3'), (L + 1 + 1 + 1 + 1 + 1, o5'), (L + 1 + 1 + 1 + 1 + 1 + 1, o6), (L + 1 + 1 + 1 + 1 + 1 + 1 + 1, o7), (L + 1 + 1 + 1 + 1 + 1 + 1 + 1 + 1, o8), (86, tabObj p86), (93, tabObj p93), (192, tabObj p192)]) X' T' hh hd hu F5 hm5 (nPickE N5 [5, 0, 6, 2, 4, 7, 8, 9, 10, 11, 12]) hms M.l5 M.small
    fun h6' k6 m6 V0 es F6 hm6 N6 hes pV => ?_
  have nV06 : @Ne Nat V0 (L + 1 + 1 + 1 + 1 + 1 + 1) := fun e => ne_at pV (a := L + 1 + 1 + 1 + 1 + 1 + 1) (by (repeat (first | with_reducible exact List.mem_cons_self | with_reducible refine List.mem_cons_of_mem _ ?_))) e.symm
  have nV07 : @Ne Nat V0 (L + 1 + 1 + 1 + 1 + 1 + 1 + 1) := fun e => ne_at pV (a := L + 1 + 1 + 1 + 1 + 1 + 1 + 1) (by (repeat (first | with_reducible exact List.mem_cons_self | with_reducible refine List.mem_cons_of_mem _ ?_))) e.symm
  have nV08 : @Ne Nat V0 (L + 1 + 1 + 1 + 1 + 1 + 1 + 1 + 1) := fun e => ne_at pV (a := L + 1 + 1 + 1 + 1 + 1 + 1 + 1 + 1) (by (repeat (first | with_reducible exact List.mem_cons_self | with_reducible refine List.mem_cons_of_mem _ ?_))) e.symm
  clear N5 F5 hm5 hms
  refine lseg7 (s := { s with heap := h6', toks := k6 }) (R := [(W0, lst ws), (D, lst ys), (L + 1 + 1 + 1, o3'), (L + 1 + 1 + 1 + 1 + 1, o5'), (L + 1 + 1 + 1 + 1 + 1 + 1, o6), (L + 1 + 1 + 1 + 1 + 1 + 1 + 1, o7), (L + 1 + 1 + 1 + 1 + 1 + 1 + 1 + 1, o8), (86, tabObj p86), (93, tabObj p93), (192, tabObj p192)]) X' T' hh hd hu F6 hm6 (nPickE N6 [0, 2, 3, 4, 5, 6, 7, 8, 9, 10, 11]) hes (by rw [List.length_map]; exact Nat.le_trans M.e40 (by decide)) (fun z hz => by rw [ez_len M z hz]; decide)
    fun h7' k7 m7 A0 as' F7 hm7 N7 has pA => ?_
  have nA06 : @Ne Nat A0 (L + 1 + 1 + 1 + 1 + 1 + 1) := fun e => ne_at pA (a := L + 1 + 1 + 1 + 1 + 1 + 1) (by (repeat (first | with_reducible exact List.mem_cons_self | with_reducible refine List.mem_cons_of_mem _ ?_))) e.symm
  have nA07 : @Ne Nat A0 (L + 1 + 1 + 1 + 1 + 1 + 1 + 1) := fun e => ne_at pA (a := L + 1 + 1 + 1 + 1 + 1 + 1 + 1) (by (repeat (first | with_reducible exact List.mem_cons_self | with_reducible refine List.mem_cons_of_mem _ ?_))) e.symm
  have nA08 : @Ne Nat A0 (L + 1 + 1 + 1 + 1 + 1 + 1 + 1 + 1) := fun e => ne_at pA (a := L + 1 + 1 + 1 + 1 + 1 + 1 + 1 + 1) (by (repeat (first | with_reducible exact List.mem_cons_self | with_reducible refine List.mem_cons_of_mem _ ?_))) e.symm
  have nAW : @Ne Nat A0 W0 := fun e => ne_at pA (a := W0) (by (repeat (first | with_reducible exact List.mem_cons_self | with_reducible refine List.mem_cons_of_mem _ ?_))) e.symm
  clear N6 F6 hm6
  refine lseg8 (s := { s with heap := h7', toks := k7 }) (R := [(A0, lst as'), (V0, lst es), (W0, lst ws), (L + 1 + 1 + 1 + 1 + 1, o5'), (L + 1 + 1 + 1 + 1 + 1 + 1 + 1, o7), (L + 1 + 1 + 1 + 1 + 1 + 1 + 1 + 1, o8), (86, tabObj p86), (93, tabObj p93), (192, tabObj p192)]) X' T' hh hd hu F7 hm7 (nPickE N7 [3, 4, 6, 0, 1, 2, 5, 7, 8, 9, 10, 11]) d3 h6 hys hcs hc0 hc1 hm0 hm1 (by repeat' (first | with_reducible exact all_nil | with_reducible assumption | with_reducible refine all_cons ?_ ?_ | (with_reducible refine neN ?_; with_reducible first | exact ofA1 | exact ofB1 | exact ofA2 | exact ofB2 | exact ofA3 | exact ofB3 | exact ofA4 | exact ofB4 | exact ofA5 | exact ofB5 | exact ofA6 | exact ofB6 | exact ofA7 | exact ofB7 | fail) | exact neN (by lia)))
    fun h8' k8 m8 K0 ks sk o6' F8 hm8 N8 d6 hks hs0 hs1 hsk pK => ?_
  have nK07 : @Ne Nat K0 (L + 1 + 1 + 1 + 1 + 1 + 1 + 1) := fun e => ne_at pK (a := L + 1 + 1 + 1 + 1 + 1 + 1 + 1) (by (repeat (first | with_reducible exact List.mem_cons_self | with_reducible refine List.mem_cons_of_mem _ ?_))) e.symm
  have nK08 : @Ne Nat K0 (L + 1 + 1 + 1 + 1 + 1 + 1 + 1 + 1) := fun e => ne_at pK (a := L + 1 + 1 + 1 + 1 + 1 + 1 + 1 + 1) (by (repeat (first | with_reducible exact List.mem_cons_self | with_reducible refine List.mem_cons_of_mem _ ?_))) e.symm
  have nAK : @Ne Nat A0 K0 := ne_at pK (a := A0) (by (repeat (first | with_reducible exact List.mem_cons_self | with_reducible refine List.mem_cons_of_mem _ ?_)))
  have nWK : @Ne Nat W0 K0 := ne_at pK (a := W0) (by (repeat (first | with_reducible exact List.mem_cons_self | with_reducible refine List.mem_cons_of_mem _ ?_)))
  clear h6
  have hwz : StrsAre ws ((wordsC first mn count).map mkS) := by rw [wordsC_mk]; exact hws
  have hwl := wordsC_len first mn count
  have hwc := wordsC_low (count := count) M first
  have haz : StrsAre as' (agentsOf mn) := has
  have hskw : ∀ p ∈ sk, p < (wordsC first mn count).length := fun p hp => by rw [hwl]; exact hsk p hp
  have hsk3 : sk.length ≤ 3 := Nat.le_trans hs1 hm1
  have hwd : ∀ p, p < count → (wordsC first mn count).getD p [] = wordC first mn p := wordsC_at first mn count
  clear hws has pA pK
  generalize wordsC first mn count = wcs at *
  subst hwl
  refine lseg9 (s := { s with heap := h8', toks := k8 }) (R := [(V0, lst es), (L + 1 + 1 + 1, o3'), (L + 1 + 1 + 1 + 1 + 1 + 1 + 1 + 1, o8), (86, tabObj p86), (93, tabObj p93), (192, tabObj p192)]) (az := agentsOf mn) (wcs := wcs) X' T' hh hd hu F8 hm8 (nPickE N8 [0, 6, 4, 1, 7, 3, 8, 5, 2, 9, 10, 11, 12]) d5 d6 h7 hys hcs ⟨nAW, nAK, nWK⟩ (by repeat' (first | with_reducible exact all_nil | with_reducible assumption | with_reducible refine all_cons ?_ ?_ | (with_reducible refine neN ?_; with_reducible first | exact ofA1 | exact ofB1 | exact ofA2 | exact ofB2 | exact ofA3 | exact ofB3 | exact ofA4 | exact ofB4 | exact ofA5 | exact ofB5 | exact ofA6 | exact ofB6 | exact ofA7 | exact ofB7 | fail) | exact neN (by lia))) haz hwz hks (az_len M).1 (Nat.le_trans (az_len M).2 (by decide)) hc1 hwc (az_short M) hsk3 hskw
    fun h9' k9 m9 z dz a r' e1 e2 e3 e4 us rs' q1 q2 dv rv o7' F9 hm9 N9 d7 hus hrs hdv hrv => ?_
  clear N8 F8 hm8 h7
  have N9 : News g L h9' ((K0, W.listOf ks.toArray 0) :: (W0, lst ws) :: (A0, lst as') :: (L + 1 + 1 + 1 + 1 + 1, o5') :: (L + 1 + 1 + 1 + 1 + 1 + 1, o6') :: (L + 1 + 1 + 1 + 1 + 1 + 1 + 1, o7') :: (z, instObj 59 dz) :: (dz, entDict w.params e1 e2 e3 e4 (.ref a) (.ref r') dv rv) :: (a, W.listOf us.toArray q1) :: (r', W.listOf rs'.toArray q2) :: (V0, lst es) :: (L + 1 + 1 + 1, o3') :: [(L + 1 + 1 + 1 + 1 + 1 + 1 + 1 + 1, o8), (86, tabObj p86), (93, tabObj p93), (192, tabObj p192)]) := N9
  rw [merged_left _ _ (fun z hz => agent_star M.l5 M.small hz)] at hus
  refine lseg10 (s := { s with heap := h9', toks := k9 }) (R := [(W0, lst ws), (A0, lst as'), (L + 1 + 1 + 1 + 1 + 1, o5'), (V0, lst es), (L + 1 + 1 + 1 + 1 + 1 + 1 + 1 + 1, o8), (86, tabObj p86), (93, tabObj p93), (192, tabObj p192)]) X' T' hh hd hu F9 hm9 (nPickE N9 [6, 7, 8, 9, 0, 11, 4, 5, 1, 2, 3, 10, 12, 13, 14, 15]) d3 d6 d7 hks hsk3 hrs hdv.handed hrv.handed
    fun h10' k10 m10 F10 hm10 N10 => ?_
  clear N9 F9 hm9
  refine lseg11 (s := { s with heap := h10', toks := k10 }) (R := [(z, instObj 59 dz), (dz, entDict w.params e1 e2 e3 e4 (.ref a) (.ref r') dv rv), (a, W.listOf us.toArray q1), (r', W.listOf rs'.toArray q2), (W0, lst ws), (A0, lst as'), (L + 1 + 1 + 1 + 1 + 1, o5'), (L + 1 + 1 + 1 + 1 + 1 + 1 + 1, o7'), (V0, lst es), (L + 1 + 1 + 1 + 1 + 1 + 1 + 1 + 1, o8), (86, tabObj p86), (93, tabObj p93), (192, tabObj p192)]) X' T' hh hd hu F10 hm10 (nPickE N10 [4, 5, 6, 0, 1, 2, 3, 8, 9, 10, 7, 11, 12, 13, 14, 15]) d3 d6 hks hsk3
    fun h11' k11 m11 dw rw' F11 hm11 N11 hdw hrw => ?_
  clear N10 F10 hm10
  refine lseg12 (s := { s with heap := h11', toks := k11 }) (R := [(z, instObj 59 dz), (dz, entDict w.params e1 e2 e3 e4 (.ref a) (.ref r') dv rv), (a, W.listOf us.toArray q1), (r', W.listOf rs'.toArray q2), (L + 1 + 1 + 1 + 1 + 1 + 1 + 1, o7'), (V0, lst es), (L + 1 + 1 + 1 + 1 + 1 + 1 + 1 + 1, o8), (86, tabObj p86), (93, tabObj p93), (192, tabObj p192)]) (az := agentsOf mn) (wcs := wcs) X' T' hh hd hu F11 hm11 (nPickE N11 [0, 7, 8, 9, 2, 3, 4, 5, 6, 10, 11, 12, 13, 14, 15]) d5 d6 haz hwz hks (Nat.le_trans (az_len M).2 (by decide)) (az_short M) (fun l hl => (hwc l hl).1) hsk3 hskw hc1
    fun h12' k12 m12 B0 bs F12 hm12 N12 hbs pB => ?_
  clear N11 F11 hm11 pB
  refine lseg13 (s := { s with heap := h12', toks := k12 }) (R := [(K0, W.listOf ks.toArray 0), (W0, lst ws), (L + 1 + 1 + 1 + 1 + 1, o5'), (L + 1 + 1 + 1 + 1 + 1 + 1, o6'), (V0, lst es), (L + 1 + 1 + 1 + 1 + 1 + 1 + 1 + 1, o8), (86, tabObj p86), (93, tabObj p93), (192, tabObj p192)]) X' T' hh hd hu F12 hm12 (nPickE N12 [0, 5, 6, 7, 8, 9, 1, 2, 3, 4, 10, 11, 12, 13, 14]) d7 hdv hrv hdw hrw hbs (Nat.le_trans (left_len M wcs sk) (by decide)) hus
    fun h13' k13 m13 F13 hm13 N13 => ?_
  clear N12 F12 hm12 hdw hrw
  have c8m : (L + 1 + 1 + 1 + 1 + 1 + 1 + 1 + 1, o8) ∈ [(L + 1 + 1 + 1 + 1 + 1 + 1 + 1 + 1, o8)] := List.mem_cons_self
  have nB8 : @Ne Nat B0 (L + 1 + 1 + 1 + 1 + 1 + 1 + 1 + 1) := cell_ne N13 (by (repeat (first | with_reducible exact List.mem_cons_self | with_reducible refine List.mem_cons_of_mem _ ?_)) : (L + 1 + 1 + 1 + 1 + 1 + 1 + 1 + 1, o8) ∈ _) h8 (by (repeat (first | with_reducible exact List.mem_cons_self | with_reducible refine List.mem_cons_of_mem _ ?_)) : (B0, lst bs) ∈ _) (fun u e => by cases e)
  have nz8 : @Ne Nat z (L + 1 + 1 + 1 + 1 + 1 + 1 + 1 + 1) := cell_ne N13 (by (repeat (first | with_reducible exact List.mem_cons_self | with_reducible refine List.mem_cons_of_mem _ ?_)) : (L + 1 + 1 + 1 + 1 + 1 + 1 + 1 + 1, o8) ∈ _) h8 (by (repeat (first | with_reducible exact List.mem_cons_self | with_reducible refine List.mem_cons_of_mem _ ?_)) : (z, instObj 59 dz) ∈ _) (fun u e => by cases e)
  have ndz8 : @Ne Nat dz (L + 1 + 1 + 1 + 1 + 1 + 1 + 1 + 1) := cell_ne N13 (by (repeat (first | with_reducible exact List.mem_cons_self | with_reducible refine List.mem_cons_of_mem _ ?_)) : (L + 1 + 1 + 1 + 1 + 1 + 1 + 1 + 1, o8) ∈ _) h8 (by (repeat (first | with_reducible exact List.mem_cons_self | with_reducible refine List.mem_cons_of_mem _ ?_)) : (dz, entDict w.params e1 e2 e3 e4 (.ref a) (.ref r') dv rv) ∈ _) (fun u e => by cases e)
  have na8 : @Ne Nat a (L + 1 + 1 + 1 + 1 + 1 + 1 + 1 + 1) := cell_ne N13 (by (repeat (first | with_reducible exact List.mem_cons_self | with_reducible refine List.mem_cons_of_mem _ ?_)) : (L + 1 + 1 + 1 + 1 + 1 + 1 + 1 + 1, o8) ∈ _) h8 (by (repeat (first | with_reducible exact List.mem_cons_self | with_reducible refine List.mem_cons_of_mem _ ?_)) : (a, W.listOf us.toArray q1) ∈ _) (fun u e => by cases e)
  have nr8 : @Ne Nat r' (L + 1 + 1 + 1 + 1 + 1 + 1 + 1 + 1) := cell_ne N13 (by (repeat (first | with_reducible exact List.mem_cons_self | with_reducible refine List.mem_cons_of_mem _ ?_)) : (L + 1 + 1 + 1 + 1 + 1 + 1 + 1 + 1, o8) ∈ _) h8 (by (repeat (first | with_reducible exact List.mem_cons_self | with_reducible refine List.mem_cons_of_mem _ ?_)) : (r', W.listOf rs'.toArray q2) ∈ _) (fun u e => by cases e)
  refine lseg14 (s := { s with heap := h13', toks := k13 }) (R := [(K0, W.listOf ks.toArray 0), (W0, lst ws), (L + 1 + 1 + 1 + 1 + 1, o5'), (L + 1 + 1 + 1 + 1 + 1 + 1, o6'), (z, instObj 59 dz), (dz, entDict w.params e1 e2 e3 e4 (.ref a) (.ref r') dv rv), (a, W.listOf us.toArray q1), (r', W.listOf rs'.toArray q2), (L + 1 + 1 + 1 + 1 + 1 + 1 + 1, o7'), (86, tabObj p86), (93, tabObj p93), (192, tabObj p192)]) X' T' hh hd hu F13 hm13 (nPickE N13 [0, 10, 11, 6, 7, 8, 9, 1, 2, 3, 4, 5, 12, 13, 14]) h8 hbs (Nat.le_trans (left_len M wcs sk) (by decide)) hes (by rw [List.length_map]; exact Nat.le_trans M.e40 (by decide)) (fun z hz => by rw [ez_len M z hz]; decide) (by repeat' (first | with_reducible exact all_nil | with_reducible assumption | with_reducible refine all_cons ?_ ?_ | (with_reducible refine neN ?_; with_reducible first | exact ofA1 | exact ofB1 | exact ofA2 | exact ofB2 | exact ofA3 | exact ofB3 | exact ofA4 | exact ofB4 | exact ofA5 | exact ofB5 | exact ofA6 | exact ofB6 | exact ofA7 | exact ofB7 | fail) | exact neN (by lia)))
    fun h14' k14 m14 x dx a' r2 y1 y2 y3 y4 tb us' v1 v2 o8' F14 hm14 N14 d8 hus' => ?_
  clear N13 F13 hm13
  have N14 : News g L h14' ((x, instObj 59 dx) :: (dx, entDict w.params y1 y2 y3 y4 (.ref a') (.ref r2) .none .none) :: (a', W.listOf us'.toArray v1) :: (r2, W.listOf ([] : List Value).toArray v2) :: (L + 1 + 1 + 1 + 1 + 1 + 1 + 1 + 1, o8') :: [(K0, W.listOf ks.toArray 0), (W0, lst ws), (L + 1 + 1 + 1 + 1 + 1, o5'), (L + 1 + 1 + 1 + 1 + 1 + 1, o6'), (z, instObj 59 dz), (dz, entDict w.params e1 e2 e3 e4 (.ref a) (.ref r') dv rv), (a, W.listOf us.toArray q1), (r', W.listOf rs'.toArray q2), (L + 1 + 1 + 1 + 1 + 1 + 1 + 1, o7'), (86, tabObj p86), (93, tabObj p93), (192, tabObj p192)]) := N14
  have N14 : News g L h14' ((L + 1 + 1 + 1 + 1 + 1 + 1 + 1, o7') :: (z, instObj 59 dz) :: (dz, entDict w.params e1 e2 e3 e4 (.ref a) (.ref r') dv rv) :: (a, W.listOf us.toArray q1) :: (r', W.listOf rs'.toArray q2) :: (x, instObj 59 dx) :: (dx, entDict w.params y1 y2 y3 y4 (.ref a') (.ref r2) .none .none) :: (a', W.listOf us'.toArray v1) :: (r2, W.listOf ([] : List Value).toArray v2) :: [(L + 1 + 1 + 1 + 1 + 1 + 1 + 1 + 1, o8'), (K0, W.listOf ks.toArray 0), (W0, lst ws), (L + 1 + 1 + 1 + 1 + 1, o5'), (L + 1 + 1 + 1 + 1 + 1 + 1, o6'), (86, tabObj p86), (93, tabObj p93), (192, tabObj p192)]) := nPickE N14 [13, 9, 10, 11, 12, 0, 1, 2, 3, 4, 5, 6, 7, 8, 14, 15, 16]
  refine lseg16 (s := { s with heap := h14', toks := k14 }) (R := [(L + 1 + 1 + 1 + 1 + 1 + 1 + 1 + 1, o8'), (K0, W.listOf ks.toArray 0), (W0, lst ws), (L + 1 + 1 + 1 + 1 + 1, o5'), (L + 1 + 1 + 1 + 1 + 1 + 1, o6'), (86, tabObj p86), (93, tabObj p93), (192, tabObj p192)]) X' T' hh hd hu F14 hm14 N14 d7 hdv.handed hrv.handed hus hus' (left_len M wcs sk) (left_star M wcs sk)
    fun h15' k15 m15 F15 N15 => ?_
  clear N14 F14 hm14
  have N15 : News g L h15' ((L + 1 + 1 + 1 + 1 + 1 + 1 + 1, o7') :: (z, instObj 59 dz) :: (dz, entDict w.params e1 e2 e3 e4 (.ref a) (.ref r') dv rv) :: (a, W.listOf us.toArray q1) :: (r', W.listOf rs'.toArray q2) :: [(L + 1 + 1 + 1 + 1 + 1 + 1 + 1 + 1, o8'), (K0, W.listOf ks.toArray 0), (W0, lst ws), (L + 1 + 1 + 1 + 1 + 1, o5'), (L + 1 + 1 + 1 + 1 + 1 + 1, o6'), (86, tabObj p86), (93, tabObj p93), (192, tabObj p192)]) := N15
  refine lseg17 (s := { s with heap := h15', toks := k15 }) (R := [(K0, W.listOf ks.toArray 0), (L + 1 + 1 + 1 + 1 + 1 + 1, o6'), (86, tabObj p86), (93, tabObj p93), (192, tabObj p192)]) (sk := sk) (wcs := wcs) X' T' hh hd hu F15 (nPickE N15 [7, 8, 0, 5, 1, 2, 3, 4, 6, 9, 10, 11, 12]) d5 d7 d8 hdv.handed hrv.handed hus (left_len M wcs sk) (fun z hz => az_short M z (left_mem M hz)) hwz hc1 (fun l hl => (hwc l hl).1) (behind_len M)
    (fun p hp => by
      have hm := hwc _ (List.getElem_mem hp)
      have e : wcs.getD p [] = wcs[p] := by rw [List.getD_eq_getElem?_getD, List.getElem?_eq_getElem hp, Option.getD_some]
      rw [e]
      exact first_part (fun c hc => ⟨(hm.2 c hc).1, Nat.le_trans (hm.2 c hc).2 (by decide)⟩) hm.1 _)
    (fun p hp => hears M.l5 M.small hwd M.co M.prod (Nat.le_trans (by decide) hc0) hsk hs1 hp)
    fun h16' k16 m16 H0 F16 hm16 N16 => ?_
  clear N15 F15
  exact lseg18 (s := { s with heap := h16', toks := k16 }) (R := [(86, tabObj p86), (93, tabObj p93), (192, tabObj p192)]) X' T' hh hd hu F16 hm16 (nPickE N16 [0, 1, 2, 3, 4, 5]) d6 hks hc1 fun h' tk m' F17 N17 => hQ h' tk m' p86 p93 p192 F17 (nSub N17 fun p hp => List.mem_cons_of_mem _ (List.mem_cons_of_mem _ hp))
end Mine
end
section
open PySem PySem.W PySem.Calls PyProof.Rows
namespace Mine
theorem hk_of {w : World} {h : Heap} (x : HH.says w h) : (K w.params).In h ∧ h.get? 86 = some (tabObj #[]) ∧ h.get? 93 = some (tabObj #[]) ∧ h.get? 192 = some (tabObj #[]) := by
  have y : Frag.In ((86, o86 w.params) :: (93, o93 w.params) :: (192, o192 w.params) :: K w.params) h := x
  have n86 : 86 ∉ as := by decide
  have n93 : 93 ∉ as := by decide
  have n192 : 192 ∉ as := by decide
  refine ⟨fun a o e => ?_, y 86 _ rfl, y 93 _ rfl, y 192 _ rfl⟩
  have ha : a ∈ as := by
    rw [← K_keys w.params]
    exact List.mem_map_of_mem (f := fun x : Addr × Obj => x.1) (mem_of_lookupK e)
  have d : ∀ (t : Nat) (o' : Obj) (F : Frag), t ∉ as → List.lookup a ((t, o') :: F) = List.lookup a F := fun t o' F ht => by
    rw [List.lookup_cons]
    have : (a == t) = false := beq_eq_false_iff_ne.mpr fun e => ht (e ▸ ha)
    rw [this]
  refine y a o ?_
  rw [d 86 _ _ n86, d 93 _ _ n93, d 192 _ _ n192]
  exact e
theorem law_any {prog : Program} {w : World} {A : Around} {E : Value → Shared → Prop} {s : Shared} {gr : Heap} {mean : ExcName → Option Value} {mg mb : PySem.Str → Option Value} {ls : List Str} {Q : Flow → Shared → Prop} {body : List Stmt} {env : Env} {b1 b2 b3 b4 b5 b6 b7 b8 : Option Value}
   {L f sl : Addr} {cdv : Value} {o1 o2 o3 o4 o5 o6 o7 o8 : Obj} {m : Str → Option Value} {vs : List Value} {ns : List Int}
   {nm : Str} (_hcd : gr.CodeRec cdv nm) (hb : body = b217) (he : env = env217 L f cdv)
   (X : (K w.params).In gr) {tp : Program} (T : Top tp ls mean mg mb gr) (hh : A.handled = none) (hd : A.depth + 100 < recursionLimit) (hu : A.units + 300 < cLine)
   (t86 : gr.get? 86 = some (tabObj #[])) (t93 : gr.get? 93 = some (tabObj #[])) (t192 : gr.get? 192 = some (tabObj #[]))
   (F : Fr gr L s.heap m) (N : News gr L s.heap [(L + 1 + 1 + 1 + 1 + 1 + 1 + 1 + 1, o8), (L + 1 + 1 + 1 + 1 + 1 + 1 + 1, o7), (L + 1 + 1 + 1 + 1 + 1 + 1, o6), (L + 1 + 1 + 1 + 1 + 1, o5), (L + 1 + 1 + 1 + 1, o4), (L + 1 + 1 + 1, o3), (L + 1 + 1, o2), (L + 1, o1)])
   (h1 : o1.data = .cell b1) (h2 : o2.data = .cell b2) (h3 : o3.data = .cell b3) (h4 : o4.data = .cell b4) (h5 : o5.data = .cell b5) (h6 : o6.data = .cell b6) (h7 : o7.data = .cell b7) (h8 : o8.data = .cell b8) (hb1 : b1 = some (.ref sl))
   (hsl : gr.IsList sl vs.toArray) (hvs : IntsAre vs ns) (hns : ns.length ≤ 63)
   (hQ : ∀ (h' : Heap) (tk : Nat) (m' : Str → Option Value) (p86 p93 p192 : Array Value), Fr (gh gr tabs3) L h' m' → News (gh gr tabs3) L h' [(86, tabObj p86), (93, tabObj p93), (192, tabObj p192)] → Q (.ret (.bool true)) { s with heap := h', toks := tk }) :
   wpAny (model prog w) (A.deeper env) (execs body env) Q E s := by
  subst hb he hb1
  exact law_body X T hh hd hu t86 t93 t192 F N h1 h2 h3 h4 h5 h6 h7 h8 hsl hvs hns hQ
theorem grown_tab {P : Params} {gr h' : Heap} {c P0 : Addr} {ps : Array Value} (C : CodeHd gr c P0) (t : gr.get? P0 = some (tabObj #[])) (e : h'.get? P0 = some (tabObj ps)) (o : Obj) (ho : gr.get? P0 = some o) : asItWas gr h' P0 o := by
  rw [t] at ho
  cases ho
  exact .inr (.inl ⟨(C.tab t).isCodeTable, rfl, #[], ps, rfl, by rw [e, Array.empty_append]⟩)
theorem oldK_tabs {P : Params} {gr h' : Heap} {L : Addr} {m' : Str → Option Value} {p86 p93 p192 : Array Value} (X : (K P).In gr) (t86 : gr.get? 86 = some (tabObj #[])) (t93 : gr.get? 93 = some (tabObj #[])) (t192 : gr.get? 192 = some (tabObj #[]))
    (F : Fr (gh gr tabs3) L h' m') (N : News (gh gr tabs3) L h' [(86, tabObj p86), (93, tabObj p93), (192, tabObj p192)]) : OldK gr h' := by
  have c90 : CodeHd gr 90 86 := ⟨o90 P, _, _, _, _, _, _, _, _, X 90 _ (by kernel_rfl), rfl, rfl, rfl, rfl, rfl, rfl, rfl, rfl, by decide⟩
  have c97 : CodeHd gr 97 93 := ⟨o97 P, _, _, _, _, _, _, _, _, X 97 _ (by kernel_rfl), rfl, rfl, rfl, rfl, rfl, rfl, rfl, rfl, by decide⟩
  have c194 : CodeHd gr 194 192 := ⟨o194 P, _, _, _, _, _, _, _, _, X 194 _ (by kernel_rfl), rfl, rfl, rfl, rfl, rfl, rfl, rfl, rfl, by decide⟩
  have e86 := (N (86, tabObj p86) (by simp)).1
  have e93 := (N (93, tabObj p93) (by simp)).1
  have e192 := (N (192, tabObj p192) (by simp)).1
  have keep : ∀ b o, b ≠ 192 → b ≠ 86 → b ≠ 93 → gr.get? b = some o → h'.get? b = some o := fun b o h1 h2 h3 e => F.keep b o (gh_get e fun p hp => by
    rcases List.mem_cons.mp hp with rfl | hp
    · exact Ne.symm h1
    · rcases List.mem_cons.mp hp with rfl | hp
      · exact Ne.symm h2
      · rw [List.mem_singleton.mp hp]; exact Ne.symm h3)
  refine ⟨fun b o e => ?_, fun b o e => ?_⟩
  · by_cases h1 : b = 192
    · subst h1; exact grown_tab (P := P) c194 t192 e192 o e
    · by_cases h2 : b = 86
      · subst h2; exact grown_tab (P := P) c90 t86 e86 o e
      · by_cases h3 : b = 93
        · subst h3; exact grown_tab (P := P) c97 t93 e93 o e
        · exact .inl (keep b o h1 h2 h3 e)
  · by_cases h1 : b = 192
    · subst h1; exact ⟨_, e192⟩
    · by_cases h2 : b = 86
      · subst h2; exact ⟨_, e86⟩
      · by_cases h3 : b = 93
        · subst h3; exact ⟨_, e93⟩
        · exact ⟨o, keep b o h1 h2 h3 e⟩
set_option maxHeartbeats 8000000 in
theorem rw_wy0048_01_holds : PySem.Challenge.rw_wy0048_01.Holds := by
  w_on
  refine holds_law law_said fun said => ?_
  refine holds_open (q := q) (loose := loose) (Xt := Xt0) (XP := XL q []) (Yf := HH.obs) (Ya := HH.val) (YP := HH.says) (N := NN) left0 HH.of HH.keeps (fun s e => xl_of s (Bool.and_eq_true_iff.mp e).1) XL.keeps (by rfl) (by rfl) (by rfl) (fun s e => recFacts_of (Bool.and_eq_true_iff.mp e).2) (by rfl) (by assumption) (by decide +kernel) ⟨rfl, rfl, rfl, rfl, rfl, by decide +kernel⟩ ?hw ?hc
  case hw => w_witness2
  case hc =>
    k_fill
    intro w s₀ s₁ mg mb G Y fa o pm cd doc dV kV ho hd hcd hD hmg hg args vals as' hpre hlay hrd hwl hlo
    obtain ⟨KX, t86, t93, t192⟩ := hk_of Y
    clear Y
    have X := (Ground.X G).1
    have V := (Ground.X G).2
    refine Ground.open G ?_
    intro T B D TE TW
    try (refine guard_noD D (by decide +kernel) ?_; clear D)
    obtain ⟨_, _, M⟩ := bmod_of_top T
    have TA := at_of_top T
    try (obtain ⟨_, _, he, B0⟩ := based_of_top T rfl hmg ho hd; have he' : cd = _ := he; subst he'; clear he)
    clear hmg
    wrow_args hpre hlay hrd hwl hlo
    first | refine callC_kw (enter_call ?_) | refine enter_call ?_
    w_top on
    have K0 := below_caller (Top.heap T)
    w_call any ho hd hcd hD T F
    clear hd TA
    k_drop
    rename Top _ _ _ _ _ _ => TT
    rename News _ _ _ _ => NN1
    rename Fr _ _ _ _ => FF
    rename IntsAre _ _ => II
    rename Heap.IsList _ _ _ => LL
    rename ¬ _ < _ => HC
    rename_i c8 c7 c6 c5 c4 c3 c2 c1 d8 d7 d6 d5 d4 d3 d2 d1 X0
    refine law_any (L := s₁.heap.objs.size) (f := fa) hcd ?hb ?he KX TT ?hh ?hd ?hu t86 t93 t192 FF NN1 d1 d2 d3 d4 d5 d6 d7 d8 ?hb1 LL II ?hns ?hQ
    case hb => kernel_rfl
    case he => kernel_rfl
    case hh => rfl
    case hd => decide
    case hu => decide
    case hb1 => kernel_rfl
    case hns => lia
    case hQ =>
      intro h' tk m' p86 p93 p192 F9 N9
      refine ⟨.inl ⟨.bool true, .bool true, [], rfl, ?_, .bool true, ?_, unshared_nil⟩, oldK_tabs KX t86 t93 t192 F9 N9, rfl, .of_eq hg⟩
      · exact fun _ => rfl
      · kernel_rfl
end Mine
end
theorem PySem.Challenge.cw_wy0048_01_holds : PySem.Challenge.rw_wy0048_01.Holds :=
  Mine.rw_wy0048_01_holds
