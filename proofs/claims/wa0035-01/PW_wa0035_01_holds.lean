import PyProof.Rows.All
import PyProof.GenRules
import PyProof.GenObj
import Wide.All
import OpenK.AllK
import Wide.FinOn
import PySem.Challenge.RW_wa0035_01
set_option Elab.async false
set_option maxRecDepth 100000
set_option maxHeartbeats 4000000
set_option linter.unusedSimpArgs false
set_option linter.unusedVariables false
section
open PySem PySem.W PySem.Calls PySem.Spec PyProof.Rows
namespace Mine
noncomputable abbrev PW : Program := PySem.Challenge.rw_wa0035_01.row.prog
noncomputable def viewQ : Program := view PySem.Challenge.pw_wa0035_01 [1, 3, 4, 5, 8, 10, 12, 13, 14, 15]
/-- the def at the text's row i, as the top lays it -/
noncomputable def fdOf (i : Nat) (pm cd : Value) : FuncData := match (PySem.Challenge.pw_wa0035_01.main.body[i]? : Option Stmt) with
  | some (Stmt.FunctionDef n args body _ _ _ scope _ _ _) => FuncData.mk n n args (FuncBody.stmts body) scope 3 [] Value.none Value.none Value.none pm none cd Value.none 0
  | _ => default
/-- the pairs of the folding table as the text writes them -/
noncomputable def b3Of : List (Option Expr) → List Expr → List (Int × Str)
  | some (.Constant (.int k) _ _) :: ks, .Constant (.str v) _ _ :: vs => (k, v) :: b3Of ks vs
  | _, _ => []
noncomputable def b3Pairs : List (Int × Str) := match (PySem.Challenge.pw_wa0035_01.main.body[9]? : Option Stmt) with
  | some (Stmt.Assign _ (Expr.Dict ks vs _) _) => b3Of ks vs
  | _ => []
noncomputable def b3Ents (d : Nat) : List (Int × Str) → Nat → List DictEntry
  | [], _ => []
  | p :: r, t => ⟨p.1, .int p.1 t, .str p.2 (t + 1)⟩ :: b3Ents d r (t + d)
noncomputable def b3Arr : Array DictEntry := (b3Ents 3 (b3Pairs.take 646) 300 ++ b3Ents 2 (b3Pairs.drop 646) 2238).toArray
/-- what the top leaves: the objects that the call reads -/
noncomputable def KF : Params → Frag := fun P =>
  (nat_lit 2, Obj.mk Value.none none (Data.dict #[]) #[]) ::
  (nat_lit 3, Obj.mk (Value.type "dict") none (Data.dict #[DictEntry.mk (PyData.keyHash P (Str.ofString "__name__")) (Value.str (Str.ofString "__name__") 165) (Value.str (Str.ofString "law_wa0035_01") 2259), DictEntry.mk (PyData.keyHash P (Str.ofString "__doc__")) (Value.str (Str.ofString "__doc__") 166) Value.none, DictEntry.mk (PyData.keyHash P (Str.ofString "__package__")) (Value.str (Str.ofString "__package__") 167) Value.none, DictEntry.mk (PyData.keyHash P (Str.ofString "__loader__")) (Value.str (Str.ofString "__loader__") 168) (Value.builtin "__main__.__loader__#opaque"), DictEntry.mk (PyData.keyHash P (Str.ofString "__spec__")) (Value.str (Str.ofString "__spec__") 169) Value.none, DictEntry.mk (PyData.keyHash P (Str.ofString "__annotations__")) (Value.str (Str.ofString "__annotations__") 170) (Value.ref 6), DictEntry.mk (PyData.keyHash P (Str.ofString "__builtins__")) (Value.str (Str.ofString "__builtins__") 171) (Value.ref 4), DictEntry.mk (PyData.keyHash P (Str.ofString "__file__")) (Value.str (Str.ofString "__file__") 173) (Value.str (Str.ofString "/claim/cut.py") 172), DictEntry.mk (PyData.keyHash P (Str.ofString "__cached__")) (Value.str (Str.ofString "__cached__") 174) Value.none, DictEntry.mk (PyData.keyHash P (Str.ofString "_strcoll")) (Value.str (Str.ofString "_strcoll") 196) (Value.ref 21), DictEntry.mk (PyData.keyHash P (Str.ofString "_iter_escaped_chars")) (Value.str (Str.ofString "_iter_escaped_chars") 208) (Value.ref 28), DictEntry.mk (PyData.keyHash P (Str.ofString "_strip_quoted_realnames")) (Value.str (Str.ofString "_strip_quoted_realnames") 220) (Value.ref 35), DictEntry.mk (PyData.keyHash P (Str.ofString "_check_parenthesis")) (Value.str (Str.ofString "_check_parenthesis") 230) (Value.ref 42), DictEntry.mk (PyData.keyHash P (Str.ofString "b1_set")) (Value.str (Str.ofString "b1_set") 292) (Value.ref 50), DictEntry.mk (PyData.keyHash P (Str.ofString "in_table_b1")) (Value.str (Str.ofString "in_table_b1") 299) (Value.ref 60), DictEntry.mk (PyData.keyHash P (Str.ofString "b3_exceptions")) (Value.str (Str.ofString "b3_exceptions") 2250) (Value.ref 61), DictEntry.mk (PyData.keyHash P (Str.ofString "map_table_b3")) (Value.str (Str.ofString "map_table_b3") 2258) (Value.ref 106), DictEntry.mk (PyData.keyHash P (Str.ofString "_law_bracket")) (Value.str (Str.ofString "_law_bracket") 2269) (Value.ref 113), DictEntry.mk (PyData.keyHash P (Str.ofString "_law_duel")) (Value.str (Str.ofString "_law_duel") 2278) (Value.ref 120), DictEntry.mk (PyData.keyHash P (Str.ofString "_law_play")) (Value.str (Str.ofString "_law_play") 2284) (Value.ref 125), DictEntry.mk (PyData.keyHash P (Str.ofString "law")) (Value.str (Str.ofString "law") 2290) (Value.ref 130)] 21) #[]) ::
  (nat_lit 6, Obj.mk (Value.type "dict") none (Data.dict #[]) #[]) ::
  (nat_lit 15, Obj.mk (Value.type "tuple") none (Data.seq #[]) #[]) ::
  (nat_lit 17, Obj.mk (Value.type "tuple") none (Data.seq #[Value.str (Str.ofString "a") 192, Value.str (Str.ofString "b") 193]) #[]) ::
  (nat_lit 18, Obj.mk (Value.type "tuple") none (Data.seq #[]) #[]) ::
  (nat_lit 20, Obj.mk (Value.type "code") none (Data.fields #[Value.str (Str.ofString "_strcoll") 189, Value.str (Str.ofString "_strcoll") 190, Value.str (Str.ofString "/claim/cut.py") 191, Value.int 2 0, Value.int 2 0, Value.int 0 0, Value.int 0 0, Value.int 3 0, Value.ref 15, Value.bool true, Value.int 181 0, Value.ref 16, Value.none, Value.ref 17, Value.ref 18, Value.ref 19, Value.int 194 0, Value.int 2 0, Value.str (Str.ofString "/claim/cut.py") 195]) #[]) ::
  (nat_lit 21, Obj.mk (Value.type "function") none (Data.func (fdOf 1 (Value.str (Str.ofString "cpy313.locale") 187) (Value.ref 20))) #[]) ::
  (nat_lit 22, Obj.mk (Value.type "tuple") none (Data.seq #[]) #[]) ::
  (nat_lit 24, Obj.mk (Value.type "tuple") none (Data.seq #[Value.str (Str.ofString "addr") 202, Value.str (Str.ofString "pos") 203, Value.str (Str.ofString "escape") 204, Value.str (Str.ofString "ch") 205]) #[]) ::
  (nat_lit 25, Obj.mk (Value.type "tuple") none (Data.seq #[]) #[]) ::
  (nat_lit 27, Obj.mk (Value.type "code") none (Data.fields #[Value.str (Str.ofString "_iter_escaped_chars") 199, Value.str (Str.ofString "_iter_escaped_chars") 200, Value.str (Str.ofString "/claim/cut.py") 201, Value.int 5 0, Value.int 1 0, Value.int 0 0, Value.int 0 0, Value.int 35 0, Value.ref 22, Value.bool true, Value.int 181 0, Value.ref 23, Value.none, Value.ref 24, Value.ref 25, Value.ref 26, Value.int 206 0, Value.int 5 0, Value.str (Str.ofString "/claim/cut.py") 207]) #[]) ::
  (nat_lit 28, Obj.mk (Value.type "function") none (Data.func (fdOf 3 (Value.str (Str.ofString "cpy313.email.utils") 197) (Value.ref 27))) #[]) ::
  (nat_lit 29, Obj.mk (Value.type "tuple") none (Data.seq #[]) #[]) ::
  (nat_lit 31, Obj.mk (Value.type "tuple") none (Data.seq #[Value.str (Str.ofString "addr") 212, Value.str (Str.ofString "start") 213, Value.str (Str.ofString "open_pos") 214, Value.str (Str.ofString "result") 215, Value.str (Str.ofString "pos") 216, Value.str (Str.ofString "ch") 217]) #[]) ::
  (nat_lit 32, Obj.mk (Value.type "tuple") none (Data.seq #[]) #[]) ::
  (nat_lit 34, Obj.mk (Value.type "code") none (Data.fields #[Value.str (Str.ofString "_strip_quoted_realnames") 209, Value.str (Str.ofString "_strip_quoted_realnames") 210, Value.str (Str.ofString "/claim/cut.py") 211, Value.int 18 0, Value.int 1 0, Value.int 0 0, Value.int 0 0, Value.int 3 0, Value.ref 29, Value.bool true, Value.int 181 0, Value.ref 30, Value.none, Value.ref 31, Value.ref 32, Value.ref 33, Value.int 218 0, Value.int 18 0, Value.str (Str.ofString "/claim/cut.py") 219]) #[]) ::
  (nat_lit 35, Obj.mk (Value.type "function") none (Data.func (fdOf 4 (Value.str (Str.ofString "cpy313.email.utils") 197) (Value.ref 34))) #[]) ::
  (nat_lit 36, Obj.mk (Value.type "tuple") none (Data.seq #[]) #[]) ::
  (nat_lit 38, Obj.mk (Value.type "tuple") none (Data.seq #[Value.str (Str.ofString "addr") 224, Value.str (Str.ofString "opens") 225, Value.str (Str.ofString "pos") 226, Value.str (Str.ofString "ch") 227]) #[]) ::
  (nat_lit 39, Obj.mk (Value.type "tuple") none (Data.seq #[]) #[]) ::
  (nat_lit 41, Obj.mk (Value.type "code") none (Data.fields #[Value.str (Str.ofString "_check_parenthesis") 221, Value.str (Str.ofString "_check_parenthesis") 222, Value.str (Str.ofString "/claim/cut.py") 223, Value.int 36 0, Value.int 1 0, Value.int 0 0, Value.int 0 0, Value.int 3 0, Value.ref 36, Value.bool true, Value.int 181 0, Value.ref 37, Value.none, Value.ref 38, Value.ref 39, Value.ref 40, Value.int 228 0, Value.int 36 0, Value.str (Str.ofString "/claim/cut.py") 229]) #[]) ::
  (nat_lit 42, Obj.mk (Value.type "function") none (Data.func (fdOf 5 (Value.str (Str.ofString "cpy313.email.utils") 197) (Value.ref 41))) #[]) ::
  (nat_lit 50, Obj.mk (Value.type "set") none (Data.set #[(65024, Value.int 65024 249), (65025, Value.int 65025 250), (65026, Value.int 65026 251), (65027, Value.int 65027 252), (65028, Value.int 65028 253), (65029, Value.int 65029 254), (6150, Value.int 6150 235), (65030, Value.int 65030 255), (65031, Value.int 65031 256), (65032, Value.int 65032 257), (65033, Value.int 65033 258), (6155, Value.int 6155 236), (6156, Value.int 6156 237), (6157, Value.int 6157 238), (8203, Value.int 8203 239), (8204, Value.int 8204 240), (8205, Value.int 8205 241), (65034, Value.int 65034 259), (65035, Value.int 65035 260), (65036, Value.int 65036 261), (65037, Value.int 65037 262), (65038, Value.int 65038 263), (65039, Value.int 65039 264), (173, Value.int 173 233), (847, Value.int 847 234), (8288, Value.int 8288 242), (65279, Value.int 65279 243)] 29 (SetTable.mk 127 #[0, 1, 2, 3, 4, 5, 6, 7, 8, 9, 10, 11, 12, 13, 14, 15, 16, 17, 18, 19, 20, 21, 22, 45, 79, 96, 127] #[] 0 (!Params.followText P "set-order") 2 true)) #[]) ::
  (nat_lit 54, Obj.mk (Value.type "tuple") none (Data.seq #[]) #[]) ::
  (nat_lit 56, Obj.mk (Value.type "tuple") none (Data.seq #[Value.str (Str.ofString "code") 296]) #[]) ::
  (nat_lit 57, Obj.mk (Value.type "tuple") none (Data.seq #[]) #[]) ::
  (nat_lit 59, Obj.mk (Value.type "code") none (Data.fields #[Value.str (Str.ofString "in_table_b1") 293, Value.str (Str.ofString "in_table_b1") 294, Value.str (Str.ofString "/claim/cut.py") 295, Value.int 49 0, Value.int 1 0, Value.int 0 0, Value.int 0 0, Value.int 3 0, Value.ref 54, Value.bool true, Value.int 181 0, Value.ref 55, Value.none, Value.ref 56, Value.ref 57, Value.ref 58, Value.int 297 0, Value.int 49 0, Value.str (Str.ofString "/claim/cut.py") 298]) #[]) ::
  (nat_lit 60, Obj.mk (Value.type "function") none (Data.func (fdOf 8 (Value.str (Str.ofString "cpy313.stringprep") 231) (Value.ref 59))) #[]) ::
  (nat_lit 61, Obj.mk (Value.type "dict") none (Data.dict b3Arr 650) #[]) ::
  (nat_lit 100, Obj.mk (Value.type "tuple") none (Data.seq #[]) #[]) ::
  (nat_lit 102, Obj.mk (Value.type "tuple") none (Data.seq #[Value.str (Str.ofString "code") 2254, Value.str (Str.ofString "r") 2255]) #[]) ::
  (nat_lit 103, Obj.mk (Value.type "tuple") none (Data.seq #[]) #[]) ::
  (nat_lit 105, Obj.mk (Value.type "code") none (Data.fields #[Value.str (Str.ofString "map_table_b3") 2251, Value.str (Str.ofString "map_table_b3") 2252, Value.str (Str.ofString "/claim/cut.py") 2253, Value.int 52 0, Value.int 1 0, Value.int 0 0, Value.int 0 0, Value.int 3 0, Value.ref 100, Value.bool true, Value.int 181 0, Value.ref 101, Value.none, Value.ref 102, Value.ref 103, Value.ref 104, Value.int 2256 0, Value.int 52 0, Value.str (Str.ofString "/claim/cut.py") 2257]) #[]) ::
  (nat_lit 106, Obj.mk (Value.type "function") none (Data.func (fdOf 10 (Value.str (Str.ofString "cpy313.stringprep") 231) (Value.ref 105))) #[]) ::
  (nat_lit 107, Obj.mk (Value.type "tuple") none (Data.seq #[]) #[]) ::
  (nat_lit 109, Obj.mk (Value.type "tuple") none (Data.seq #[Value.str (Str.ofString "names") 2264, Value.str (Str.ofString "w") 2265, Value.str (Str.ofString "cut") 2266]) #[]) ::
  (nat_lit 110, Obj.mk (Value.type "tuple") none (Data.seq #[]) #[]) ::
  (nat_lit 112, Obj.mk (Value.type "code") none (Data.fields #[Value.str (Str.ofString "_law_bracket") 2261, Value.str (Str.ofString "_law_bracket") 2262, Value.str (Str.ofString "/claim/cut.py") 2263, Value.int 58 0, Value.int 2 0, Value.int 0 0, Value.int 0 0, Value.int 3 0, Value.ref 107, Value.bool true, Value.int 181 0, Value.ref 108, Value.none, Value.ref 109, Value.ref 110, Value.ref 111, Value.int 2267 0, Value.int 58 0, Value.str (Str.ofString "/claim/cut.py") 2268]) #[]) ::
  (nat_lit 113, Obj.mk (Value.type "function") none (Data.func (fdOf 12 (Value.str (Str.ofString "law_wa0035_01") 2259) (Value.ref 112))) #[]) ::
  (nat_lit 114, Obj.mk (Value.type "tuple") none (Data.seq #[]) #[]) ::
  (nat_lit 116, Obj.mk (Value.type "tuple") none (Data.seq #[Value.str (Str.ofString "one") 2273, Value.str (Str.ofString "other") 2274, Value.str (Str.ofString "duels") 2275]) #[]) ::
  (nat_lit 117, Obj.mk (Value.type "tuple") none (Data.seq #[]) #[]) ::
  (nat_lit 119, Obj.mk (Value.type "code") none (Data.fields #[Value.str (Str.ofString "_law_duel") 2270, Value.str (Str.ofString "_law_duel") 2271, Value.str (Str.ofString "/claim/cut.py") 2272, Value.int 63 0, Value.int 3 0, Value.int 0 0, Value.int 0 0, Value.int 3 0, Value.ref 114, Value.bool true, Value.int 181 0, Value.ref 115, Value.none, Value.ref 116, Value.ref 117, Value.ref 118, Value.int 2276 0, Value.int 63 0, Value.str (Str.ofString "/claim/cut.py") 2277]) #[]) ::
  (nat_lit 120, Obj.mk (Value.type "function") none (Data.func (fdOf 13 (Value.str (Str.ofString "law_wa0035_01") 2259) (Value.ref 119))) #[]) ::
  (nat_lit 121, Obj.mk (Value.type "tuple") none (Data.seq #[]) #[]) ::
  (nat_lit 124, Obj.mk (Value.type "code") none (Data.fields #[Value.str (Str.ofString "_law_play") 2279, Value.str (Str.ofString "_law_play") 2280, Value.str (Str.ofString "/claim/cut.py") 2281, Value.int 68 0, Value.int 2 0, Value.int 0 0, Value.int 0 0, Value.int 3 0, Value.ref 121, Value.bool true, Value.int 181 0, Value.ref 122, Value.none, Value.none, Value.none, Value.ref 123, Value.int 2282 0, Value.int 68 0, Value.str (Str.ofString "/claim/cut.py") 2283]) #[]) ::
  (nat_lit 125, Obj.mk (Value.type "function") none (Data.func (fdOf 14 (Value.str (Str.ofString "law_wa0035_01") 2259) (Value.ref 124))) #[]) ::
  (nat_lit 126, Obj.mk (Value.type "tuple") none (Data.seq #[]) #[]) ::
  (nat_lit 129, Obj.mk (Value.type "code") none (Data.fields #[Value.str (Str.ofString "law") 2285, Value.str (Str.ofString "law") 2286, Value.str (Str.ofString "/claim/cut.py") 2287, Value.int 77 0, Value.int 1 0, Value.int 0 0, Value.int 0 0, Value.int 3 0, Value.ref 126, Value.bool true, Value.int 181 0, Value.ref 127, Value.none, Value.none, Value.none, Value.ref 128, Value.int 2288 0, Value.int 77 0, Value.str (Str.ofString "/claim/cut.py") 2289]) #[]) ::
  (nat_lit 130, Obj.mk (Value.type "function") none (Data.func (fdOf 15 (Value.str (Str.ofString "law_wa0035_01") 2259) (Value.ref 129))) #[]) :: []

end Mine
end
section
open PySem PySem.W PySem.Calls PySem.Spec PyProof.Rows
namespace Mine
-- the head: the objects that the top makes, its states behind each statement
/-- the pattern of the def at the text's row i -/
noncomputable def fdPat (i : Nat) : FuncData := match (PySem.Challenge.pw_wa0035_01.main.body[i]? : Option Stmt) with
  | some (Stmt.FunctionDef n args body _ _ _ scope _ _ _) => FuncData.mk n n args (FuncBody.stmts body) scope 0 [] Value.none Value.none Value.none Value.none none Value.none Value.none 0
  | _ => default
noncomputable def fnPat (i : Nat) : Obj := Obj.mk Value.none none (Data.func (fdPat i)) #[]
noncomputable def fnOb (i : Nat) (m : String) (t : Tok) (c : Nat) : Obj := Obj.mk (Value.type "function") none (Data.func (fdOf i (Value.str (Str.ofString m) t) (Value.ref c))) #[]
noncomputable def tup0 : Obj := Obj.mk (Value.type "tuple") none (Data.seq #[]) #[]
noncomputable def fld0 : Obj := Obj.mk Value.none none (Data.fields #[]) #[]
noncomputable def glE (P : Params) (k : String) (t : Tok) (v : Value) : DictEntry := DictEntry.mk (PyData.keyHash P (Str.ofString k)) (Value.str (Str.ofString k) t) v
noncomputable def glBase (P : Params) (nm : Value) : List DictEntry := [glE P "__name__" 165 nm, glE P "__doc__" 166 Value.none, glE P "__package__" 167 Value.none, glE P "__loader__" 168 (Value.builtin "__main__.__loader__#opaque"), glE P "__spec__" 169 Value.none, glE P "__annotations__" 170 (Value.ref 6), glE P "__builtins__" 171 (Value.ref 4), glE P "__file__" 173 (Value.str (Str.ofString "/claim/cut.py") 172), glE P "__cached__" 174 Value.none]
noncomputable def glOb (P : Params) (nm : String) (t : Tok) (ex : List DictEntry) (n : Nat) : Obj := Obj.mk (Value.type "dict") none (Data.dict (glBase P (Value.str (Str.ofString nm) t) ++ ex).toArray n) #[]
noncomputable def stOb (l : List (Nat × Nat)) : Obj := Obj.mk Value.none none (Data.fields (l.flatMap fun p => [Value.int p.1 0, Value.int 0 0, Value.ref p.2]).toArray) #[]
/-- a dict without more -/
noncomputable abbrev dOb (es : List DictEntry) (n : Nat) : Obj := Obj.mk (.type "dict") none (.dict es.toArray n) #[]
/-- the dicts of the display's parts -/
noncomputable def subsOf : Nat → List (Int × Str) → Nat → List Obj
  | 0, _, _ => []
  | k + 1, l, t => dOb (b3Ents 3 (l.take 17) t) 17 :: subsOf k (l.drop 17) (t + 51)
noncomputable def subsAll : List Obj := subsOf 37 (b3Pairs.drop 17) 351 ++ [dOb (b3Ents 2 (b3Pairs.drop 646) 2238) 4]
noncomputable def mkT (l : List Obj) : BT := (l.foldl (fun (p : BT × Nat) o => (p.1.ins p.2 o, p.2 + 1)) (BT.nil, 0)).1

noncomputable def ob13 : Obj := Obj.mk (Value.type "code") none (Data.fields #[Value.str (Str.ofString "<module>") 182, Value.str (Str.ofString "<module>") 183, Value.str (Str.ofString "/claim/cut.py") 184, Value.int 1 0, Value.int 0 0, Value.int 0 0, Value.int 0 0, Value.int 0 0, Value.ref 11, Value.bool false, Value.int 181 0, Value.ref 12, Value.none, Value.none, Value.none, Value.none, Value.int 185 0, Value.int 1 0, Value.str (Str.ofString "/claim/cut.py") 186]) #[]
noncomputable def ob14 : Obj := Obj.mk (Value.type "frame") none Data.plain #[some (Value.ref 13), some (Value.ref 3), some (Value.ref 3), none, some (Value.str (Str.ofString "__main__") 164), none, some (Value.ref 0)]
noncomputable def ob17 : Obj := Obj.mk (Value.type "tuple") none (Data.seq #[Value.str (Str.ofString "a") 192, Value.str (Str.ofString "b") 193]) #[]
noncomputable def ob20 : Obj := Obj.mk (Value.type "code") none (Data.fields #[Value.str (Str.ofString "_strcoll") 189, Value.str (Str.ofString "_strcoll") 190, Value.str (Str.ofString "/claim/cut.py") 191, Value.int 2 0, Value.int 2 0, Value.int 0 0, Value.int 0 0, Value.int 3 0, Value.ref 15, Value.bool true, Value.int 181 0, Value.ref 16, Value.none, Value.ref 17, Value.ref 18, Value.ref 19, Value.int 194 0, Value.int 2 0, Value.str (Str.ofString "/claim/cut.py") 195]) #[]
noncomputable def ob24 : Obj := Obj.mk (Value.type "tuple") none (Data.seq #[Value.str (Str.ofString "addr") 202, Value.str (Str.ofString "pos") 203, Value.str (Str.ofString "escape") 204, Value.str (Str.ofString "ch") 205]) #[]
noncomputable def ob27 : Obj := Obj.mk (Value.type "code") none (Data.fields #[Value.str (Str.ofString "_iter_escaped_chars") 199, Value.str (Str.ofString "_iter_escaped_chars") 200, Value.str (Str.ofString "/claim/cut.py") 201, Value.int 5 0, Value.int 1 0, Value.int 0 0, Value.int 0 0, Value.int 35 0, Value.ref 22, Value.bool true, Value.int 181 0, Value.ref 23, Value.none, Value.ref 24, Value.ref 25, Value.ref 26, Value.int 206 0, Value.int 5 0, Value.str (Str.ofString "/claim/cut.py") 207]) #[]
noncomputable def ob31 : Obj := Obj.mk (Value.type "tuple") none (Data.seq #[Value.str (Str.ofString "addr") 212, Value.str (Str.ofString "start") 213, Value.str (Str.ofString "open_pos") 214, Value.str (Str.ofString "result") 215, Value.str (Str.ofString "pos") 216, Value.str (Str.ofString "ch") 217]) #[]
noncomputable def ob34 : Obj := Obj.mk (Value.type "code") none (Data.fields #[Value.str (Str.ofString "_strip_quoted_realnames") 209, Value.str (Str.ofString "_strip_quoted_realnames") 210, Value.str (Str.ofString "/claim/cut.py") 211, Value.int 18 0, Value.int 1 0, Value.int 0 0, Value.int 0 0, Value.int 3 0, Value.ref 29, Value.bool true, Value.int 181 0, Value.ref 30, Value.none, Value.ref 31, Value.ref 32, Value.ref 33, Value.int 218 0, Value.int 18 0, Value.str (Str.ofString "/claim/cut.py") 219]) #[]
noncomputable def ob38 : Obj := Obj.mk (Value.type "tuple") none (Data.seq #[Value.str (Str.ofString "addr") 224, Value.str (Str.ofString "opens") 225, Value.str (Str.ofString "pos") 226, Value.str (Str.ofString "ch") 227]) #[]
noncomputable def ob41 : Obj := Obj.mk (Value.type "code") none (Data.fields #[Value.str (Str.ofString "_check_parenthesis") 221, Value.str (Str.ofString "_check_parenthesis") 222, Value.str (Str.ofString "/claim/cut.py") 223, Value.int 36 0, Value.int 1 0, Value.int 0 0, Value.int 0 0, Value.int 3 0, Value.ref 36, Value.bool true, Value.int 181 0, Value.ref 37, Value.none, Value.ref 38, Value.ref 39, Value.ref 40, Value.int 228 0, Value.int 36 0, Value.str (Str.ofString "/claim/cut.py") 229]) #[]
noncomputable def ob43 : Obj := Obj.mk (Value.type "list") none (Data.seq #[Value.int 173 233, Value.int 847 234, Value.int 6150 235, Value.int 6155 236, Value.int 6156 237, Value.int 6157 238, Value.int 8203 239, Value.int 8204 240, Value.int 8205 241, Value.int 8288 242, Value.int 65279 243]) #[]
noncomputable def ob44 : Obj := Obj.mk (Value.type "range") none (Data.fields #[Value.int 65024 244, Value.int 65040 245, Value.int 1 246]) #[]
noncomputable def ob45 : Obj := Obj.mk (Value.type "list") none (Data.seq #[Value.int 65024 249, Value.int 65025 250, Value.int 65026 251, Value.int 65027 252, Value.int 65028 253, Value.int 65029 254, Value.int 65030 255, Value.int 65031 256, Value.int 65032 257, Value.int 65033 258, Value.int 65034 259, Value.int 65035 260, Value.int 65036 261, Value.int 65037 262, Value.int 65038 263, Value.int 65039 264] 18) #[]
noncomputable def ob46 : Obj := Obj.mk (Value.type "range_iterator") none (Data.fields #[Value.int 65040 0, Value.int 0 0, Value.int 1 0]) #[]
noncomputable def ob48 : Obj := Obj.mk (Value.type "StopIteration") none (Data.fields #[Value.ref 47, Value.none, Value.none, Value.none, Value.bool false, Value.none]) #[]
noncomputable def ob49 : Obj := Obj.mk (Value.type "list") none (Data.seq #[Value.int 173 233, Value.int 847 234, Value.int 6150 235, Value.int 6155 236, Value.int 6156 237, Value.int 6157 238, Value.int 8203 239, Value.int 8204 240, Value.int 8205 241, Value.int 8288 242, Value.int 65279 243, Value.int 65024 249, Value.int 65025 250, Value.int 65026 251, Value.int 65027 252, Value.int 65028 253, Value.int 65029 254, Value.int 65030 255, Value.int 65031 256, Value.int 65032 257, Value.int 65033 258, Value.int 65034 259, Value.int 65035 260, Value.int 65036 261, Value.int 65037 262, Value.int 65038 263, Value.int 65039 264]) #[]
noncomputable def ob50 (P : Params) : Obj := Obj.mk (Value.type "set") none (Data.set #[(65024, Value.int 65024 249), (65025, Value.int 65025 250), (65026, Value.int 65026 251), (65027, Value.int 65027 252), (65028, Value.int 65028 253), (65029, Value.int 65029 254), (6150, Value.int 6150 235), (65030, Value.int 65030 255), (65031, Value.int 65031 256), (65032, Value.int 65032 257), (65033, Value.int 65033 258), (6155, Value.int 6155 236), (6156, Value.int 6156 237), (6157, Value.int 6157 238), (8203, Value.int 8203 239), (8204, Value.int 8204 240), (8205, Value.int 8205 241), (65034, Value.int 65034 259), (65035, Value.int 65035 260), (65036, Value.int 65036 261), (65037, Value.int 65037 262), (65038, Value.int 65038 263), (65039, Value.int 65039 264), (173, Value.int 173 233), (847, Value.int 847 234), (8288, Value.int 8288 242), (65279, Value.int 65279 243)] 29 (SetTable.mk 127 #[0, 1, 2, 3, 4, 5, 6, 7, 8, 9, 10, 11, 12, 13, 14, 15, 16, 17, 18, 19, 20, 21, 22, 45, 79, 96, 127] #[] 0 (!Params.followText P "set-order") 2 true)) #[]
noncomputable def ob51 : Obj := Obj.mk (Value.type "list_iterator") none (Data.fields #[Value.none, Value.int 27 0]) #[]
noncomputable def ob53 : Obj := Obj.mk (Value.type "StopIteration") none (Data.fields #[Value.ref 52, Value.none, Value.none, Value.none, Value.bool false, Value.none]) #[]
noncomputable def ob56 : Obj := Obj.mk (Value.type "tuple") none (Data.seq #[Value.str (Str.ofString "code") 296]) #[]
noncomputable def ob59 : Obj := Obj.mk (Value.type "code") none (Data.fields #[Value.str (Str.ofString "in_table_b1") 293, Value.str (Str.ofString "in_table_b1") 294, Value.str (Str.ofString "/claim/cut.py") 295, Value.int 49 0, Value.int 1 0, Value.int 0 0, Value.int 0 0, Value.int 3 0, Value.ref 54, Value.bool true, Value.int 181 0, Value.ref 55, Value.none, Value.ref 56, Value.ref 57, Value.ref 58, Value.int 297 0, Value.int 49 0, Value.str (Str.ofString "/claim/cut.py") 298]) #[]
noncomputable def b3Ob : Obj := Obj.mk (Value.type "dict") none (Data.dict b3Arr 650) #[]
noncomputable def ob102 : Obj := Obj.mk (Value.type "tuple") none (Data.seq #[Value.str (Str.ofString "code") 2254, Value.str (Str.ofString "r") 2255]) #[]
noncomputable def ob105 : Obj := Obj.mk (Value.type "code") none (Data.fields #[Value.str (Str.ofString "map_table_b3") 2251, Value.str (Str.ofString "map_table_b3") 2252, Value.str (Str.ofString "/claim/cut.py") 2253, Value.int 52 0, Value.int 1 0, Value.int 0 0, Value.int 0 0, Value.int 3 0, Value.ref 100, Value.bool true, Value.int 181 0, Value.ref 101, Value.none, Value.ref 102, Value.ref 103, Value.ref 104, Value.int 2256 0, Value.int 52 0, Value.str (Str.ofString "/claim/cut.py") 2257]) #[]
noncomputable def ob109 : Obj := Obj.mk (Value.type "tuple") none (Data.seq #[Value.str (Str.ofString "names") 2264, Value.str (Str.ofString "w") 2265, Value.str (Str.ofString "cut") 2266]) #[]
noncomputable def ob112 : Obj := Obj.mk (Value.type "code") none (Data.fields #[Value.str (Str.ofString "_law_bracket") 2261, Value.str (Str.ofString "_law_bracket") 2262, Value.str (Str.ofString "/claim/cut.py") 2263, Value.int 58 0, Value.int 2 0, Value.int 0 0, Value.int 0 0, Value.int 3 0, Value.ref 107, Value.bool true, Value.int 181 0, Value.ref 108, Value.none, Value.ref 109, Value.ref 110, Value.ref 111, Value.int 2267 0, Value.int 58 0, Value.str (Str.ofString "/claim/cut.py") 2268]) #[]
noncomputable def ob116 : Obj := Obj.mk (Value.type "tuple") none (Data.seq #[Value.str (Str.ofString "one") 2273, Value.str (Str.ofString "other") 2274, Value.str (Str.ofString "duels") 2275]) #[]
noncomputable def ob119 : Obj := Obj.mk (Value.type "code") none (Data.fields #[Value.str (Str.ofString "_law_duel") 2270, Value.str (Str.ofString "_law_duel") 2271, Value.str (Str.ofString "/claim/cut.py") 2272, Value.int 63 0, Value.int 3 0, Value.int 0 0, Value.int 0 0, Value.int 3 0, Value.ref 114, Value.bool true, Value.int 181 0, Value.ref 115, Value.none, Value.ref 116, Value.ref 117, Value.ref 118, Value.int 2276 0, Value.int 63 0, Value.str (Str.ofString "/claim/cut.py") 2277]) #[]
noncomputable def ob124 : Obj := Obj.mk (Value.type "code") none (Data.fields #[Value.str (Str.ofString "_law_play") 2279, Value.str (Str.ofString "_law_play") 2280, Value.str (Str.ofString "/claim/cut.py") 2281, Value.int 68 0, Value.int 2 0, Value.int 0 0, Value.int 0 0, Value.int 3 0, Value.ref 121, Value.bool true, Value.int 181 0, Value.ref 122, Value.none, Value.none, Value.none, Value.ref 123, Value.int 2282 0, Value.int 68 0, Value.str (Str.ofString "/claim/cut.py") 2283]) #[]
noncomputable def ob129 : Obj := Obj.mk (Value.type "code") none (Data.fields #[Value.str (Str.ofString "law") 2285, Value.str (Str.ofString "law") 2286, Value.str (Str.ofString "/claim/cut.py") 2287, Value.int 77 0, Value.int 1 0, Value.int 0 0, Value.int 0 0, Value.int 3 0, Value.ref 126, Value.bool true, Value.int 181 0, Value.ref 127, Value.none, Value.none, Value.none, Value.ref 128, Value.int 2288 0, Value.int 77 0, Value.str (Str.ofString "/claim/cut.py") 2289]) #[]
noncomputable def life0 : Life := {}
noncomputable def gl0 (P : Params) : Obj := glOb P "__main__" 164 [] 9
noncomputable def hl0 (P : Params) : List Obj := boot_o_0 P :: boot_o_1 P :: boot_o_2 P :: gl0 P :: boot_o_4 P :: boot_o_5 P :: boot_o_6 P :: boot_o_7 P :: boot_o_8 P :: boot_o_9 P :: boot_o_10 P :: tup0 :: (stOb []) :: ob13 :: ob14 :: []
noncomputable def st0 (w : World) (os : OsState) : SharedT := ⟨mkT (hl0 w.params), 15, {}, #[], {}, 187, os⟩
noncomputable def gl1 (P : Params) : Obj := glOb P "cpy313.locale" 187 [] 9
noncomputable def hl1 (P : Params) : List Obj := boot_o_0 P :: boot_o_1 P :: boot_o_2 P :: gl1 P :: boot_o_4 P :: boot_o_5 P :: boot_o_6 P :: boot_o_7 P :: boot_o_8 P :: boot_o_9 P :: boot_o_10 P :: tup0 :: (stOb []) :: ob13 :: ob14 :: []
noncomputable def st1 (w : World) (os : OsState) : SharedT := ⟨mkT (hl1 w.params), 15, {}, #[], {}, 189, os⟩
noncomputable def gl2 (P : Params) : Obj := glOb P "cpy313.locale" 187 [glE P "_strcoll" 196 (Value.ref 21)] 10
noncomputable def hl2 (P : Params) : List Obj := boot_o_0 P :: boot_o_1 P :: boot_o_2 P :: gl2 P :: boot_o_4 P :: boot_o_5 P :: boot_o_6 P :: boot_o_7 P :: boot_o_8 P :: boot_o_9 P :: boot_o_10 P :: tup0 :: (stOb [(2, 20)]) :: ob13 :: ob14 :: tup0 :: fld0 :: ob17 :: tup0 :: (fnPat 1) :: ob20 :: (fnOb 1 "cpy313.locale" 187 20) :: []
noncomputable def st2 (w : World) (os : OsState) : SharedT := ⟨mkT (hl2 w.params), 22, {}, #[], {}, 197, os⟩
noncomputable def gl3 (P : Params) : Obj := glOb P "cpy313.email.utils" 197 [glE P "_strcoll" 196 (Value.ref 21)] 10
noncomputable def hl3 (P : Params) : List Obj := boot_o_0 P :: boot_o_1 P :: boot_o_2 P :: gl3 P :: boot_o_4 P :: boot_o_5 P :: boot_o_6 P :: boot_o_7 P :: boot_o_8 P :: boot_o_9 P :: boot_o_10 P :: tup0 :: (stOb [(2, 20)]) :: ob13 :: ob14 :: tup0 :: fld0 :: ob17 :: tup0 :: (fnPat 1) :: ob20 :: (fnOb 1 "cpy313.locale" 187 20) :: []
noncomputable def st3 (w : World) (os : OsState) : SharedT := ⟨mkT (hl3 w.params), 22, {}, #[], {}, 199, os⟩
noncomputable def gl4 (P : Params) : Obj := glOb P "cpy313.email.utils" 197 [glE P "_strcoll" 196 (Value.ref 21), glE P "_iter_escaped_chars" 208 (Value.ref 28)] 11
noncomputable def hl4 (P : Params) : List Obj := boot_o_0 P :: boot_o_1 P :: boot_o_2 P :: gl4 P :: boot_o_4 P :: boot_o_5 P :: boot_o_6 P :: boot_o_7 P :: boot_o_8 P :: boot_o_9 P :: boot_o_10 P :: tup0 :: (stOb [(2, 20), (5, 27)]) :: ob13 :: ob14 :: tup0 :: fld0 :: ob17 :: tup0 :: (fnPat 1) :: ob20 :: (fnOb 1 "cpy313.locale" 187 20) :: tup0 :: fld0 :: ob24 :: tup0 :: (fnPat 3) :: ob27 :: (fnOb 3 "cpy313.email.utils" 197 27) :: []
noncomputable def st4 (w : World) (os : OsState) : SharedT := ⟨mkT (hl4 w.params), 29, {}, #[], {}, 209, os⟩
noncomputable def gl5 (P : Params) : Obj := glOb P "cpy313.email.utils" 197 [glE P "_strcoll" 196 (Value.ref 21), glE P "_iter_escaped_chars" 208 (Value.ref 28), glE P "_strip_quoted_realnames" 220 (Value.ref 35)] 12
noncomputable def hl5 (P : Params) : List Obj := boot_o_0 P :: boot_o_1 P :: boot_o_2 P :: gl5 P :: boot_o_4 P :: boot_o_5 P :: boot_o_6 P :: boot_o_7 P :: boot_o_8 P :: boot_o_9 P :: boot_o_10 P :: tup0 :: (stOb [(2, 20), (5, 27), (18, 34)]) :: ob13 :: ob14 :: tup0 :: fld0 :: ob17 :: tup0 :: (fnPat 1) :: ob20 :: (fnOb 1 "cpy313.locale" 187 20) :: tup0 :: fld0 :: ob24 :: tup0 :: (fnPat 3) :: ob27 :: (fnOb 3 "cpy313.email.utils" 197 27) :: tup0 :: fld0 :: ob31 :: tup0 :: (fnPat 4) :: ob34 :: (fnOb 4 "cpy313.email.utils" 197 34) :: []
noncomputable def st5 (w : World) (os : OsState) : SharedT := ⟨mkT (hl5 w.params), 36, {}, #[], {}, 221, os⟩
noncomputable def gl6 (P : Params) : Obj := glOb P "cpy313.email.utils" 197 [glE P "_strcoll" 196 (Value.ref 21), glE P "_iter_escaped_chars" 208 (Value.ref 28), glE P "_strip_quoted_realnames" 220 (Value.ref 35), glE P "_check_parenthesis" 230 (Value.ref 42)] 13
noncomputable def hl6 (P : Params) : List Obj := boot_o_0 P :: boot_o_1 P :: boot_o_2 P :: gl6 P :: boot_o_4 P :: boot_o_5 P :: boot_o_6 P :: boot_o_7 P :: boot_o_8 P :: boot_o_9 P :: boot_o_10 P :: tup0 :: (stOb [(2, 20), (5, 27), (18, 34), (36, 41)]) :: ob13 :: ob14 :: tup0 :: fld0 :: ob17 :: tup0 :: (fnPat 1) :: ob20 :: (fnOb 1 "cpy313.locale" 187 20) :: tup0 :: fld0 :: ob24 :: tup0 :: (fnPat 3) :: ob27 :: (fnOb 3 "cpy313.email.utils" 197 27) :: tup0 :: fld0 :: ob31 :: tup0 :: (fnPat 4) :: ob34 :: (fnOb 4 "cpy313.email.utils" 197 34) :: tup0 :: fld0 :: ob38 :: tup0 :: (fnPat 5) :: ob41 :: (fnOb 5 "cpy313.email.utils" 197 41) :: []
noncomputable def st6 (w : World) (os : OsState) : SharedT := ⟨mkT (hl6 w.params), 43, {}, #[], {}, 231, os⟩
noncomputable def gl7 (P : Params) : Obj := glOb P "cpy313.stringprep" 231 [glE P "_strcoll" 196 (Value.ref 21), glE P "_iter_escaped_chars" 208 (Value.ref 28), glE P "_strip_quoted_realnames" 220 (Value.ref 35), glE P "_check_parenthesis" 230 (Value.ref 42)] 13
noncomputable def hl7 (P : Params) : List Obj := boot_o_0 P :: boot_o_1 P :: boot_o_2 P :: gl7 P :: boot_o_4 P :: boot_o_5 P :: boot_o_6 P :: boot_o_7 P :: boot_o_8 P :: boot_o_9 P :: boot_o_10 P :: tup0 :: (stOb [(2, 20), (5, 27), (18, 34), (36, 41)]) :: ob13 :: ob14 :: tup0 :: fld0 :: ob17 :: tup0 :: (fnPat 1) :: ob20 :: (fnOb 1 "cpy313.locale" 187 20) :: tup0 :: fld0 :: ob24 :: tup0 :: (fnPat 3) :: ob27 :: (fnOb 3 "cpy313.email.utils" 197 27) :: tup0 :: fld0 :: ob31 :: tup0 :: (fnPat 4) :: ob34 :: (fnOb 4 "cpy313.email.utils" 197 34) :: tup0 :: fld0 :: ob38 :: tup0 :: (fnPat 5) :: ob41 :: (fnOb 5 "cpy313.email.utils" 197 41) :: []
noncomputable def st7 (w : World) (os : OsState) : SharedT := ⟨mkT (hl7 w.params), 43, {}, #[], {}, 233, os⟩
noncomputable def gl8 (P : Params) : Obj := glOb P "cpy313.stringprep" 231 [glE P "_strcoll" 196 (Value.ref 21), glE P "_iter_escaped_chars" 208 (Value.ref 28), glE P "_strip_quoted_realnames" 220 (Value.ref 35), glE P "_check_parenthesis" 230 (Value.ref 42), glE P "b1_set" 292 (Value.ref 50)] 14
noncomputable def hl8 (P : Params) : List Obj := boot_o_0 P :: boot_o_1 P :: boot_o_2 P :: gl8 P :: boot_o_4 P :: boot_o_5 P :: boot_o_6 P :: boot_o_7 P :: boot_o_8 P :: boot_o_9 P :: boot_o_10 P :: tup0 :: (stOb [(2, 20), (5, 27), (18, 34), (36, 41)]) :: ob13 :: ob14 :: tup0 :: fld0 :: ob17 :: tup0 :: (fnPat 1) :: ob20 :: (fnOb 1 "cpy313.locale" 187 20) :: tup0 :: fld0 :: ob24 :: tup0 :: (fnPat 3) :: ob27 :: (fnOb 3 "cpy313.email.utils" 197 27) :: tup0 :: fld0 :: ob31 :: tup0 :: (fnPat 4) :: ob34 :: (fnOb 4 "cpy313.email.utils" 197 34) :: tup0 :: fld0 :: ob38 :: tup0 :: (fnPat 5) :: ob41 :: (fnOb 5 "cpy313.email.utils" 197 41) :: ob43 :: ob44 :: ob45 :: ob46 :: tup0 :: ob48 :: ob49 :: ob50 P :: ob51 :: tup0 :: ob53 :: []
noncomputable def st8 (w : World) (os : OsState) : SharedT := ⟨mkT (hl8 w.params), 54, {}, #[], {}, 293, os⟩
noncomputable def gl9 (P : Params) : Obj := glOb P "cpy313.stringprep" 231 [glE P "_strcoll" 196 (Value.ref 21), glE P "_iter_escaped_chars" 208 (Value.ref 28), glE P "_strip_quoted_realnames" 220 (Value.ref 35), glE P "_check_parenthesis" 230 (Value.ref 42), glE P "b1_set" 292 (Value.ref 50), glE P "in_table_b1" 299 (Value.ref 60)] 15
noncomputable def hl9 (P : Params) : List Obj := boot_o_0 P :: boot_o_1 P :: boot_o_2 P :: gl9 P :: boot_o_4 P :: boot_o_5 P :: boot_o_6 P :: boot_o_7 P :: boot_o_8 P :: boot_o_9 P :: boot_o_10 P :: tup0 :: (stOb [(2, 20), (5, 27), (18, 34), (36, 41), (49, 59)]) :: ob13 :: ob14 :: tup0 :: fld0 :: ob17 :: tup0 :: (fnPat 1) :: ob20 :: (fnOb 1 "cpy313.locale" 187 20) :: tup0 :: fld0 :: ob24 :: tup0 :: (fnPat 3) :: ob27 :: (fnOb 3 "cpy313.email.utils" 197 27) :: tup0 :: fld0 :: ob31 :: tup0 :: (fnPat 4) :: ob34 :: (fnOb 4 "cpy313.email.utils" 197 34) :: tup0 :: fld0 :: ob38 :: tup0 :: (fnPat 5) :: ob41 :: (fnOb 5 "cpy313.email.utils" 197 41) :: ob43 :: ob44 :: ob45 :: ob46 :: tup0 :: ob48 :: ob49 :: ob50 P :: ob51 :: tup0 :: ob53 :: tup0 :: fld0 :: ob56 :: tup0 :: (fnPat 8) :: ob59 :: (fnOb 8 "cpy313.stringprep" 231 59) :: []
noncomputable def st9 (w : World) (os : OsState) : SharedT := ⟨mkT (hl9 w.params), 61, {}, #[], {}, 300, os⟩
noncomputable def gl10 (P : Params) : Obj := glOb P "cpy313.stringprep" 231 [glE P "_strcoll" 196 (Value.ref 21), glE P "_iter_escaped_chars" 208 (Value.ref 28), glE P "_strip_quoted_realnames" 220 (Value.ref 35), glE P "_check_parenthesis" 230 (Value.ref 42), glE P "b1_set" 292 (Value.ref 50), glE P "in_table_b1" 299 (Value.ref 60), glE P "b3_exceptions" 2250 (Value.ref 61)] 16
noncomputable def hl10 (P : Params) : List Obj := (boot_o_0 P :: boot_o_1 P :: boot_o_2 P :: gl10 P :: boot_o_4 P :: boot_o_5 P :: boot_o_6 P :: boot_o_7 P :: boot_o_8 P :: boot_o_9 P :: boot_o_10 P :: tup0 :: (stOb [(2, 20), (5, 27), (18, 34), (36, 41), (49, 59)]) :: ob13 :: ob14 :: tup0 :: fld0 :: ob17 :: tup0 :: (fnPat 1) :: ob20 :: (fnOb 1 "cpy313.locale" 187 20) :: tup0 :: fld0 :: ob24 :: tup0 :: (fnPat 3) :: ob27 :: (fnOb 3 "cpy313.email.utils" 197 27) :: tup0 :: fld0 :: ob31 :: tup0 :: (fnPat 4) :: ob34 :: (fnOb 4 "cpy313.email.utils" 197 34) :: tup0 :: fld0 :: ob38 :: tup0 :: (fnPat 5) :: ob41 :: (fnOb 5 "cpy313.email.utils" 197 41) :: ob43 :: ob44 :: ob45 :: ob46 :: tup0 :: ob48 :: ob49 :: ob50 P :: ob51 :: tup0 :: ob53 :: tup0 :: fld0 :: ob56 :: tup0 :: (fnPat 8) :: ob59 :: (fnOb 8 "cpy313.stringprep" 231 59) :: b3Ob :: []) ++ (subsAll ++ ([]))
noncomputable def st10 (w : World) (os : OsState) : SharedT := ⟨mkT (hl10 w.params), 100, {}, #[], {}, 2251, os⟩
noncomputable def gl11 (P : Params) : Obj := glOb P "cpy313.stringprep" 231 [glE P "_strcoll" 196 (Value.ref 21), glE P "_iter_escaped_chars" 208 (Value.ref 28), glE P "_strip_quoted_realnames" 220 (Value.ref 35), glE P "_check_parenthesis" 230 (Value.ref 42), glE P "b1_set" 292 (Value.ref 50), glE P "in_table_b1" 299 (Value.ref 60), glE P "b3_exceptions" 2250 (Value.ref 61), glE P "map_table_b3" 2258 (Value.ref 106)] 17
noncomputable def hl11 (P : Params) : List Obj := (boot_o_0 P :: boot_o_1 P :: boot_o_2 P :: gl11 P :: boot_o_4 P :: boot_o_5 P :: boot_o_6 P :: boot_o_7 P :: boot_o_8 P :: boot_o_9 P :: boot_o_10 P :: tup0 :: (stOb [(2, 20), (5, 27), (18, 34), (36, 41), (49, 59), (52, 105)]) :: ob13 :: ob14 :: tup0 :: fld0 :: ob17 :: tup0 :: (fnPat 1) :: ob20 :: (fnOb 1 "cpy313.locale" 187 20) :: tup0 :: fld0 :: ob24 :: tup0 :: (fnPat 3) :: ob27 :: (fnOb 3 "cpy313.email.utils" 197 27) :: tup0 :: fld0 :: ob31 :: tup0 :: (fnPat 4) :: ob34 :: (fnOb 4 "cpy313.email.utils" 197 34) :: tup0 :: fld0 :: ob38 :: tup0 :: (fnPat 5) :: ob41 :: (fnOb 5 "cpy313.email.utils" 197 41) :: ob43 :: ob44 :: ob45 :: ob46 :: tup0 :: ob48 :: ob49 :: ob50 P :: ob51 :: tup0 :: ob53 :: tup0 :: fld0 :: ob56 :: tup0 :: (fnPat 8) :: ob59 :: (fnOb 8 "cpy313.stringprep" 231 59) :: b3Ob :: []) ++ (subsAll ++ (tup0 :: fld0 :: ob102 :: tup0 :: (fnPat 10) :: ob105 :: (fnOb 10 "cpy313.stringprep" 231 105) :: []))
noncomputable def st11 (w : World) (os : OsState) : SharedT := ⟨mkT (hl11 w.params), 107, {}, #[], {}, 2259, os⟩
noncomputable def gl12 (P : Params) : Obj := glOb P "law_wa0035_01" 2259 [glE P "_strcoll" 196 (Value.ref 21), glE P "_iter_escaped_chars" 208 (Value.ref 28), glE P "_strip_quoted_realnames" 220 (Value.ref 35), glE P "_check_parenthesis" 230 (Value.ref 42), glE P "b1_set" 292 (Value.ref 50), glE P "in_table_b1" 299 (Value.ref 60), glE P "b3_exceptions" 2250 (Value.ref 61), glE P "map_table_b3" 2258 (Value.ref 106)] 17
noncomputable def hl12 (P : Params) : List Obj := (boot_o_0 P :: boot_o_1 P :: boot_o_2 P :: gl12 P :: boot_o_4 P :: boot_o_5 P :: boot_o_6 P :: boot_o_7 P :: boot_o_8 P :: boot_o_9 P :: boot_o_10 P :: tup0 :: (stOb [(2, 20), (5, 27), (18, 34), (36, 41), (49, 59), (52, 105)]) :: ob13 :: ob14 :: tup0 :: fld0 :: ob17 :: tup0 :: (fnPat 1) :: ob20 :: (fnOb 1 "cpy313.locale" 187 20) :: tup0 :: fld0 :: ob24 :: tup0 :: (fnPat 3) :: ob27 :: (fnOb 3 "cpy313.email.utils" 197 27) :: tup0 :: fld0 :: ob31 :: tup0 :: (fnPat 4) :: ob34 :: (fnOb 4 "cpy313.email.utils" 197 34) :: tup0 :: fld0 :: ob38 :: tup0 :: (fnPat 5) :: ob41 :: (fnOb 5 "cpy313.email.utils" 197 41) :: ob43 :: ob44 :: ob45 :: ob46 :: tup0 :: ob48 :: ob49 :: ob50 P :: ob51 :: tup0 :: ob53 :: tup0 :: fld0 :: ob56 :: tup0 :: (fnPat 8) :: ob59 :: (fnOb 8 "cpy313.stringprep" 231 59) :: b3Ob :: []) ++ (subsAll ++ (tup0 :: fld0 :: ob102 :: tup0 :: (fnPat 10) :: ob105 :: (fnOb 10 "cpy313.stringprep" 231 105) :: []))
noncomputable def st12 (w : World) (os : OsState) : SharedT := ⟨mkT (hl12 w.params), 107, {}, #[], {}, 2261, os⟩
noncomputable def gl13 (P : Params) : Obj := glOb P "law_wa0035_01" 2259 [glE P "_strcoll" 196 (Value.ref 21), glE P "_iter_escaped_chars" 208 (Value.ref 28), glE P "_strip_quoted_realnames" 220 (Value.ref 35), glE P "_check_parenthesis" 230 (Value.ref 42), glE P "b1_set" 292 (Value.ref 50), glE P "in_table_b1" 299 (Value.ref 60), glE P "b3_exceptions" 2250 (Value.ref 61), glE P "map_table_b3" 2258 (Value.ref 106), glE P "_law_bracket" 2269 (Value.ref 113)] 18
noncomputable def hl13 (P : Params) : List Obj := (boot_o_0 P :: boot_o_1 P :: boot_o_2 P :: gl13 P :: boot_o_4 P :: boot_o_5 P :: boot_o_6 P :: boot_o_7 P :: boot_o_8 P :: boot_o_9 P :: boot_o_10 P :: tup0 :: (stOb [(2, 20), (5, 27), (18, 34), (36, 41), (49, 59), (52, 105), (58, 112)]) :: ob13 :: ob14 :: tup0 :: fld0 :: ob17 :: tup0 :: (fnPat 1) :: ob20 :: (fnOb 1 "cpy313.locale" 187 20) :: tup0 :: fld0 :: ob24 :: tup0 :: (fnPat 3) :: ob27 :: (fnOb 3 "cpy313.email.utils" 197 27) :: tup0 :: fld0 :: ob31 :: tup0 :: (fnPat 4) :: ob34 :: (fnOb 4 "cpy313.email.utils" 197 34) :: tup0 :: fld0 :: ob38 :: tup0 :: (fnPat 5) :: ob41 :: (fnOb 5 "cpy313.email.utils" 197 41) :: ob43 :: ob44 :: ob45 :: ob46 :: tup0 :: ob48 :: ob49 :: ob50 P :: ob51 :: tup0 :: ob53 :: tup0 :: fld0 :: ob56 :: tup0 :: (fnPat 8) :: ob59 :: (fnOb 8 "cpy313.stringprep" 231 59) :: b3Ob :: []) ++ (subsAll ++ (tup0 :: fld0 :: ob102 :: tup0 :: (fnPat 10) :: ob105 :: (fnOb 10 "cpy313.stringprep" 231 105) :: tup0 :: fld0 :: ob109 :: tup0 :: (fnPat 12) :: ob112 :: (fnOb 12 "law_wa0035_01" 2259 112) :: []))
noncomputable def st13 (w : World) (os : OsState) : SharedT := ⟨mkT (hl13 w.params), 114, {}, #[], {}, 2270, os⟩
noncomputable def gl14 (P : Params) : Obj := glOb P "law_wa0035_01" 2259 [glE P "_strcoll" 196 (Value.ref 21), glE P "_iter_escaped_chars" 208 (Value.ref 28), glE P "_strip_quoted_realnames" 220 (Value.ref 35), glE P "_check_parenthesis" 230 (Value.ref 42), glE P "b1_set" 292 (Value.ref 50), glE P "in_table_b1" 299 (Value.ref 60), glE P "b3_exceptions" 2250 (Value.ref 61), glE P "map_table_b3" 2258 (Value.ref 106), glE P "_law_bracket" 2269 (Value.ref 113), glE P "_law_duel" 2278 (Value.ref 120)] 19
noncomputable def hl14 (P : Params) : List Obj := (boot_o_0 P :: boot_o_1 P :: boot_o_2 P :: gl14 P :: boot_o_4 P :: boot_o_5 P :: boot_o_6 P :: boot_o_7 P :: boot_o_8 P :: boot_o_9 P :: boot_o_10 P :: tup0 :: (stOb [(2, 20), (5, 27), (18, 34), (36, 41), (49, 59), (52, 105), (58, 112), (63, 119)]) :: ob13 :: ob14 :: tup0 :: fld0 :: ob17 :: tup0 :: (fnPat 1) :: ob20 :: (fnOb 1 "cpy313.locale" 187 20) :: tup0 :: fld0 :: ob24 :: tup0 :: (fnPat 3) :: ob27 :: (fnOb 3 "cpy313.email.utils" 197 27) :: tup0 :: fld0 :: ob31 :: tup0 :: (fnPat 4) :: ob34 :: (fnOb 4 "cpy313.email.utils" 197 34) :: tup0 :: fld0 :: ob38 :: tup0 :: (fnPat 5) :: ob41 :: (fnOb 5 "cpy313.email.utils" 197 41) :: ob43 :: ob44 :: ob45 :: ob46 :: tup0 :: ob48 :: ob49 :: ob50 P :: ob51 :: tup0 :: ob53 :: tup0 :: fld0 :: ob56 :: tup0 :: (fnPat 8) :: ob59 :: (fnOb 8 "cpy313.stringprep" 231 59) :: b3Ob :: []) ++ (subsAll ++ (tup0 :: fld0 :: ob102 :: tup0 :: (fnPat 10) :: ob105 :: (fnOb 10 "cpy313.stringprep" 231 105) :: tup0 :: fld0 :: ob109 :: tup0 :: (fnPat 12) :: ob112 :: (fnOb 12 "law_wa0035_01" 2259 112) :: tup0 :: fld0 :: ob116 :: tup0 :: (fnPat 13) :: ob119 :: (fnOb 13 "law_wa0035_01" 2259 119) :: []))
noncomputable def st14 (w : World) (os : OsState) : SharedT := ⟨mkT (hl14 w.params), 121, {}, #[], {}, 2279, os⟩
noncomputable def gl15 (P : Params) : Obj := glOb P "law_wa0035_01" 2259 [glE P "_strcoll" 196 (Value.ref 21), glE P "_iter_escaped_chars" 208 (Value.ref 28), glE P "_strip_quoted_realnames" 220 (Value.ref 35), glE P "_check_parenthesis" 230 (Value.ref 42), glE P "b1_set" 292 (Value.ref 50), glE P "in_table_b1" 299 (Value.ref 60), glE P "b3_exceptions" 2250 (Value.ref 61), glE P "map_table_b3" 2258 (Value.ref 106), glE P "_law_bracket" 2269 (Value.ref 113), glE P "_law_duel" 2278 (Value.ref 120), glE P "_law_play" 2284 (Value.ref 125)] 20
noncomputable def hl15 (P : Params) : List Obj := (boot_o_0 P :: boot_o_1 P :: boot_o_2 P :: gl15 P :: boot_o_4 P :: boot_o_5 P :: boot_o_6 P :: boot_o_7 P :: boot_o_8 P :: boot_o_9 P :: boot_o_10 P :: tup0 :: (stOb [(2, 20), (5, 27), (18, 34), (36, 41), (49, 59), (52, 105), (58, 112), (63, 119), (68, 124)]) :: ob13 :: ob14 :: tup0 :: fld0 :: ob17 :: tup0 :: (fnPat 1) :: ob20 :: (fnOb 1 "cpy313.locale" 187 20) :: tup0 :: fld0 :: ob24 :: tup0 :: (fnPat 3) :: ob27 :: (fnOb 3 "cpy313.email.utils" 197 27) :: tup0 :: fld0 :: ob31 :: tup0 :: (fnPat 4) :: ob34 :: (fnOb 4 "cpy313.email.utils" 197 34) :: tup0 :: fld0 :: ob38 :: tup0 :: (fnPat 5) :: ob41 :: (fnOb 5 "cpy313.email.utils" 197 41) :: ob43 :: ob44 :: ob45 :: ob46 :: tup0 :: ob48 :: ob49 :: ob50 P :: ob51 :: tup0 :: ob53 :: tup0 :: fld0 :: ob56 :: tup0 :: (fnPat 8) :: ob59 :: (fnOb 8 "cpy313.stringprep" 231 59) :: b3Ob :: []) ++ (subsAll ++ (tup0 :: fld0 :: ob102 :: tup0 :: (fnPat 10) :: ob105 :: (fnOb 10 "cpy313.stringprep" 231 105) :: tup0 :: fld0 :: ob109 :: tup0 :: (fnPat 12) :: ob112 :: (fnOb 12 "law_wa0035_01" 2259 112) :: tup0 :: fld0 :: ob116 :: tup0 :: (fnPat 13) :: ob119 :: (fnOb 13 "law_wa0035_01" 2259 119) :: tup0 :: fld0 :: (fnPat 14) :: ob124 :: (fnOb 14 "law_wa0035_01" 2259 124) :: []))
noncomputable def st15 (w : World) (os : OsState) : SharedT := ⟨mkT (hl15 w.params), 126, {}, #[], {}, 2285, os⟩
noncomputable def gl16 (P : Params) : Obj := glOb P "law_wa0035_01" 2259 [glE P "_strcoll" 196 (Value.ref 21), glE P "_iter_escaped_chars" 208 (Value.ref 28), glE P "_strip_quoted_realnames" 220 (Value.ref 35), glE P "_check_parenthesis" 230 (Value.ref 42), glE P "b1_set" 292 (Value.ref 50), glE P "in_table_b1" 299 (Value.ref 60), glE P "b3_exceptions" 2250 (Value.ref 61), glE P "map_table_b3" 2258 (Value.ref 106), glE P "_law_bracket" 2269 (Value.ref 113), glE P "_law_duel" 2278 (Value.ref 120), glE P "_law_play" 2284 (Value.ref 125), glE P "law" 2290 (Value.ref 130)] 21
noncomputable def hl16 (P : Params) : List Obj := (boot_o_0 P :: boot_o_1 P :: boot_o_2 P :: gl16 P :: boot_o_4 P :: boot_o_5 P :: boot_o_6 P :: boot_o_7 P :: boot_o_8 P :: boot_o_9 P :: boot_o_10 P :: tup0 :: (stOb [(2, 20), (5, 27), (18, 34), (36, 41), (49, 59), (52, 105), (58, 112), (63, 119), (68, 124), (77, 129)]) :: ob13 :: ob14 :: tup0 :: fld0 :: ob17 :: tup0 :: (fnPat 1) :: ob20 :: (fnOb 1 "cpy313.locale" 187 20) :: tup0 :: fld0 :: ob24 :: tup0 :: (fnPat 3) :: ob27 :: (fnOb 3 "cpy313.email.utils" 197 27) :: tup0 :: fld0 :: ob31 :: tup0 :: (fnPat 4) :: ob34 :: (fnOb 4 "cpy313.email.utils" 197 34) :: tup0 :: fld0 :: ob38 :: tup0 :: (fnPat 5) :: ob41 :: (fnOb 5 "cpy313.email.utils" 197 41) :: ob43 :: ob44 :: ob45 :: ob46 :: tup0 :: ob48 :: ob49 :: ob50 P :: ob51 :: tup0 :: ob53 :: tup0 :: fld0 :: ob56 :: tup0 :: (fnPat 8) :: ob59 :: (fnOb 8 "cpy313.stringprep" 231 59) :: b3Ob :: []) ++ (subsAll ++ (tup0 :: fld0 :: ob102 :: tup0 :: (fnPat 10) :: ob105 :: (fnOb 10 "cpy313.stringprep" 231 105) :: tup0 :: fld0 :: ob109 :: tup0 :: (fnPat 12) :: ob112 :: (fnOb 12 "law_wa0035_01" 2259 112) :: tup0 :: fld0 :: ob116 :: tup0 :: (fnPat 13) :: ob119 :: (fnOb 13 "law_wa0035_01" 2259 119) :: tup0 :: fld0 :: (fnPat 14) :: ob124 :: (fnOb 14 "law_wa0035_01" 2259 124) :: tup0 :: fld0 :: (fnPat 15) :: ob129 :: (fnOb 15 "law_wa0035_01" 2259 129) :: []))
noncomputable def st16 (w : World) (os : OsState) : SharedT := ⟨mkT (hl16 w.params), 131, {}, #[], {}, 2291, os⟩
noncomputable abbrev bodyE : List Stmt := behindTheImports PySem.Challenge.pw_wa0035_01
noncomputable def envE : Env := { scope := PySem.Challenge.pw_wa0035_01.main.scope, locals := mainNs, globals := mainNs, cells := [], code := Value.ref 13, frame := some 14 }
noncomputable abbrev codeE : Code := .body bodyE envE
noncomputable abbrev posE (a b c d : Nat) : Pos := ⟨a, b, c, d⟩
noncomputable abbrev topB : List Frame := [topFrame ⟨0, 0, 0, 0⟩]
noncomputable def stmtAt (i : Nat) : List Stmt := (bodyE.drop i).take 1
noncomputable def Piece (i n : Nat) (S S' : World → OsState → SharedT) (p p' : Pos) : Prop := ∀ w : World, (fun os => segRunT treeTable PySem.Challenge.pw_wa0035_01 w 11 (some (.ref 6)) 1 n (S w os) (piecesOf (stmtAt i) envE codeE p topB)) = fun os => some (.next, S' w os, codeE, p')
end Mine
end
section
open PySem PySem.W PySem.Calls PySem.Spec PyProof PyProof.Rows
namespace Mine
-- a tree of the semantics, run at the top: from the state s to its value a, in n steps
noncomputable abbrev goT (w : World) (n : Nat) (s : Shared) (t : Thread) : Option (Shared × Thread) := segGo treeTable PySem.Challenge.pw_wa0035_01 w 11 (some (.ref 6)) 1 n s t
noncomputable def Goes {α : Type} (w : World) (n : Nat) (x : Sem α) (s : Shared) (p : Pos) (a : α) (s' : Shared) (p' : Pos) : Prop :=
  ∀ (K : α → Sem Fin) (H : Value → Sem Fin) (gd : Bool → Bool) (lv : List Value → List Value) (code : Code), goT w n s ⟨x.wrap K H gd lv, code, p, topB⟩ = some (s', ⟨K a, code, p', topB⟩)
theorem goT_add {w : World} : ∀ {n m : Nat} {s s1 : Shared} {t t1 : Thread}, goT w n s t = some (s1, t1) → goT w (n + m) s t = goT w m s1 t1
  | 0, m, s, s1, t, t1, h => by
    obtain ⟨rfl, rfl⟩ : s = s1 ∧ t = t1 := by simpa [segGo] using h
    rw [Nat.zero_add]
  | n + 1, m, s, s1, t, t1, h => by
    rw [show n + 1 + m = n + m + 1 by omega]
    unfold goT segGo at h
    conv => lhs; unfold goT segGo
    cases he : endAt 1 t with
    | some f => rw [he] at h; cases h
    | none =>
      rw [he] at h
      cases hk : stepOk 11 (some (.ref 6)) t with
      | false => rw [hk] at h; cases h
      | true =>
        rw [hk] at h
        cases hs : step (denote treeTable) PySem.Challenge.pw_wa0035_01 w s t with
        | halt o s₂ => rw [hs] at h; cases h
        | go s₂ t₂ => rw [hs] at h; exact goT_add h
section
variable {α β : Type} {w : World} {n m : Nat} {s s' s₂ : Shared} {p p' p₂ : Pos} {a : α} {b : β}
theorem Goes.pure : Goes w 0 (Sem.pure a) s p a s p := fun _ _ _ _ _ => rfl
theorem Goes.bind {x : Sem α} {f : α → Sem β} (h : Goes w n x s p a s' p') (k : Goes w m (f a) s' p' b s₂ p₂) : Goes w (n + m) (x.bind f) s p b s₂ p₂ := by
  intro K H gd lv code
  rw [Sem.bind_eq_wrap, Sem.wrap_wrap]
  rw [goT_add (h _ _ _ _ _)]
  exact k K H gd lv code
theorem Goes.keep {x : Sem α} {vs : List Value} (h : Goes w n x s p a s' p') : Goes w n (x.keep vs) s p a s' p' := by
  intro K H gd lv code
  rw [Sem.keep_eq_wrap, Sem.wrap_wrap]
  exact h _ _ _ _ _
theorem Goes.holding {x : Sem α} {vs : List Value} (h : Goes w n x s p a s' p') : Goes w n (PySem.holding vs x) s p a s' p' := by
  unfold PySem.holding
  split
  · exact h
  · exact h.keep
theorem Goes.onRaise {x : Sem α} {f : Value → Sem Unit} (h : Goes w n x s p a s' p') : Goes w n (x.onRaise f) s p a s' p' := by
  intro K H gd lv code
  rw [Sem.onRaise_eq_wrap, Sem.wrap_wrap]
  exact h _ _ _ _ _
theorem Goes.load {d : Addr} {q : Option Value} {o : Obj} {k : Obj → Sem α} (h : s.heap.get? d = some o) (g : Goes w n (k o) s p a s' p') : Goes w (n + 1) (Sem.load d q k) s p a s' p' := by
  intro K H gd lv code
  obtain ⟨heap, gens, drawn, toks, os⟩ := s
  have h' : heap.get? d = some o := h
  have e : step (denote treeTable) PySem.Challenge.pw_wa0035_01 w ⟨heap, gens, drawn, toks, os⟩ ⟨(Sem.load d q k).wrap K H gd lv, code, p, topB⟩ = .go ⟨heap, gens, drawn, toks, os⟩ ⟨(k o).wrap K H gd lv, code, p, topB⟩ := by
    show step _ _ _ _ ⟨.load d q fun x => (k x).wrap K H gd lv, code, p, topB⟩ = _
    simp only [step, h']
  show (match step (denote treeTable) PySem.Challenge.pw_wa0035_01 w ⟨heap, gens, drawn, toks, os⟩ ⟨(Sem.load d q k).wrap K H gd lv, code, p, topB⟩ with | .go s' t' => goT w n s' t' | .halt _ _ => none) = _
  rw [e]
  exact g K H gd lv code
theorem Goes.update {d : Addr} {q : Option Value} {o : Obj} {f : Obj → Obj} {k : Unit → Sem α} (hd : Nat.ble 11 d = true) (h : s.heap.get? d = some o) (g : Goes w n (k ()) { s with heap := s.heap.update d f } p a s' p') : Goes w (n + 1) (Sem.update d q f k) s p a s' p' := by
  intro K H gd lv code
  obtain ⟨heap, gens, drawn, toks, os⟩ := s
  have h' : heap.get? d = some o := h
  have e : step (denote treeTable) PySem.Challenge.pw_wa0035_01 w ⟨heap, gens, drawn, toks, os⟩ ⟨(Sem.update d q f k).wrap K H gd lv, code, p, topB⟩ = .go ⟨heap.update d f, gens, drawn, toks, os⟩ ⟨(k ()).wrap K H gd lv, code, p, topB⟩ := by
    show step _ _ _ _ ⟨.update d q f fun x => (k x).wrap K H gd lv, code, p, topB⟩ = _
    simp only [step, h', Option.isSome_some, if_true]
  show (match stepOk 11 (some (.ref 6)) ⟨.update d q f fun x => (k x).wrap K H gd lv, code, p, topB⟩ with
    | false => none
    | true => match step (denote treeTable) PySem.Challenge.pw_wa0035_01 w ⟨heap, gens, drawn, toks, os⟩ ⟨(Sem.update d q f k).wrap K H gd lv, code, p, topB⟩ with | .go s' t' => goT w n s' t' | .halt _ _ => none) = _
  have e2 : stepOk 11 (some (.ref 6)) ⟨.update d q f fun x => (k x).wrap K H gd lv, code, p, topB⟩ = true := by
    show (true && (Nat.ble 11 d || d == mainNs || d == cStatics || some (Value.ref 6) == some (.ref d))) = true
    rw [hd]
    rfl
  rw [e2, e]
  exact g K H gd lv code
theorem Goes.alloc {o : Obj} {k : Addr → Sem α} (g : Goes w n (k s.heap.objs.size) { s with heap := s.heap.push o } p a s' p') : Goes w (n + 1) (Sem.alloc o k) s p a s' p' := by
  intro K H gd lv code
  exact g K H gd lv code
theorem Goes.rule {t : String} {k : Unit → Sem α} (g : Goes w n (k ()) s p a s' p') : Goes w (n + 1) (Sem.rule t k) s p a s' p' := by
  intro K H gd lv code
  exact g K H gd lv code
theorem Goes.at {q : Pos} {k : Unit → Sem α} (g : Goes w n (k ()) s q a s' p') : Goes w (n + 1) (Sem.at q k) s p a s' p' := by
  intro K H gd lv code
  exact g K H gd lv code
theorem Goes.fresh {k : Tok → Sem α} (g : Goes w n (k s.toks) { s with toks := s.toks + 1 } p a s' p') : Goes w (n + 1) (Sem.fresh k) s p a s' p' := by
  intro K H gd lv code
  exact g K H gd lv code
end
end Mine
end
section
open PySem PySem.W PySem.Calls PySem.Spec PyProof PyProof.Rows
namespace Mine
theorem hash_pre (heap : Heap) (gens : Array GenState) (drawn : Drawn) (toks : Nat) (os : OsState) (k : Int) (t : Tok) (K : Int → Sem Fin) (H : Value → Sem Fin) (gd : Bool → Bool) (lv : List Value → List Value) (code : Code) (p : Pos) :
  ∀ w : World, segGo treeTable PySem.Challenge.pw_wa0035_01 w 11 (some (.ref 6)) 1 5 ⟨heap, gens, drawn, toks, os⟩ ⟨(pyHash (.int k t)).wrap K H gd lv, code, p, topB⟩ = some (⟨heap, gens, drawn, toks + 1, os⟩, ⟨(pyHashByItsType.reduced (rawHash k)).wrap K H gd lv, code, p, topB⟩) := by
  rw [PySem.W.Fast.te14364793385576792824]
  refine byRow2 "special-get-raises" ?_ ?_
  · intro w
    kernel_rfl
  · intro w
    kernel_rfl
theorem reduced_raw (k : Int) : pyHashByItsType.reduced (rawHash k) = .pure (hashInt k) := by
  have h := rawHash_range k
  unfold pyHashByItsType.reduced hashInt
  rw [if_pos (by simp only [Bool.and_eq_true, decide_eq_true_eq]; exact h)]
  rfl
section
variable {w : World} {s : Shared} {p : Pos} {d : Addr} {es : List DictEntry} {n : Nat}
theorem Goes.hash (k : Int) (t : Tok) : Goes w 5 (pyHash (.int k t)) s p (hashInt k) { s with toks := s.toks + 1 } p := by
  intro K H gd lv code
  have h := hash_pre s.heap s.gens s.drawn s.toks s.os k t K H gd lv code p w
  rw [reduced_raw] at h
  exact h
theorem no_places {h : Int} (hn : ∀ e ∈ es, e.hash ≠ h) : placesWithHash es.toArray.size (fun i => es.toArray[i]?.map (·.hash)) h = [] := by
  unfold placesWithHash
  rw [List.filter_eq_nil_iff]
  intro i hi
  have hi' : i < es.length := by simpa using hi
  show ¬((Option.map (fun x : DictEntry => x.hash) es.toArray[i]?) == some h) = true
  rw [List.getElem?_toArray, List.getElem?_eq_getElem hi']
  have := hn _ (List.getElem_mem hi')
  simpa using this
theorem Goes.find {k h : Int} {t : Tok} (hd : s.heap.get? d = some (dOb es n)) (hn : ∀ e ∈ es, e.hash ≠ h) : Goes w 1 (dictFind d (.int k t) h) s p none s p := by
  refine Goes.load (q := some (.int k 0)) hd ?_
  have hp := no_places hn
  simp only [Sem.bind, Pure.pure]
  rw [hp]
  exact Goes.pure
theorem size_of {h : Heap} {a : Addr} {o : Obj} (e : h.get? a = some o) : a < h.objs.size := Heap.lt_size e
theorem upd_same {h : Heap} {a : Addr} {o : Obj} {f : Obj → Obj} (e : h.get? a = some o) : h.update a f = h.update a (fun _ => f o) := by
  obtain ⟨objs, l⟩ := h
  have e1 : objs[a]? = some o := (Heap.get?_some_iff.mp e).1
  show Heap.mk _ _ = Heap.mk _ _
  congr 1
  apply Array.ext_getElem?
  intro i
  rw [Array.getElem?_modify, Array.getElem?_modify]
  by_cases q : a = i
  · subst q; simp [e1]
  · simp [q]
theorem upd_upd {h : Heap} {a : Addr} {o o' : Obj} : (h.update a (fun _ => o)).update a (fun _ => o') = h.update a (fun _ => o') := by
  obtain ⟨objs, l⟩ := h
  show Heap.mk _ _ = Heap.mk _ _
  congr 1
  apply Array.ext_getElem?
  intro i
  rw [Array.getElem?_modify, Array.getElem?_modify, Array.getElem?_modify]
  by_cases q : a = i
  · subst q; simp [Function.comp_def]
  · simp [q]
theorem upd_get {h : Heap} {a : Addr} {o : Obj} (e : h.get? a = some o) : h.update a (fun _ => o) = h := by
  obtain ⟨objs, l⟩ := h
  have e1 : objs[a]? = some o := (Heap.get?_some_iff.mp e).1
  show Heap.mk _ _ = Heap.mk _ _
  congr 1
  apply Array.ext_getElem?
  intro i
  rw [Array.getElem?_modify]
  by_cases q : a = i
  · subst q; simp [e1]
  · simp [q]
theorem get_upd {h : Heap} {a : Addr} {o : Obj} {es : List DictEntry} {n : Nat} (e : h.get? a = some o) : (h.update a (fun _ => dOb es n)).get? a = some (dOb es n) :=
  Heap.get?_update_self (fun _ => dOb es n) e rfl
/-- the heap with the dict at d -/
noncomputable abbrev putD (s : Shared) (d : Addr) (es : List DictEntry) (n tk : Nat) : Shared := { s with heap := s.heap.update d (fun _ => dOb es n), toks := tk }
theorem Goes.push {e : DictEntry} {q : Option Value} (hd : s.heap.get? d = some (dOb es n)) (h11 : Nat.ble 11 d = true) (hz : es.length < 1000) :
    Goes w 3 (updateDictKeys d (·.push e) q) s p () (putD s d (es ++ [e]) (n + 1) s.toks) p := by
  refine Goes.load hd ?_
  have e1 : s.heap.update d (Obj.mapDictKeys (·.push e)) = s.heap.update d (fun _ => dOb (es ++ [e]) (n + 1)) := by
    rw [upd_same hd]
    show s.heap.update d (fun _ => Obj.mk (.type "dict") none (.dict (es.toArray.push e) (n + 1)) #[]) = _
    rw [List.push_toArray]
  refine Goes.update h11 hd ?_
  rw [e1]
  refine Goes.load (get_upd hd) ?_
  have hs : ¬ (es ++ [e]).toArray.size > sizeLine + 1 := by rw [List.size_toArray, List.length_append, PySem.sizeLine_eq]; simp; omega
  have e2 : (dOb (es ++ [e]) (n + 1)).data.pastItsLine = none := by
    show (if (es ++ [e]).toArray.size > sizeLine + 1 then some "dict:memory" else none) = none
    rw [if_neg hs]
  simp only [Sem.bind, Pure.pure]
  rw [e2]
  exact Goes.pure
theorem Goes.set {k : Int} {t u : Tok} {v : Str} (hd : s.heap.get? d = some (dOb es n)) (h11 : Nat.ble 11 d = true) (hz : es.length < 1000) (hn : ∀ e ∈ es, e.hash ≠ hashInt k) :
    Goes w 10 (dictSet d (.int k t) (.str v u)) s p () (putD s d (es ++ [⟨hashInt k, .int k t, .str v u⟩]) (n + 1) (s.toks + 1)) p := by
  refine (Goes.holding (vs := [.int k t, .str v u]) (Goes.bind (n := 5) (m := 5) (Goes.hash k t) ?_) :)
  refine Goes.holding (Goes.bind (n := 1) (m := 4) (Goes.find (s := { s with toks := s.toks + 1 }) hd hn) ?_)
  refine Goes.rule ?_
  exact Goes.push (s := { s with toks := s.toks + 1 }) hd h11 hz
theorem Goes.put {k h : Int} {t : Tok} {v : Value} (hd : s.heap.get? d = some (dOb es n)) (h11 : Nat.ble 11 d = true) (hz : es.length < 1000) (hn : ∀ e ∈ es, e.hash ≠ h) :
    Goes w 4 (dictPut d h (.int k t) v) s p () (putD s d (es ++ [⟨h, .int k t, v⟩]) (n + 1) s.toks) p := by
  refine Goes.bind (n := 1) (m := 3) (Goes.find hd hn) ?_
  exact Goes.push hd h11 hz
end
end Mine
end
section
open PySem PySem.W PySem.Calls PySem.Spec PyProof PyProof.Rows
namespace Mine
/-- a pair of the display -/
noncomputable def pairOf (P : Pos) (q : Int × Str) : Sem Value × Sem Value := (mkInt q.1, do let x ← mkText q.2; standAt P; pure x)
section
variable {w : World} {s : Shared} {P : Pos} {d : Addr}
theorem goes_entry {k : Int} {v : Str} {es : List DictEntry} {n : Nat} (hd : s.heap.get? d = some (dOb es n)) (h11 : Nat.ble 11 d = true) (hz : es.length < 1000) (hh : k = hashInt k) (hn : ∀ e ∈ es, e.hash ≠ k) :
    Goes w 13 (do let kv ← (pairOf P (k, v)).1; let vv ← holding [kv] (pairOf P (k, v)).2; holding [kv, vv] (dictSet d kv vv)) s P () (putD s d (es ++ [⟨k, .int k s.toks, .str v (s.toks + 1)⟩]) (n + 1) (s.toks + 3)) P := by
  show Goes w 13 (Sem.fresh fun t => Sem.fresh fun u => Sem.at P fun _ => holding [.int k t, .str v u] (dictSet d (.int k t) (.str v u))) s P () _ P
  refine Goes.fresh (n := 12) ?_
  refine Goes.fresh (n := 11) ?_
  refine Goes.at (n := 10) ?_
  have h := Goes.set (w := w) (s := { s with toks := s.toks + 1 + 1 }) (p := P) (k := k) (t := s.toks) (u := s.toks + 1) (v := v) hd h11 hz (by rw [← hh]; exact hn)
  rw [← hh] at h
  exact h.holding
theorem goes_entry2 {k : Int} {v : Str} {es : List DictEntry} {n : Nat} (hd : s.heap.get? d = some (dOb es n)) (h11 : Nat.ble 11 d = true) (hz : es.length < 1000) (hh : k = hashInt k) (hn : ∀ e ∈ es, e.hash ≠ k) :
    Goes w 13 (do let kv ← (pairOf P (k, v)).1; let vv ← holding [kv] (pairOf P (k, v)).2; holding [kv, vv] (dictSet d kv vv); pure (ForInStep.yield PUnit.unit)) s P (ForInStep.yield PUnit.unit) (putD s d (es ++ [⟨k, .int k s.toks, .str v (s.toks + 1)⟩]) (n + 1) (s.toks + 3)) P := by
  show Goes w 13 (Sem.fresh fun t => Sem.fresh fun u => Sem.at P fun _ => (holding [.int k t, .str v u] (dictSet d (.int k t) (.str v u))).bind fun _ => Sem.pure (ForInStep.yield PUnit.unit)) s P (ForInStep.yield PUnit.unit) _ P
  refine Goes.fresh (n := 12) ?_
  refine Goes.fresh (n := 11) ?_
  refine Goes.at (n := 10) ?_
  have h := Goes.set (w := w) (s := { s with toks := s.toks + 1 + 1 }) (p := P) (k := k) (t := s.toks) (u := s.toks + 1) (v := v) hd h11 hz (by rw [← hh]; exact hn)
  rw [← hh] at h
  exact Goes.bind (n := 10) (m := 0) h.holding Goes.pure
theorem putD_putD {a b : List DictEntry} {i j x y : Nat} : putD (putD s d a i x) d b j y = putD s d b j y := by
  show ({ s with heap := _, toks := _ } : Shared) = { s with heap := _, toks := _ }
  rw [upd_upd]
/-- the keys rise -/
noncomputable def Rises : List DictEntry → List (Int × Str) → Prop
  | _, [] => True
  | es, q :: l => q.1 = hashInt q.1 ∧ (∀ e ∈ es, e.hash < q.1) ∧ ∀ t : Tok, Rises (es ++ [⟨q.1, .int q.1 t, .str q.2 (t + 1)⟩]) l
theorem goes_entries : ∀ (l : List (Int × Str)) {s : Shared} {es : List DictEntry} {n : Nat}, s.heap.get? d = some (dOb es n) → Nat.ble 11 d = true → es.length + l.length < 1000 → Rises es l →
    Goes w (13 * l.length) (forIn (m := Sem) (l.map (pairOf P)) PUnit.unit (fun x _ => do
        let kv ← x.1
        let vv ← holding [kv] x.2
        holding [kv, vv] (dictSet d kv vv)
        pure (ForInStep.yield PUnit.unit))) s P PUnit.unit (putD s d (es ++ b3Ents 3 l s.toks) (n + l.length) (s.toks + 3 * l.length)) P
  | [], s, es, n, hd, h11, hz, hr => by
    have e : putD s d (es ++ b3Ents 3 [] s.toks) (n + ([] : List (Int × Str)).length) (s.toks + 3 * ([] : List (Int × Str)).length) = s := by
      show ({ s with heap := s.heap.update d (fun _ => dOb (es ++ []) (n + 0)), toks := s.toks + 0 } : Shared) = s
      rw [List.append_nil, Nat.add_zero, Nat.add_zero, upd_get hd]
    rw [e]
    exact Goes.pure
  | q :: l, s, es, n, hd, h11, hz, hr => by
    obtain ⟨k, v⟩ := q
    obtain ⟨h1, h2, h3⟩ := hr
    have hz' : es.length + l.length + 1 < 1000 := by simpa [Nat.add_assoc] using hz
    have g := goes_entry2 (w := w) (P := P) (v := v) hd h11 (by omega) h1 (fun e he => Int.ne_of_lt (h2 e he))
    have hd' : (putD s d (es ++ [⟨k, .int k s.toks, .str v (s.toks + 1)⟩]) (n + 1) (s.toks + 3)).heap.get? d = some (dOb (es ++ [⟨k, .int k s.toks, .str v (s.toks + 1)⟩]) (n + 1)) := get_upd hd
    have hl : (es ++ [(⟨k, .int k s.toks, .str v (s.toks + 1)⟩ : DictEntry)]).length + l.length < 1000 := by
      rw [List.length_append, List.length_singleton]; omega
    have r := goes_entries l hd' h11 hl (h3 s.toks)
    have e1 : 13 * ((k, v) :: l).length = 13 + 13 * l.length := by rw [List.length_cons]; omega
    rw [e1, List.map_cons, List.forIn_cons]
    have e2 : putD s d (es ++ b3Ents 3 ((k, v) :: l) s.toks) (n + ((k, v) :: l).length) (s.toks + 3 * ((k, v) :: l).length) = putD (putD s d (es ++ [⟨k, .int k s.toks, .str v (s.toks + 1)⟩]) (n + 1) (s.toks + 3)) d (es ++ [⟨k, .int k s.toks, .str v (s.toks + 1)⟩] ++ b3Ents 3 l (s.toks + 3)) (n + 1 + l.length) (s.toks + 3 + 3 * l.length) := by
      rw [putD_putD, List.append_assoc, List.length_cons, Nat.add_comm l.length 1, ← Nat.add_assoc, Nat.mul_add, Nat.mul_one, ← Nat.add_assoc]
      exact congrArg (fun z => putD s d (es ++ z) _ _) rfl
    rw [e2]
    exact Goes.bind g r
theorem push_upd {h : Heap} {o o' : Obj} : (h.push o).update h.objs.size (fun _ => o') = h.push o' := by
  obtain ⟨objs, l⟩ := h
  show Heap.mk _ _ = Heap.mk _ _
  congr 1
  apply Array.ext_getElem?
  intro i
  rw [Array.getElem?_modify, Array.getElem?_push, Array.getElem?_push]
  by_cases q : objs.size = i
  · subst q; simp
  · have q' : ¬ i = objs.size := fun e => q e.symm
    simp [q, q']
noncomputable abbrev pushD (s : Shared) (es : List DictEntry) (n tk : Nat) : Shared := { s with heap := s.heap.push (dOb es n), toks := tk }
theorem bind0 {α β : Type} {n : Nat} {s s' : Shared} {p p' : Pos} {a : α} {b : β} {f : α → Sem β} (h : Goes w n (f a) s p b s' p') : Goes w n ((Sem.pure a).bind f) s p b s' p' := h
theorem goes_sub (l : List (Int × Str)) (h16 : 15 < l.length) (hz : l.length < 900) (hr : Rises [] l) (h11 : Nat.ble 11 s.heap.objs.size = true) :
    Goes w (13 * l.length + 2) (subDict (l.map (pairOf P))) s P s.heap.objs.size (pushD s (b3Ents 3 l s.toks) l.length (s.toks + 3 * l.length)) P := by
  have hd : ({ s with heap := s.heap.push (dOb [] 0) } : Shared).heap.get? s.heap.objs.size = some (dOb [] 0) := Heap.get?_push_size _ rfl
  have g := goes_entries (w := w) (P := P) l hd h11 (by rw [List.length_nil]; omega) hr
  have e : putD { s with heap := s.heap.push (dOb [] 0) } s.heap.objs.size ([] ++ b3Ents 3 l s.toks) (0 + l.length) (s.toks + 3 * l.length) = pushD s (b3Ents 3 l s.toks) l.length (s.toks + 3 * l.length) := by
    show ({ s with heap := (s.heap.push (dOb [] 0)).update s.heap.objs.size _, toks := _ } : Shared) = { s with heap := _, toks := _ }
    rw [push_upd, List.nil_append, Nat.zero_add]
  rw [e] at g
  refine Goes.alloc (n := 13 * l.length + 1) ?_
  have hlen : ¬ (l.map (pairOf P)).length ≤ 15 := by rw [List.length_map]; omega
  simp only [Sem.bind]
  refine Goes.bind (a := ()) (n := 13 * l.length + 1) (m := 0) (Goes.holding ?_) Goes.pure
  rw [if_neg hlen]
  refine Goes.rule (n := 13 * l.length) ?_
  refine bind0 ?_
  exact Goes.bind (a := ()) (m := 0) g Goes.pure
noncomputable def vals : List (Int × Str) → Nat → List (Value × Value)
  | [], _ => []
  | q :: l, t => (.int q.1 t, .str q.2 (t + 1)) :: vals l (t + 2)
theorem goes_pairs : ∀ (l : List (Int × Str)) {s : Shared}, Goes w (3 * l.length) (evalPairs (l.map (pairOf P))) s P (vals l s.toks) { s with toks := s.toks + 2 * l.length } P
  | [], s => Goes.pure
  | q :: l, s => by
    have r := goes_pairs l (s := { s with toks := s.toks + 1 + 1 })
    have e : ({ s with toks := s.toks + 2 * (q :: l).length } : Shared) = { { s with toks := s.toks + 1 + 1 } with toks := s.toks + 1 + 1 + 2 * l.length } := by
      show ({ s with toks := _ } : Shared) = { s with toks := _ }
      rw [List.length_cons, Nat.mul_add, Nat.mul_one, Nat.add_comm (2 * l.length) 2, ← Nat.add_assoc]
    rw [e, List.length_cons, Nat.mul_add, Nat.mul_one]
    show Goes w (3 * l.length + 3) (Sem.fresh fun t => Sem.fresh fun u => Sem.at P fun _ => (holding [.int q.1 t, .str q.2 u] (evalPairs (l.map (pairOf P)))).bind fun rest => Sem.pure ((.int q.1 t, .str q.2 u) :: rest)) s P _ _ P
    refine Goes.fresh (n := 3 * l.length + 2) ?_
    refine Goes.fresh (n := 3 * l.length + 1) ?_
    refine Goes.at (n := 3 * l.length) ?_
    exact Goes.bind (m := 0) r.holding Goes.pure
theorem goes_sets : ∀ (l : List (Int × Str)) {s : Shared} {es : List DictEntry} {n t : Nat}, s.heap.get? d = some (dOb es n) → Nat.ble 11 d = true → es.length + l.length < 1000 → Rises es l →
    Goes w (10 * l.length) (forIn (m := Sem) (vals l t) PUnit.unit (fun x _ => do
        dictSet d x.1 x.2
        pure (ForInStep.yield PUnit.unit))) s P PUnit.unit (putD s d (es ++ b3Ents 2 l t) (n + l.length) (s.toks + l.length)) P
  | [], s, es, n, t, hd, h11, hz, hr => by
    have e : putD s d (es ++ b3Ents 2 [] t) (n + ([] : List (Int × Str)).length) (s.toks + ([] : List (Int × Str)).length) = s := by
      show ({ s with heap := s.heap.update d (fun _ => dOb (es ++ []) (n + 0)), toks := s.toks + 0 } : Shared) = s
      rw [List.append_nil, Nat.add_zero, Nat.add_zero, upd_get hd]
    rw [e]
    exact Goes.pure
  | q :: l, s, es, n, t, hd, h11, hz, hr => by
    obtain ⟨k, v⟩ := q
    obtain ⟨h1, h2, h3⟩ := hr
    have hz' : es.length + l.length + 1 < 1000 := by simpa [Nat.add_assoc] using hz
    have g := Goes.set (w := w) (p := P) (v := v) (t := t) (u := t + 1) hd h11 (by omega) (k := k) (fun e he => by have h1' : k = hashInt k := h1; rw [← h1']; exact Int.ne_of_lt (h2 e he))
    have h1' : k = hashInt k := h1
    rw [← h1'] at g
    have hd' : (putD s d (es ++ [⟨k, .int k t, .str v (t + 1)⟩]) (n + 1) (s.toks + 1)).heap.get? d = some (dOb (es ++ [⟨k, .int k t, .str v (t + 1)⟩]) (n + 1)) := get_upd hd
    have hl : (es ++ [(⟨k, .int k t, .str v (t + 1)⟩ : DictEntry)]).length + l.length < 1000 := by
      rw [List.length_append, List.length_singleton]; omega
    have r := goes_sets (t := t + 2) l hd' h11 hl (h3 t)
    have e1 : 10 * ((k, v) :: l).length = 10 + 10 * l.length := by rw [List.length_cons]; omega
    have e3 : vals ((k, v) :: l) t = (.int k t, .str v (t + 1)) :: vals l (t + 2) := rfl
    rw [e1, e3, List.forIn_cons]
    have e2 : putD s d (es ++ b3Ents 2 ((k, v) :: l) t) (n + ((k, v) :: l).length) (s.toks + ((k, v) :: l).length) = putD (putD s d (es ++ [⟨k, .int k t, .str v (t + 1)⟩]) (n + 1) (s.toks + 1)) d (es ++ [⟨k, .int k t, .str v (t + 1)⟩] ++ b3Ents 2 l (t + 2)) (n + 1 + l.length) (s.toks + 1 + l.length) := by
      rw [putD_putD, List.append_assoc, List.length_cons, Nat.add_comm l.length 1, ← Nat.add_assoc, ← Nat.add_assoc]
      exact congrArg (fun z => putD s d (es ++ z) _ _) rfl
    rw [e2]
    exact Goes.bind (n := 10) (Goes.bind (n := 10) (m := 0) g Goes.pure) r
theorem goes_subS (l : List (Int × Str)) (h15 : l.length ≤ 15) (hr : Rises [] l) (h11 : Nat.ble 11 s.heap.objs.size = true) :
    Goes w (3 * l.length + 10 * l.length + 1) (subDict (l.map (pairOf P))) s P s.heap.objs.size (pushD s (b3Ents 2 l s.toks) l.length (s.toks + 3 * l.length)) P := by
  have hd : ({ s with heap := s.heap.push (dOb [] 0), toks := s.toks + 2 * l.length } : Shared).heap.get? s.heap.objs.size = some (dOb [] 0) := Heap.get?_push_size _ rfl
  have g := goes_sets (w := w) (P := P) (t := s.toks) l hd h11 (by rw [List.length_nil]; omega) hr
  have e : putD { s with heap := s.heap.push (dOb [] 0), toks := s.toks + 2 * l.length } s.heap.objs.size ([] ++ b3Ents 2 l s.toks) (0 + l.length) (s.toks + 2 * l.length + l.length) = pushD s (b3Ents 2 l s.toks) l.length (s.toks + 3 * l.length) := by
    show ({ s with heap := (s.heap.push (dOb [] 0)).update s.heap.objs.size _, toks := _ } : Shared) = { s with heap := _, toks := _ }
    rw [push_upd, List.nil_append, Nat.zero_add]
    have : s.toks + 2 * l.length + l.length = s.toks + 3 * l.length := by omega
    rw [this]
  rw [e] at g
  refine Goes.alloc (n := 3 * l.length + 10 * l.length) ?_
  have hlen : (l.map (pairOf P)).length ≤ 15 := by rw [List.length_map]; omega
  simp only [Sem.bind]
  refine Goes.bind (a := ()) (n := 3 * l.length + 10 * l.length) (m := 0) (Goes.holding ?_) Goes.pure
  rw [if_pos hlen]
  refine Goes.bind (a := vals l s.toks) (n := 3 * l.length) (m := 10 * l.length) (goes_pairs l (s := { s with heap := s.heap.push (dOb [] 0) })) (Goes.holding ?_)
  exact Goes.bind (a := ()) (n := 10 * l.length) (m := 0) g Goes.pure
end
end Mine
end
section
open PySem PySem.W PySem.Calls PySem.Spec PyProof PyProof.Rows
namespace Mine
section
variable {w : World} {s : Shared} {P : Pos} {d a : Addr}
theorem goes_for {N : Nat} (f : Nat → PUnit → Sem (ForInStep PUnit)) (St : Nat → Shared) (c : Nat) (hf : ∀ i, i < N → Goes w c (f i ⟨⟩) (St i) P (.yield ⟨⟩) (St (i + 1)) P) :
    ∀ k j, j + k = N → Goes w (c * k) (forIn (m := Sem) (List.range' j k) PUnit.unit f) (St j) P PUnit.unit (St N) P
  | 0, j, e => by
    have : j = N := by omega
    subst this
    exact Goes.pure
  | k + 1, j, e => by
    have r := goes_for f St c hf k (j + 1) (by omega)
    rw [Nat.mul_add, Nat.mul_one, Nat.add_comm (c * k) c, List.range'_succ, List.forIn_cons]
    exact Goes.bind (hf j (by omega)) r
noncomputable def Fits : List DictEntry → List DictEntry → Prop
  | _, [] => True
  | es, f :: fs => (∃ k t, f.key = .int k t) ∧ (∀ e ∈ es, e.hash ≠ f.hash) ∧ Fits (es ++ [f]) fs
theorem Fits.get : ∀ (fs : List DictEntry) {es : List DictEntry}, Fits es fs → ∀ i, (hi : i < fs.length) → (∃ k t, fs[i].key = .int k t) ∧ (∀ e ∈ es ++ fs.take i, e.hash ≠ fs[i].hash)
  | f :: fs, es, h, 0, hi => ⟨h.1, by simpa using h.2.1⟩
  | f :: fs, es, h, i + 1, hi => by
    have := Fits.get fs h.2.2 i (by simpa using hi)
    simpa using this
theorem pure_is {α : Type} {x y : α} {p : Pos} (h : x = y) : Goes w 0 (Sem.pure x) s p y s p := h ▸ Goes.pure
theorem isDict {es : List DictEntry} {n : Nat} (hd : s.heap.get? a = some (dOb es n)) {p : Pos} : Goes w 1 (isInstance (.ref a) (.type "dict")) s p true s p := by
  refine Goes.load hd ?_
  have e : isSubtype (.type "dict") (.type "dict") = Sem.pure true := by kernel_rfl
  show Goes w 0 (isSubtype (.type "dict") (.type "dict")) s p true s p
  rw [e]
  exact Goes.pure
theorem iterDict {es : List DictEntry} {n : Nat} (hd : s.heap.get? a = some (dOb es n)) {p : Pos} : Goes w 1 (specialOf (.ref a) "__iter__") s p (some (.builtin "dict.__iter__")) s p := by
  refine Goes.load hd ?_
  have e : typeLookup (.type "dict") "__iter__" = Sem.pure (some (.builtin "dict.__iter__")) := by kernel_rfl
  show Goes w 0 (typeLookup (.type "dict") "__iter__") s p _ s p
  rw [e]
  exact Goes.pure
theorem put_get {o : Obj} (ha : s.heap.get? a = some o) (hne : d ≠ a) {es' : List DictEntry} {n' tk : Nat} : (putD s d es' n' tk).heap.get? a = some o :=
  (Heap.get?_update_other _ _ hne).trans ha
theorem goes_merge {es fs : List DictEntry} {n m : Nat} {p : Pos} (hd : s.heap.get? d = some (dOb es n)) (ha : s.heap.get? a = some (dOb fs m)) (hne : d ≠ a) (hsys : (a == sysModules) = false) (h11 : Nat.ble 11 d = true)
    (he : es ≠ []) (hz : es.length + fs.length < 1000) (hf : Fits es fs) :
    Goes w (6 * fs.length + 5) (mergeMapping d (.ref a) false) s p () (putD s d (es ++ fs) (n + fs.length) s.toks) p := by
  have hb : (es.toArray).isEmpty = false := by
    cases es with
    | nil => exact absurd rfl he
    | cons x r => rfl
  have eb : ((some (Value.builtin "dict.__iter__")) == some (.builtin "dict.__iter__")) = true := by kernel_rfl
  have hL : 6 * fs.length + 5 = 1 + (1 + (6 * fs.length + 3)) := by omega
  rw [hL]
  refine Goes.bind (a := true) (n := 1) (m := 1 + (6 * fs.length + 3)) (isDict ha) ?_
  refine Goes.bind (a := some (.builtin "dict.__iter__")) (n := 1) (m := 6 * fs.length + 3) (iterDict ha) ?_
  rw [eb]
  refine bind0 ?_
  dsimp only
  rw [hsys]
  refine Goes.load (n := 6 * fs.length + 2) hd ?_
  refine bind0 ?_
  (try dsimp only)
  refine bind0 ?_
  rw [hb]
  refine Goes.load (n := 6 * fs.length + 1) ha ?_
  refine bind0 ?_
  (try dsimp only)
  refine bind0 ?_
  refine Goes.load (n := 6 * fs.length) ha ?_
  refine bind0 ?_
  (try dsimp only)
  refine bind0 ?_
  rw [List.size_toArray, List.range_eq_range']
  refine Goes.bind (a := ()) (n := 6 * fs.length) (m := 0) ?_ Goes.pure
  have st0 : putD s d (es ++ fs.take 0) (n + 0) s.toks = s := by
    show ({ s with heap := s.heap.update d (fun _ => dOb (es ++ []) (n + 0)), toks := s.toks } : Shared) = s
    rw [List.append_nil, Nat.add_zero, upd_get hd]
  have stN : putD s d (es ++ fs.take fs.length) (n + fs.length) s.toks = putD s d (es ++ fs) (n + fs.length) s.toks := by
    rw [List.take_length]
  have key := fun f hf => goes_for (w := w) (P := p) (N := fs.length) f (fun i => putD s d (es ++ fs.take i) (n + i) s.toks) 6 hf fs.length 0 (by omega)
  simp only [st0, stN] at key
  refine key _ fun i hi => ?_
  have hdi : (putD s d (es ++ fs.take i) (n + i) s.toks).heap.get? d = some (dOb (es ++ fs.take i) (n + i)) := get_upd hd
  have hai : (putD s d (es ++ fs.take i) (n + i) s.toks).heap.get? a = some (dOb fs m) := put_get ha hne
  obtain ⟨⟨k, t, hk⟩, hn⟩ := Fits.get fs hf i hi
  have hget : fs.toArray[i]? = some fs[i] := by rw [List.getElem?_toArray, List.getElem?_eq_getElem hi]
  have hlen : (es ++ fs.take i).length < 1000 := by rw [List.length_append, List.length_take]; omega
  have g := Goes.put (w := w) (p := p) (s := putD s d (es ++ fs.take i) (n + i) s.toks) (k := k) (t := t) (v := fs[i].val) hdi h11 hlen hn
  have e1 : es ++ fs.take i ++ [(⟨fs[i].hash, .int k t, fs[i].val⟩ : DictEntry)] = es ++ fs.take (i + 1) := by
    have : (⟨fs[i].hash, .int k t, fs[i].val⟩ : DictEntry) = fs[i] := by rw [← hk]
    rw [this, List.append_assoc, List.take_add_one, List.getElem?_eq_getElem hi]
    rfl
  rw [putD_putD, e1] at g
  have hai' : (putD s d (es ++ fs.take (i + 1)) (n + (i + 1)) s.toks).heap.get? a = some (dOb fs m) := put_get ha hne
  refine Goes.load (n := 5) hai ?_
  refine bind0 ?_
  (try dsimp only)
  refine bind0 ?_
  rw [hget]
  (try dsimp only)
  rw [hk]
  refine Goes.bind (a := ()) (n := 4) (m := 1) (Goes.holding g) ?_
  refine Goes.load (n := 0) hai' ?_
  refine bind0 ?_
  (try dsimp only)
  refine bind0 ?_
  have em : (m != m) = false := by simp
  rw [em]
  exact Goes.pure
end
end Mine
end
section
open PySem PySem.W PySem.Calls PySem.Spec PyProof PyProof.Rows
namespace Mine
noncomputable def itemOf (P : Pos) (q : Int × Str) : Option (Sem Value) × Sem Value := (some (pairOf P q).1, (pairOf P q).2)
noncomputable def intOf? : Option Expr → Option Int
  | some (.Constant (.int k) _ _) => some k
  | _ => none
noncomputable def strOf? : Expr → Option Str
  | .Constant (.str v) _ _ => some v
  | _ => none
theorem intOf_some {o : Option Expr} {k : Int} (h : intOf? o = some k) : ∃ a b, o = some (.Constant (.int k) a b) := by
  unfold intOf? at h
  split at h
  · injection h with h
    subst h
    exact ⟨_, _, rfl⟩
  · cases h
theorem strOf_some {e : Expr} {v : Str} (h : strOf? e = some v) : ∃ a b, e = .Constant (.str v) a b := by
  unfold strOf? at h
  split at h
  · injection h with h
    subst h
    exact ⟨_, _, rfl⟩
  · cases h
noncomputable def allC : List (Option Expr) → List Expr → Bool
  | k :: ks, v :: vs => (intOf? k).isSome && (strOf? v).isSome && allC ks vs
  | [], [] => true
  | _, _ => false
theorem items_are (P : Pos) (env : Env) : ∀ (ks : List (Option Expr)) (vs : List Expr), allC ks vs = true → (evalEachOpt ks env).zip ((evalEach vs env).map fun v => (do let x ← v; standAt P; pure x : Sem Value)) = (b3Of ks vs).map (itemOf P) := by
  intro ks
  induction ks with
  | nil =>
    intro vs h
    cases vs with
    | nil => rfl
    | cons v vs => cases h
  | cons o ks ih =>
    intro vs h
    cases vs with
    | nil => cases h
    | cons e vs =>
      have h' : ((intOf? o).isSome && (strOf? e).isSome && allC ks vs) = true := h
      rw [Bool.and_eq_true, Bool.and_eq_true] at h'
      obtain ⟨⟨h1, h2⟩, h3⟩ := h'
      obtain ⟨k, hk⟩ := Option.isSome_iff_exists.mp h1
      obtain ⟨v, hv⟩ := Option.isSome_iff_exists.mp h2
      obtain ⟨a, b, rfl⟩ := intOf_some hk
      obtain ⟨c, d, rfl⟩ := strOf_some hv
      show (_, _) :: (evalEachOpt ks env).zip ((evalEach vs env).map _) = itemOf P (k, v) :: (b3Of ks vs).map (itemOf P)
      rw [ih vs h3]
      rfl
-- the keys
noncomputable def sortedFrom : Int → List (Int × Str) → Bool
  | _, [] => true
  | lo, q :: l => decide (lo < q.1) && (q.1 == hashInt q.1) && sortedFrom q.1 l
theorem sorted_lt : ∀ {l : List (Int × Str)} {lo : Int}, sortedFrom lo l = true → ∀ q ∈ l, lo < q.1
  | p :: l, lo, h, q, hq => by
    simp only [sortedFrom, Bool.and_eq_true, decide_eq_true_eq] at h
    rcases List.mem_cons.mp hq with rfl | hq
    · exact h.1.1
    · exact Int.lt_trans h.1.1 (sorted_lt h.2 q hq)
theorem sorted_mono : ∀ {l : List (Int × Str)} {lo lo' : Int}, lo' ≤ lo → sortedFrom lo l = true → sortedFrom lo' l = true
  | [], _, _, _, _ => rfl
  | p :: l, lo, lo', hl, h => by
    simp only [sortedFrom, Bool.and_eq_true, decide_eq_true_eq] at h ⊢
    exact ⟨⟨Int.lt_of_le_of_lt hl h.1.1, h.1.2⟩, h.2⟩
theorem sorted_take : ∀ {l : List (Int × Str)} {lo : Int} (k : Nat), sortedFrom lo l = true → sortedFrom lo (l.take k) = true
  | _, _, 0, _ => rfl
  | [], _, _ + 1, _ => rfl
  | p :: l, lo, k + 1, h => by
    simp only [sortedFrom, List.take_succ_cons, Bool.and_eq_true] at h ⊢
    exact ⟨h.1, sorted_take k h.2⟩
theorem sorted_drop : ∀ {l : List (Int × Str)} {lo : Int} (k : Nat), sortedFrom lo l = true → sortedFrom lo (l.drop k) = true
  | _, _, 0, h => h
  | [], _, _ + 1, _ => rfl
  | p :: l, lo, k + 1, h => by
    simp only [sortedFrom, Bool.and_eq_true, decide_eq_true_eq] at h
    exact sorted_mono (Int.le_of_lt h.1.1) (sorted_drop k h.2)
/-- all that stands in es comes ahead of the list -/
noncomputable def Ahead (es : List DictEntry) (l : List (Int × Str)) : Prop := ∀ e ∈ es, ∀ q ∈ l, e.hash < q.1
theorem rises_of : ∀ {l : List (Int × Str)} {lo : Int} {es : List DictEntry}, sortedFrom lo l = true → Ahead es l → Rises es l
  | [], _, _, _, _ => trivial
  | q :: l, lo, es, h, ha => by
    simp only [sortedFrom, Bool.and_eq_true, decide_eq_true_eq, beq_iff_eq] at h
    refine ⟨h.1.2, fun e he => ha e he q (.head _), fun t => rises_of h.2 fun e he p hp => ?_⟩
    rcases List.mem_append.mp he with he | he
    · exact ha e he p (.tail _ hp)
    · rw [List.mem_singleton.mp he]
      exact sorted_lt h.2 p hp
theorem fits_of (d : Nat) : ∀ {l : List (Int × Str)} {lo : Int} {es : List DictEntry} {t : Nat}, sortedFrom lo l = true → Ahead es l → Fits es (b3Ents d l t)
  | [], _, _, _, _, _ => trivial
  | q :: l, lo, es, t, h, ha => by
    simp only [sortedFrom, Bool.and_eq_true, decide_eq_true_eq, beq_iff_eq] at h
    refine ⟨⟨q.1, t, rfl⟩, fun e he => Int.ne_of_lt (ha e he q (.head _)), fits_of d h.2 fun e he p hp => ?_⟩
    rcases List.mem_append.mp he with he | he
    · exact ha e he p (.tail _ hp)
    · rw [List.mem_singleton.mp he]
      exact sorted_lt h.2 p hp
theorem ents_mem (d : Nat) : ∀ {l : List (Int × Str)} {t : Nat} {e : DictEntry}, e ∈ b3Ents d l t → ∃ q ∈ l, e.hash = q.1 := by
  intro l
  induction l with
  | nil => intro t e h; exact absurd h List.not_mem_nil
  | cons q l ih =>
    intro t e h
    rcases List.mem_cons.mp h with rfl | h
    · exact ⟨q, .head _, rfl⟩
    · obtain ⟨p, hp, hq⟩ := ih h
      exact ⟨p, .tail _ hp, hq⟩
theorem ents_len (d : Nat) : ∀ {l : List (Int × Str)} {t : Nat}, (b3Ents d l t).length = l.length
  | [], _ => rfl
  | _ :: _, _ => congrArg (· + 1) (ents_len d)
theorem ents_app (d : Nat) : ∀ {a b : List (Int × Str)} {t : Nat}, b3Ents d (a ++ b) t = b3Ents d a t ++ b3Ents d b (t + d * a.length)
  | [], b, t => rfl
  | q :: a, b, t => by
    show _ :: b3Ents d (a ++ b) (t + d) = _ :: (b3Ents d a (t + d) ++ b3Ents d b (t + d * (a.length + 1)))
    rw [ents_app d, Nat.mul_add, Nat.mul_one, Nat.add_comm (d * a.length) d, Nat.add_assoc]
theorem sorted_app : ∀ {a b : List (Int × Str)} {lo : Int}, sortedFrom lo (a ++ b) = true → ∀ p ∈ a, ∀ q ∈ b, p.1 < q.1
  | x :: a, b, lo, h, p, hp, q, hq => by
    simp only [List.cons_append, sortedFrom, Bool.and_eq_true, decide_eq_true_eq] at h
    rcases List.mem_cons.mp hp with rfl | hp
    · exact sorted_lt h.2 q (List.mem_append_right _ hq)
    · exact sorted_app h.2 p hp q hq
theorem ahead_step (d : Nat) {es : List DictEntry} {a b : List (Int × Str)} {t : Nat} {lo : Int} (h : sortedFrom lo (a ++ b) = true) (ha : Ahead es (a ++ b)) : Ahead (es ++ b3Ents d a t) b := by
  intro e he q hq
  rcases List.mem_append.mp he with he | he
  · exact ha e he q (List.mem_append_right _ hq)
  · obtain ⟨p, hp, e1⟩ := ents_mem d he
    rw [e1]
    exact sorted_app h p hp q hq
-- the heap of the display
theorem folds_size : ∀ (subs : List Obj) (h : Heap), (subs.foldl Heap.push h).objs.size = h.objs.size + subs.length
  | [], h => rfl
  | o :: subs, h => by
    rw [List.foldl_cons, folds_size subs, List.length_cons]
    obtain ⟨objs, l⟩ := h
    show (objs.push o).size + _ = objs.size + _
    rw [Array.size_push]; omega
theorem folds_get : ∀ (subs : List Obj) (h : Heap) {a : Addr} {o : Obj}, h.get? a = some o → (subs.foldl Heap.push h).get? a = some o
  | [], h, _, _, e => e
  | x :: subs, h, _, _, e => folds_get subs (h.push x) (Heap.get?_push_of_some x e)
theorem push_update_lt {h : Heap} {a : Addr} {x o : Obj} (ha : a < h.objs.size) : (h.push x).update a (fun _ => o) = (h.update a fun _ => o).push x := by
  obtain ⟨objs, l⟩ := h
  have ha' : a < objs.size := ha
  show Heap.mk _ _ = Heap.mk _ _
  congr 1
  apply Array.ext_getElem?
  intro i
  rw [Array.getElem?_modify, Array.getElem?_push, Array.getElem?_push, Array.getElem?_modify, Array.size_modify]
  by_cases q : a = i
  · subst q
    have : ¬ a = objs.size := Nat.ne_of_lt ha'
    simp [this]
  · simp [q]
theorem folds_upd : ∀ (subs : List Obj) (h : Heap) {a : Addr} {o : Obj}, a < h.objs.size → (subs.foldl Heap.push h).update a (fun _ => o) = subs.foldl Heap.push (h.update a fun _ => o)
  | [], h, _, _, _ => rfl
  | x :: subs, h, a, o, ha => by
    have hx : a < (h.push x).objs.size := by rw [Heap.size_push]; exact Nat.lt_succ_of_lt ha
    rw [List.foldl_cons, folds_upd subs (h.push x) hx, push_update_lt ha]
    rfl
/-- the state amid the display: the main dict, the dicts of the parts -/
noncomputable def SS (s₀ : Shared) (es : List DictEntry) (n : Nat) (subs : List Obj) (tk : Nat) : Shared := { s₀ with heap := subs.foldl Heap.push (s₀.heap.push (dOb es n)), toks := tk }
theorem SS.size {s₀ : Shared} {es : List DictEntry} {n : Nat} {subs : List Obj} {tk : Nat} : (SS s₀ es n subs tk).heap.objs.size = s₀.heap.objs.size + 1 + subs.length := by
  show (subs.foldl Heap.push _).objs.size = _
  rw [folds_size, Heap.size_push]
theorem SS.get {s₀ : Shared} {es : List DictEntry} {n : Nat} {subs : List Obj} {tk : Nat} : (SS s₀ es n subs tk).heap.get? s₀.heap.objs.size = some (dOb es n) :=
  folds_get _ _ (Heap.get?_push_size _ rfl)
theorem SS.push {s₀ : Shared} {es fs : List DictEntry} {n m : Nat} {subs : List Obj} {tk tk' : Nat} : pushD (SS s₀ es n subs tk) fs m tk' = SS s₀ es n (subs ++ [dOb fs m]) tk' := by
  unfold SS
  rw [List.foldl_append]
  rfl
theorem SS.put {s₀ : Shared} {es fs : List DictEntry} {n m : Nat} {subs : List Obj} {tk tk' : Nat} : putD (SS s₀ es n subs tk) s₀.heap.objs.size fs m tk' = SS s₀ fs m subs tk' := by
  show ({ s₀ with heap := (subs.foldl Heap.push (s₀.heap.push (dOb es n))).update s₀.heap.objs.size (fun _ => dOb fs m), toks := tk' } : Shared) = _
  rw [folds_upd _ _ (by rw [Heap.size_push]; exact Nat.lt_succ_self _), push_upd]
  rfl
end Mine
end
section
open PySem PySem.W PySem.Calls PySem.Spec PyProof PyProof.Rows
namespace Mine
section
variable {w : World} {s : Shared} {P : Pos}
/-- a part of the display is laid aside and put into the main dict -/
structure Laid (w : World) (P : Pos) (d : Addr) (r : List (Sem Value × Sem Value)) (s s' : Shared) (n : Nat) : Prop where
  laid : ∃ (a : Addr) (s₁ : Shared) (n₁ n₂ : Nat), n = n₁ + n₂ ∧ Goes w n₁ (subDict r) s P a s₁ P ∧ Goes w n₂ (mergeMapping d (.ref a) false) s₁ P () s' P
noncomputable def Parts (w : World) (P : Pos) (f : Option (Sem Value) × Sem Value → Option Addr × List (Sem Value × Sem Value) → Sem (ForInStep (Option Addr × List (Sem Value × Sem Value)))) : Prop :=
  (∀ q m r, (r ++ [pairOf P q]).length ≠ 17 → f (itemOf P q) (m, r) = Sem.pure (.yield (m, r ++ [pairOf P q]))) ∧
  (∀ q (d : Addr) r s s' n, (r ++ [pairOf P q]).length = 17 → Laid w P d (r ++ [pairOf P q]) s s' n → Goes w n (f (itemOf P q) (some d, r)) s P (.yield (some d, [])) s' P) ∧
  (∀ q (d : Addr) r s s' n, (r ++ [pairOf P q]).length = 17 → Goes w n (subDict (r ++ [pairOf P q])) s P d s' P → Goes w n (f (itemOf P q) (none, r)) s P (.yield (some d, [])) s' P)
/-- the run of a display -/
noncomputable def DispRun (w : World) (P : Pos) (l : List (Int × Str)) (s : Shared) (r : Value) (s' : Shared) (n : Nat) : Prop :=
  ∀ f, Parts w P f → ∃ m d rr s₁ k, n = m + k ∧ Goes w m (forIn (m := Sem) (l.map (itemOf P)) (none, []) f) s P (some d, rr) s₁ P ∧ rr ≠ [] ∧ r = .ref d ∧ Laid w P d rr s₁ s' k
theorem via {l : List (Int × Str)} {r : Value} {s' : Shared} {n : Nat} {f : Option (Sem Value) × Sem Value → Option Addr × List (Sem Value × Sem Value) → Sem (ForInStep (Option Addr × List (Sem Value × Sem Value)))} {K : Option Addr × List (Sem Value × Sem Value) → Sem Value}
    (hf : Parts w P f) (hK : ∀ (d : Addr) rr s₁ s' k, rr ≠ [] → Laid w P d rr s₁ s' k → Goes w k (K (some d, rr)) s₁ P (.ref d) s' P)
    (h : DispRun w P l s r s' n) : Goes w n (Sem.bind (forIn (m := Sem) (l.map (itemOf P)) (none, []) f) K) s P r s' P := by
  obtain ⟨m, d, rr, s₁, k, rfl, g1, hr, rfl, g2⟩ := h f hf
  exact Goes.bind g1 (hK d rr s₁ s' k hr g2)
theorem not_empty {α : Type} {r : List α} (h : r ≠ []) : r.isEmpty = false := by
  cases r with
  | nil => exact absurd rfl h
  | cons _ _ => rfl
theorem disp {l : List (Int × Str)} {r : Value} {s' : Shared} {n : Nat} (h : DispRun w P l s r s' n) : Goes w n (dictDisplay (l.map (itemOf P))) s P r s' P := by
  unfold dictDisplay
  dsimp only
  refine via ?_ ?_ h
  · refine ⟨fun q m r hn => ?_, fun q d r s s' n hn g => ?_, fun q d r s s' n hn g => ?_⟩
    · have e : ((r ++ [pairOf P q]).length == 17) = false := by simpa using hn
      show (if ((r ++ [pairOf P q]).length == 17) = true then _ else _) = _
      rw [e]
      rfl
    · have e : ((r ++ [pairOf P q]).length == 17) = true := by simpa using hn
      show Goes w n (if ((r ++ [pairOf P q]).length == 17) = true then _ else _) _ _ _ _ _
      rw [e]
      have e2 : (r ++ [pairOf P q]).isEmpty = false := not_empty (by simp)
      refine Goes.bind (a := some d) (n := n) (m := 0) ?_ Goes.pure
      show Goes w n (if (r ++ [pairOf P q]).isEmpty = true then _ else _) _ _ _ _ _
      rw [e2]
      obtain ⟨a, s₁, n₁, n₂, rfl, g1, g2⟩ := g.laid
      exact Goes.bind (n := n₁) (m := n₂) g1.holding (Goes.bind (a := ()) (n := n₂) (m := 0) g2.holding.onRaise Goes.pure)
    · have e : ((r ++ [pairOf P q]).length == 17) = true := by simpa using hn
      show Goes w n (if ((r ++ [pairOf P q]).length == 17) = true then _ else _) _ _ _ _ _
      rw [e]
      have e2 : (r ++ [pairOf P q]).isEmpty = false := not_empty (by simp)
      refine Goes.bind (a := some d) (n := n) (m := 0) ?_ Goes.pure
      show Goes w n (if (r ++ [pairOf P q]).isEmpty = true then _ else _) _ _ _ _ _
      rw [e2]
      exact Goes.bind (n := n) (m := 0) g Goes.pure
  · intro d rr s₁ s' k hr g
    have e2 : rr.isEmpty = false := not_empty hr
    refine Goes.bind (a := some d) (n := k) (m := 0) ?_ Goes.pure
    show Goes w k (if rr.isEmpty = true then _ else _) _ _ _ _ _
    rw [e2]
    obtain ⟨a, s₁', n₁, n₂, rfl, g1, g2⟩ := g.laid
    exact Goes.bind (n := n₁) (m := n₂) g1.holding (Goes.bind (a := ()) (n := n₂) (m := 0) g2.holding.onRaise Goes.pure)
/-- the items up to a full part -/
theorem fill {f : Option (Sem Value) × Sem Value → Option Addr × List (Sem Value × Sem Value) → Sem (ForInStep (Option Addr × List (Sem Value × Sem Value)))} (hf : Parts w P f) {m : Option Addr} {L : List (Option (Sem Value) × Sem Value)} {b : Option Addr × List (Sem Value × Sem Value)} {s' : Shared} {n : Nat} :
    ∀ (c : List (Int × Str)) (r : List (Sem Value × Sem Value)), r.length + c.length < 17 → Goes w n (forIn (m := Sem) L (m, r ++ c.map (pairOf P)) f) s P b s' P → Goes w n (forIn (m := Sem) (c.map (itemOf P) ++ L) (m, r) f) s P b s' P
  | [], r, _, g => by simpa using g
  | q :: c, r, hl, g => by
    rw [List.map_cons, List.cons_append, List.forIn_cons, hf.1 q m r (by rw [List.length_append]; simp at hl ⊢; omega)]
    refine bind0 ?_
    refine fill hf c (r ++ [pairOf P q]) (by rw [List.length_append]; simp at hl ⊢; omega) ?_
    rw [List.append_assoc]
    exact g
end
end Mine
end
section
open PySem PySem.W PySem.Calls PySem.Spec PyProof PyProof.Rows
namespace Mine
section
variable {w : World} {s : Shared} {P : Pos}
noncomputable abbrev StepF := Option (Sem Value) × Sem Value → Option Addr × List (Sem Value × Sem Value) → Sem (ForInStep (Option Addr × List (Sem Value × Sem Value)))
theorem last_of {α : Type} {c : List α} (h : c.length = 17) : ∃ a q, c = a ++ [q] ∧ a.length = 16 := by
  refine ⟨c.take 16, c[16], ?_, by rw [List.length_take]; omega⟩
  have : c = c.take 16 ++ c.drop 16 := (List.take_append_drop 16 c).symm
  have e : c.drop 16 = [c[16]] := by
    rw [List.drop_eq_getElem_cons (by omega), List.drop_of_length_le (by omega)]
  rw [e] at this
  exact this
theorem part_some {f : StepF} (hf : Parts w P f) {c L : List (Int × Str)} (hc : c.length = 17) {d : Addr} {b : Option Addr × List (Sem Value × Sem Value)} {s₁ s' : Shared} {n₁ n₂ : Nat}
    (g1 : Laid w P d (c.map (pairOf P)) s s₁ n₁) (g2 : Goes w n₂ (forIn (m := Sem) (L.map (itemOf P)) (some d, []) f) s₁ P b s' P) :
    Goes w (n₁ + n₂) (forIn (m := Sem) ((c ++ L).map (itemOf P)) (some d, []) f) s P b s' P := by
  obtain ⟨a, q, rfl, ha⟩ := last_of hc
  rw [List.append_assoc, List.map_append]
  refine fill hf a [] (by rw [List.length_nil]; omega) ?_
  rw [List.nil_append, List.cons_append, List.nil_append, List.map_cons, List.forIn_cons]
  rw [List.map_append] at g1
  exact Goes.bind (hf.2.1 q d (a.map (pairOf P)) s s₁ n₁ (by rw [List.length_append, List.length_map]; simp; omega) g1) g2
theorem part_none {f : StepF} (hf : Parts w P f) {c L : List (Int × Str)} (hc : c.length = 17) {d : Addr} {b : Option Addr × List (Sem Value × Sem Value)} {s₁ s' : Shared} {n₁ n₂ : Nat}
    (g1 : Goes w n₁ (subDict (c.map (pairOf P))) s P d s₁ P) (g2 : Goes w n₂ (forIn (m := Sem) (L.map (itemOf P)) (some d, []) f) s₁ P b s' P) :
    Goes w (n₁ + n₂) (forIn (m := Sem) ((c ++ L).map (itemOf P)) (none, []) f) s P b s' P := by
  obtain ⟨a, q, rfl, ha⟩ := last_of hc
  rw [List.append_assoc, List.map_append]
  refine fill hf a [] (by rw [List.length_nil]; omega) ?_
  rw [List.nil_append, List.cons_append, List.nil_append, List.map_cons, List.forIn_cons]
  rw [List.map_append] at g1
  exact Goes.bind (hf.2.2 q d (a.map (pairOf P)) s s₁ n₁ (by rw [List.length_append, List.length_map]; simp; omega) g1) g2
/-- one part of 17 -/
theorem laid17 {s₀ : Shared} {es : List DictEntry} {n : Nat} {subs : List Obj} {t : Nat} {c : List (Int × Str)} (hc : c.length = 17) {lo : Int} (hs : sortedFrom lo c = true) (ha : Ahead es c) (he : es ≠ []) (hz : es.length < 900) (h11 : 11 ≤ s₀.heap.objs.size) :
    Laid w P s₀.heap.objs.size (c.map (pairOf P)) (SS s₀ es n subs t) (SS s₀ (es ++ b3Ents 3 c t) (n + 17) (subs ++ [dOb (b3Ents 3 c t) 17]) (t + 51)) 330 := by
  have hsz := SS.size (s₀ := s₀) (es := es) (n := n) (subs := subs) (tk := t)
  have hne : s₀.heap.objs.size ≠ (SS s₀ es n subs t).heap.objs.size := by rw [hsz]; omega
  have hsys : ((SS s₀ es n subs t).heap.objs.size == sysModules) = false := by
    have : sysModules = 1 := by decide +kernel
    rw [this, hsz]
    exact beq_false_of_ne (by omega)
  have g1 := goes_sub (w := w) (P := P) (s := SS s₀ es n subs t) c (by omega) (by omega) (rises_of hs (fun e he => nomatch he)) (Nat.ble_eq_true_of_le (by rw [hsz]; omega))
  rw [hc, SS.push] at g1
  have hl : (b3Ents 3 c t).length = 17 := by rw [ents_len, hc]
  have ha' : (SS s₀ es n (subs ++ [dOb (b3Ents 3 c t) 17]) (t + 51)).heap.get? (SS s₀ es n subs t).heap.objs.size = some (dOb (b3Ents 3 c t) 17) := by
    show (List.foldl Heap.push _ (subs ++ [dOb (b3Ents 3 c t) 17])).get? _ = _
    rw [List.foldl_append]
    exact Heap.get?_push_size _ rfl
  have g2 := goes_merge (w := w) (p := P) (s := SS s₀ es n (subs ++ [dOb (b3Ents 3 c t) 17]) (t + 51)) SS.get ha' hne hsys (Nat.ble_eq_true_of_le h11) he (by rw [hl]; omega) (fits_of 3 hs ha)
  rw [hl, SS.put] at g2
  exact ⟨_, _, 223, 107, rfl, g1, g2⟩
theorem parts_go {f : StepF} (hf : Parts w P f) {s₀ : Shared} (h11 : 11 ≤ s₀.heap.objs.size) : ∀ (k : Nat) {l : List (Int × Str)} {lo : Int} {es : List DictEntry} {n : Nat} {subs : List Obj} {t : Nat}, 17 * k ≤ l.length → l.length < 17 * k + 17 → sortedFrom lo l = true → Ahead es l → es ≠ [] → es.length + l.length < 900 →
    Goes w (330 * k) (forIn (m := Sem) (l.map (itemOf P)) (some s₀.heap.objs.size, []) f) (SS s₀ es n subs t) P (some s₀.heap.objs.size, (l.drop (17 * k)).map (pairOf P))
      (SS s₀ (es ++ b3Ents 3 (l.take (17 * k)) t) (n + 17 * k) (subs ++ subsOf k l t) (t + 51 * k)) P
  | 0, l, lo, es, n, subs, t, h1, h2, hs, ha, he, hz => by
    have e : SS s₀ (es ++ b3Ents 3 (l.take (17 * 0)) t) (n + 17 * 0) (subs ++ subsOf 0 l t) (t + 51 * 0) = SS s₀ es n subs t := by
      show SS s₀ (es ++ []) (n + 0) (subs ++ []) (t + 0) = _
      rw [List.append_nil, List.append_nil, Nat.add_zero, Nat.add_zero]
    rw [e]
    have g := fill (s := SS s₀ es n subs t) hf (m := some s₀.heap.objs.size) (L := []) (b := (some s₀.heap.objs.size, l.map (pairOf P))) (s' := SS s₀ es n subs t) (n := 0) l [] (by rw [List.length_nil]; omega) Goes.pure
    rw [List.append_nil] at g
    exact g
  | k + 1, l, lo, es, n, subs, t, h1, h2, hs, ha, he, hz => by
    have hc : (l.take 17).length = 17 := by rw [List.length_take]; omega
    have hld : (l.drop 17).length = l.length - 17 := List.length_drop
    have hl : l = l.take 17 ++ l.drop 17 := (List.take_append_drop 17 l).symm
    have hs' : sortedFrom lo (l.take 17 ++ l.drop 17) = true := hl ▸ hs
    have ha' : Ahead es (l.take 17 ++ l.drop 17) := hl ▸ ha
    have g1 := laid17 (w := w) (P := P) (s₀ := s₀) (n := n) (subs := subs) (t := t) hc (sorted_take 17 hs) (fun e he q hq => ha e he q (List.mem_of_mem_take hq)) he (by omega) h11
    have hlen : (es ++ b3Ents 3 (l.take 17) t).length = es.length + 17 := by rw [List.length_append, ents_len, hc]
    have g2 := parts_go hf h11 k (l := l.drop 17) (lo := lo) (es := es ++ b3Ents 3 (l.take 17) t) (n := n + 17) (subs := subs ++ [dOb (b3Ents 3 (l.take 17) t) 17]) (t := t + 51) (by omega) (by omega) (sorted_drop 17 hs) (ahead_step 3 hs' ha') (by intro h; rw [List.append_eq_nil_iff] at h; exact he h.1) (by rw [hlen]; omega)
    have e1 : (l.drop 17).drop (17 * k) = l.drop (17 * (k + 1)) := by rw [List.drop_drop, Nat.mul_add, Nat.mul_one, Nat.add_comm]
    have e2 : es ++ b3Ents 3 (l.take (17 * (k + 1))) t = es ++ b3Ents 3 (l.take 17) t ++ b3Ents 3 ((l.drop 17).take (17 * k)) (t + 51) := by
      rw [List.append_assoc]
      have : l.take (17 * (k + 1)) = l.take 17 ++ (l.drop 17).take (17 * k) := by
        rw [Nat.mul_add, Nat.mul_one, Nat.add_comm, List.take_add]
      rw [this, ents_app, hc]
    have e3 : SS s₀ (es ++ b3Ents 3 (l.take (17 * (k + 1))) t) (n + 17 * (k + 1)) (subs ++ subsOf (k + 1) l t) (t + 51 * (k + 1)) =
        SS s₀ (es ++ b3Ents 3 (l.take 17) t ++ b3Ents 3 ((l.drop 17).take (17 * k)) (t + 51)) (n + 17 + 17 * k) (subs ++ [dOb (b3Ents 3 (l.take 17) t) 17] ++ subsOf k (l.drop 17) (t + 51)) (t + 51 + 51 * k) := by
      rw [e2, List.append_assoc subs]
      rw [show n + 17 * (k + 1) = n + 17 + 17 * k by omega, show t + 51 * (k + 1) = t + 51 + 51 * k by omega]
      rfl
    rw [e3, show 330 * (k + 1) = 330 + 330 * k by omega, ← e1]
    have g := part_some hf hc g1 g2
    rw [← hl] at g
    exact g
end
end Mine
end
section
open PySem PySem.W PySem.Calls PySem.Spec PyProof PyProof.Rows
namespace Mine
section
variable {w : World} {s : Shared} {P : Pos}
theorem laidS {s₀ : Shared} {es : List DictEntry} {n : Nat} {subs : List Obj} {t : Nat} {c : List (Int × Str)} (hc : c.length ≤ 15) {lo : Int} (hs : sortedFrom lo c = true) (ha : Ahead es c) (he : es ≠ []) (hz : es.length < 900) (h11 : 11 ≤ s₀.heap.objs.size) :
    Laid w P s₀.heap.objs.size (c.map (pairOf P)) (SS s₀ es n subs t) (SS s₀ (es ++ b3Ents 2 c t) (n + c.length) (subs ++ [dOb (b3Ents 2 c t) c.length]) (t + 3 * c.length)) (3 * c.length + 10 * c.length + 1 + (6 * c.length + 5)) := by
  have hsz := SS.size (s₀ := s₀) (es := es) (n := n) (subs := subs) (tk := t)
  have hne : s₀.heap.objs.size ≠ (SS s₀ es n subs t).heap.objs.size := by rw [hsz]; omega
  have hsys : ((SS s₀ es n subs t).heap.objs.size == sysModules) = false := by
    have : sysModules = 1 := by decide +kernel
    rw [this, hsz]
    exact beq_false_of_ne (by omega)
  have g1 := goes_subS (w := w) (P := P) (s := SS s₀ es n subs t) c hc (rises_of hs (fun e he => nomatch he)) (Nat.ble_eq_true_of_le (by rw [hsz]; omega))
  rw [SS.push] at g1
  have hl : (b3Ents 2 c t).length = c.length := ents_len 2
  have ha' : (SS s₀ es n (subs ++ [dOb (b3Ents 2 c t) c.length]) (t + 3 * c.length)).heap.get? (SS s₀ es n subs t).heap.objs.size = some (dOb (b3Ents 2 c t) c.length) := by
    show (List.foldl Heap.push _ (subs ++ [dOb (b3Ents 2 c t) c.length])).get? _ = _
    rw [List.foldl_append]
    exact Heap.get?_push_size _ rfl
  have g2 := goes_merge (w := w) (p := P) (s := SS s₀ es n (subs ++ [dOb (b3Ents 2 c t) c.length]) (t + 3 * c.length)) SS.get ha' hne hsys (Nat.ble_eq_true_of_le h11) he (by rw [hl]; omega) (fits_of 2 hs ha)
  rw [hl, SS.put] at g2
  exact ⟨_, _, _, _, rfl, g1, g2⟩
theorem b3_len : b3Pairs.length = 650 := by decide +kernel
theorem b3_sorted : sortedFrom 0 b3Pairs = true := by decide +kernel
theorem b3_display {s₀ : Shared} (h11 : 11 ≤ s₀.heap.objs.size) (ht : s₀.toks = 300) :
    Goes w 12515 (dictDisplay (b3Pairs.map (itemOf P))) s₀ P (.ref s₀.heap.objs.size) (SS s₀ (b3Ents 3 (b3Pairs.take 646) 300 ++ b3Ents 2 (b3Pairs.drop 646) 2238) 650 subsAll 2250) P := by
  refine disp fun f hf => ?_
  have hl := b3_len
  have hs := b3_sorted
  have hs17 : sortedFrom 0 (b3Pairs.take 17 ++ b3Pairs.drop 17) = true := by rw [List.take_append_drop]; exact hs
  have hs646 : sortedFrom 0 (b3Pairs.take 646 ++ b3Pairs.drop 646) = true := by rw [List.take_append_drop]; exact hs
  have hc : (b3Pairs.take 17).length = 17 := by rw [List.length_take, hl]; rfl
  have hd : (b3Pairs.drop 17).length = 633 := by rw [List.length_drop, hl]
  have hd6 : (b3Pairs.drop 646).length = 4 := by rw [List.length_drop, hl]
  -- the first part
  have g1 := goes_sub (w := w) (P := P) (s := s₀) (b3Pairs.take 17) (by omega) (by omega) (rises_of (sorted_take 17 hs) (fun e he => nomatch he)) (Nat.ble_eq_true_of_le h11)
  rw [hc, ht] at g1
  have e1 : pushD s₀ (b3Ents 3 (b3Pairs.take 17) 300) 17 (300 + 3 * 17) = SS s₀ (b3Ents 3 (b3Pairs.take 17) 300) 17 [] 351 := rfl
  rw [e1] at g1
  have he : b3Ents 3 (b3Pairs.take 17) 300 ≠ [] := by
    intro h
    have := ents_len 3 (l := b3Pairs.take 17) (t := 300)
    rw [h, hc] at this
    cases this
  have ha : Ahead (b3Ents 3 (b3Pairs.take 17) 300) (b3Pairs.drop 17) := by
    have := ahead_step 3 (es := []) (t := 300) hs17 (fun e he => nomatch he)
    rwa [List.nil_append] at this
  have g2 := parts_go (w := w) (P := P) hf (s₀ := s₀) h11 37 (l := b3Pairs.drop 17) (lo := 0) (es := b3Ents 3 (b3Pairs.take 17) 300) (n := 17) (subs := []) (t := 351) (by omega) (by omega) (sorted_drop 17 hs) ha he (by rw [ents_len, hc]; omega)
  have e2 : b3Ents 3 (b3Pairs.take 17) 300 ++ b3Ents 3 ((b3Pairs.drop 17).take (17 * 37)) 351 = b3Ents 3 (b3Pairs.take 646) 300 := by
    have : b3Pairs.take 646 = b3Pairs.take 17 ++ (b3Pairs.drop 17).take (17 * 37) := by
      rw [show 646 = 17 + 17 * 37 by omega, List.take_add]
    rw [this, ents_app, hc]
  rw [e2, List.nil_append, List.drop_drop] at g2
  have hne : b3Ents 3 (b3Pairs.take 646) 300 ≠ [] := by rw [← e2]; intro h; rw [List.append_eq_nil_iff] at h; exact he h.1
  have hlen : (b3Ents 3 (b3Pairs.take 646) 300).length = 646 := by rw [ents_len, List.length_take, hl]; rfl
  have ha6 : Ahead (b3Ents 3 (b3Pairs.take 646) 300) (b3Pairs.drop 646) := by
    have := ahead_step 3 (es := []) (t := 300) hs646 (fun e he => nomatch he)
    rwa [List.nil_append] at this
  have g3 := laidS (w := w) (P := P) (s₀ := s₀) (es := b3Ents 3 (b3Pairs.take 646) 300) (n := 17 + 17 * 37) (subs := subsOf 37 (b3Pairs.drop 17) 351) (t := 351 + 51 * 37) (c := b3Pairs.drop 646) (by omega) (sorted_drop 646 hs) ha6 hne (by omega) h11
  rw [hd6] at g3
  have g := part_none (s := s₀) hf (c := b3Pairs.take 17) (L := b3Pairs.drop 17) hc g1 g2
  rw [List.take_append_drop] at g
  refine ⟨_, _, _, _, _, ?_, g, ?_, rfl, g3⟩
  · rfl
  · intro h
    have : ((b3Pairs.drop (17 + 17 * 37)).map (pairOf P)).length = 4 := by rw [List.length_map]; exact hd6
    rw [h] at this
    cases this
end
end Mine
end
section
open PySem PySem.W PySem.Calls PySem.Spec PyProof PyProof.Rows
namespace Mine
noncomputable def cut9 : List Expr × List (Option Expr) × List Expr × Pos × Pos := match stmtAt 9 with
  | [.Assign ts (.Dict ks vs pd) pa] => (ts, ks, vs, pd, pa)
  | _ => ([], [], [], default, default)
noncomputable def ts9 : List Expr := cut9.1
noncomputable def ks9 : List (Option Expr) := cut9.2.1
noncomputable def vs9 : List Expr := cut9.2.2.1
noncomputable def pd9 : Pos := cut9.2.2.2.1
noncomputable def pa9 : Pos := cut9.2.2.2.2
theorem stmt9 : stmtAt 9 = [.Assign ts9 (.Dict ks9 vs9 pd9) pa9] := by kernel_rfl
theorem all9 : allC ks9 vs9 = true := by kernel_rfl
theorem of9 : b3Of ks9 vs9 = b3Pairs := by kernel_rfl
theorem swaps9 : swapsWithSole ts9 (.Dict ks9 vs9 pd9) pa9.line envE = Sem.pure false := by kernel_rfl
/-- what is done with the display's value -/
noncomputable def k9 (v : Value) : Sem Flow := (swappedStores ts9 (.Dict ks9 vs9 pd9) envE).bind fun sw => assignStores envE v sw ((assignEach ts9 envE).map (·.2))
theorem exec9 : exec (.Assign ts9 (.Dict ks9 vs9 pd9) pa9) envE = (Sem.at pa9 fun _ => Sem.at pd9 fun _ => dictDisplay (b3Pairs.map (itemOf pd9))).bind k9 := by
  rw [arm_exec_Assign, swaps9, arm_eval_Dict, items_are pd9 envE ks9 vs9 all9, of9]
  rfl
noncomputable def hl9b (P : Params) : List Obj := hl9 P ++ (b3Ob :: subsAll)
noncomputable def st9b (w : World) (os : OsState) : SharedT := ⟨mkT (hl9b w.params), 100, {}, #[], {}, 2250, os⟩
theorem abs9 (w : World) (os : OsState) : SS (st9 w os).abs (b3Ents 3 (b3Pairs.take 646) 300 ++ b3Ents 2 (b3Pairs.drop 646) 2238) 650 subsAll 2250 = (st9b w os).abs := by
  kernel_rfl
end Mine
end
section
open PySem PySem.W PySem.Calls PySem.Spec PyProof PyProof.Rows
namespace Mine
/-- a piece of the top, over the plain heap -/
noncomputable def PieceS (i n : Nat) (S S' : World → OsState → SharedT) (p p' : Pos) : Prop := ∀ (w : World) (os : OsState), segRun treeTable PySem.Challenge.pw_wa0035_01 w 11 (some (.ref 6)) 1 n (S w os).abs (piecesOf (stmtAt i) envE codeE p topB) = some (.next, (S' w os).abs, codeE, p')
theorem Piece.plain {i n : Nat} {S S' : World → OsState → SharedT} {p p' : Pos} (h : Piece i n S S' p p') : PieceS i n S S' p p' := fun w os => segRun_of (congrFun (h w) os)
/-- what stands behind the statement -/
noncomputable def after9 : Flow → Sem PySem.Fin := fun f => match f with
  | .next => (execs [] envE).wrap doneF deadEnd id id
  | f => doneF f
theorem tail9 : ∀ w : World, (fun os => segRunT treeTable PySem.Challenge.pw_wa0035_01 w 11 (some (.ref 6)) 1 8 (st9b w os) ⟨(k9 (.ref 61)).wrap after9 deadEnd id id, codeE, pd9, topB⟩) = fun os => some (.next, st10 w os, codeE, posE 51 0 51 13) := by
  intro w
  kernel_rfl
theorem piece9 : PieceS 9 12525 st9 st10 (posE 49 0 50 30) (posE 51 0 51 13) := by
  intro w os
  have hsz : (st9 w os).abs.heap.objs.size = 61 := absHeap_size _ _ _
  have g := b3_display (w := w) (P := pd9) (s₀ := (st9 w os).abs) (by rw [hsz]; decide) rfl
  rw [hsz, abs9] at g
  have g' : Goes w 12517 (Sem.at pa9 fun _ => Sem.at pd9 fun _ => dictDisplay (b3Pairs.map (itemOf pd9))) (st9 w os).abs (posE 49 0 50 30) (.ref 61) (st9b w os).abs pd9 := Goes.at (Goes.at g)
  have e : (execs (stmtAt 9) envE).wrap doneF deadEnd id id = (Sem.at pa9 fun _ => Sem.at pd9 fun _ => dictDisplay (b3Pairs.map (itemOf pd9))).wrap (fun v => (k9 v).wrap after9 deadEnd id id) deadEnd id id := by
    rw [stmt9, execs_cons_wrap, exec9, Sem.bind_eq_wrap, Sem.wrap_wrap]
    rfl
  have t := segRun_of (congrFun (tail9 w) os)
  have r := seg_go (g' (fun v => (k9 v).wrap after9 deadEnd id id) deadEnd id id codeE) t
  show segRun _ _ _ _ _ _ (12517 + 8) _ ⟨(execs (stmtAt 9) envE).wrap doneF deadEnd id id, _, _, _⟩ = _
  rw [e]
  exact r
end Mine
end
section
open PySem PySem.W PySem.Calls PySem.Spec PyProof.Rows
namespace Mine
theorem piece0 : Piece 0 10 st0 st1 (posE 0 0 0 0) (posE 1 0 1 8) := by
  unfold Piece
  intro w
  kernel_rfl
theorem piece1 : Piece 1 31 st1 st2 (posE 1 0 1 8) (posE 2 0 3 28) := by
  unfold Piece
  intro w
  kernel_rfl
theorem piece2 : Piece 2 10 st2 st3 (posE 2 0 3 28) (posE 4 0 4 8) := by
  unfold Piece
  intro w
  kernel_rfl
theorem piece3 : Piece 3 33 st3 st4 (posE 4 0 4 8) (posE 5 0 17 25) := by
  unfold Piece
  intro w
  kernel_rfl
theorem piece4 : Piece 4 35 st4 st5 (posE 5 0 17 25) (posE 18 0 35 26) := by
  unfold Piece
  intro w
  kernel_rfl
theorem piece5 : Piece 5 33 st5 st6 (posE 18 0 35 26) (posE 36 0 46 21) := by
  unfold Piece
  intro w
  kernel_rfl
theorem piece6 : Piece 6 10 st6 st7 (posE 36 0 46 21) (posE 47 0 47 8) := by
  unfold Piece
  intro w
  kernel_rfl
theorem piece8 : Piece 8 30 st8 st9 (posE 48 0 48 6) (posE 49 0 50 30) := by
  unfold Piece
  intro w
  kernel_rfl
theorem piece10 : Piece 10 31 st10 st11 (posE 51 0 51 13) (posE 52 0 56 23) := by
  unfold Piece
  intro w
  kernel_rfl
theorem piece11 : Piece 11 10 st11 st12 (posE 52 0 56 23) (posE 57 0 57 8) := by
  unfold Piece
  intro w
  kernel_rfl
theorem piece12 : Piece 12 32 st12 st13 (posE 57 0 57 8) (posE 58 0 62 92) := by
  unfold Piece
  intro w
  kernel_rfl
theorem piece13 : Piece 13 32 st13 st14 (posE 58 0 62 92) (posE 63 0 67 37) := by
  unfold Piece
  intro w
  kernel_rfl
theorem piece14 : Piece 14 27 st14 st15 (posE 63 0 67 37) (posE 68 0 76 63) := by
  unfold Piece
  intro w
  kernel_rfl
theorem piece15 : Piece 15 27 st15 st16 (posE 68 0 76 63) (posE 77 0 113 85) := by
  unfold Piece
  intro w
  kernel_rfl
end Mine
end
section
open PySem PySem.W PySem.Calls PySem.Spec PyProof.Rows
namespace Mine
/-- the quick twins of the run -/
theorem twinRun : @segRunT = @PySem.W.Fast.tw10110043849684766642 := PySem.W.Fast.te10110043849684766642
theorem twinTable : treeTable = PySem.W.Fast.tw14364793385576792824 := PySem.W.Fast.te14364793385576792824
theorem twinExecs : execs = PySem.W.Fast.tw12563942051412417395 := PySem.W.Fast.te12563942051412417395
noncomputable def PieceAt (i n : Nat) (S S' : World → OsState → SharedT) (p p' : Pos) (w : World) : Prop := (fun os => segRunT treeTable PySem.Challenge.pw_wa0035_01 w 11 (some (.ref 6)) 1 n (S w os) (piecesOf (stmtAt i) envE codeE p topB)) = fun os => some (.next, S' w os, codeE, p')
theorem p7_false_false : ∀ w : World, PieceAt 7 999 st7 st8 (posE 47 0 47 8) (posE 48 0 48 6) ((w.withFollow "special-get-raises" false).withFollow "set-order" false) := by
  intro w
  unfold PieceAt piecesOf
  rw [twinRun, twinTable, twinExecs]
  kernel_rfl
theorem p7_false_true : ∀ w : World, PieceAt 7 999 st7 st8 (posE 47 0 47 8) (posE 48 0 48 6) ((w.withFollow "special-get-raises" true).withFollow "set-order" false) := by
  intro w
  unfold PieceAt piecesOf
  rw [twinRun, twinTable, twinExecs]
  kernel_rfl
theorem p7_true_false : ∀ w : World, PieceAt 7 999 st7 st8 (posE 47 0 47 8) (posE 48 0 48 6) ((w.withFollow "special-get-raises" false).withFollow "set-order" true) := by
  intro w
  unfold PieceAt piecesOf
  rw [twinRun, twinTable, twinExecs]
  kernel_rfl
theorem p7_true_true : ∀ w : World, PieceAt 7 999 st7 st8 (posE 47 0 47 8) (posE 48 0 48 6) ((w.withFollow "special-get-raises" true).withFollow "set-order" true) := by
  intro w
  unfold PieceAt piecesOf
  rw [twinRun, twinTable, twinExecs]
  kernel_rfl
theorem piece7 : Piece 7 999 st7 st8 (posE 47 0 47 8) (posE 48 0 48 6) :=
  byRow2 (P := PieceAt 7 999 st7 st8 (posE 47 0 47 8) (posE 48 0 48 6)) "set-order"
    (byRow2 (P := fun w => PieceAt 7 999 st7 st8 (posE 47 0 47 8) (posE 48 0 48 6) (w.withFollow "set-order" false)) "special-get-raises" p7_false_false p7_false_true)
    (byRow2 (P := fun w => PieceAt 7 999 st7 st8 (posE 47 0 47 8) (posE 48 0 48 6) (w.withFollow "set-order" true)) "special-get-raises" p7_true_false p7_true_true)
end Mine
end
section
open PySem PySem.W PySem.Calls PySem.Spec PyProof PyProof.Rows
namespace Mine
noncomputable abbrev runT (w : World) (n : Nat) (s : Shared) (t : Thread) : Option Shared := topRun treeTable PySem.Challenge.pw_wa0035_01 w 11 (some (.ref 6)) n s t
theorem drop_step (i : Nat) : bodyE.drop i = stmtAt i ++ bodyE.drop (i + 1) := by
  unfold stmtAt
  rw [show bodyE.drop (i + 1) = (bodyE.drop i).drop 1 by rw [List.drop_drop]]
  exact (List.take_append_drop 1 _).symm
theorem chain_step {i n N : Nat} {S S' : World → OsState → SharedT} {p p' : Pos} {w : World} {os : OsState} {r : Shared} (hp : PieceS i n S S' p p') (k : runT w N (S' w os).abs (restOf (bodyE.drop (i + 1)) envE codeE p' topB) = some r) :
    runT w (n + N) (S w os).abs (restOf (bodyE.drop i) envE codeE p topB) = some r := by
  rw [drop_step i]
  exact piece_app (hp w os) k
noncomputable def H1f : Params → Heap := fun P => absHeap (mkT (hl16 P)) 131 {}
theorem fin_ok : ∀ w : World, (fun os => runT w 2 (st16 w os).abs ⟨doneF .next, codeE, posE 77 0 113 85, topB⟩) = fun os => some (st16 w os).abs := by
  intro w
  kernel_rfl
theorem body_end : bodyE.drop 16 = [] := by kernel_rfl
theorem block_ok : ∀ w : World, (fun os => segRun treeTable PySem.Challenge.pw_wa0035_01 w 11 (some (.ref 6)) 1 1 (st0 w os).abs (blockOf bodyE envE codeE (posE 0 0 0 0) topB)) = fun os => some (.next, (st0 w os).abs, codeE, posE 0 0 0 0) := by
  intro w
  kernel_rfl
theorem pre_ok : ∀ w : World, (fun os => topGo treeTable PySem.Challenge.pw_wa0035_01 w 11 (some (.ref 6)) 12 ⟨boot_heap w.params, Array.mk [], boot_drawn, boot_toks, os⟩ (topStub PySem.Challenge.pw_wa0035_01)) = fun os => some ((st0 w os).abs, ⟨denote treeTable codeE, codeE, posE 0 0 0 0, topB⟩) := by
  intro w
  kernel_rfl
theorem rest_ok (w : World) (os : OsState) : runT w 13877 (st0 w os).abs (restOf bodyE envE codeE (posE 0 0 0 0) topB) = some (st16 w os).abs := by
  have k16 : runT w 2 (st16 w os).abs (restOf (bodyE.drop 16) envE codeE (posE 77 0 113 85) topB) = some (st16 w os).abs := by
    rw [body_end]
    exact piece_nil (congrFun (fin_ok w) os)
  have k15 := chain_step piece15.plain k16
  have k14 := chain_step piece14.plain k15
  have k13 := chain_step piece13.plain k14
  have k12 := chain_step piece12.plain k13
  have k11 := chain_step piece11.plain k12
  have k10 := chain_step piece10.plain k11
  have k9 := chain_step piece9 k10
  have k8 := chain_step piece8.plain k9
  have k7 := chain_step piece7.plain k8
  have k6 := chain_step piece6.plain k7
  have k5 := chain_step piece5.plain k6
  have k4 := chain_step piece4.plain k5
  have k3 := chain_step piece3.plain k4
  have k2 := chain_step piece2.plain k3
  have k1 := chain_step piece1.plain k2
  have k0 := chain_step piece0.plain k1
  exact k0
theorem abs16 (w : World) (os : OsState) : (st16 w os).abs = ⟨H1f w.params, #[], {}, 2291, os⟩ := by kernel_rfl
theorem head_ok (w : World) (os : OsState) : runT w (1 + 13877) (st0 w os).abs ⟨denote treeTable codeE, codeE, posE 0 0 0 0, topB⟩ = some (st16 w os).abs :=
  piece_block (congrFun (block_ok w) os) (rest_ok w os)
theorem run_ok (w : World) (os : OsState) : runT w (12 + (1 + 13877)) ⟨boot_heap w.params, Array.mk [], boot_drawn, boot_toks, os⟩ (topStub PySem.Challenge.pw_wa0035_01) = some ⟨H1f w.params, #[], {}, 2291, os⟩ := by
  rw [← abs16]
  exact go_top (congrFun (pre_ok w) os) (head_ok w os)
theorem size_ok : ∀ w : World, ((boot_heap w.params).isNs mainGlobals && (Array.mk [] : Array GenState).size == 0, (boot_heap w.params).objs.size, (boot_heap w.params).nsMap mainGlobals "__annotations__") = (true, 11, some (.ref 6)) := by
  intro w
  kernel_rfl
theorem open_ok : ∀ w : World, (fencedOpening treeTable PySem.Challenge.pw_wa0035_01 w 27844).map (fun s => (s.heap, s.gens, s.drawn, s.toks)) = some (boot_heap w.params, Array.mk [], boot_drawn, boot_toks) :=
  boot_open (by kernel_rfl) (by kernel_rfl) (fun s => by kernel_rfl)
noncomputable def looseQ : List Str := [Str.ofString "b1_set", Str.ofString "b3_exceptions"]
noncomputable def AS : List Addr := [2, 3, 6, 15, 17, 18, 20, 21, 22, 24, 25, 27, 28, 29, 31, 32, 34, 35, 36, 38, 39, 41, 42, 50, 54, 56, 57, 59, 60, 61, 100, 102, 103, 105, 106, 107, 109, 110, 112, 113, 114, 116, 117, 119, 120, 121, 124, 125, 126, 129, 130]
theorem AS_ok : ∀ P : Params, AS = (KF P).map (·.1) := fun _ => by kernel_rfl
noncomputable abbrev hookQ : Hook := kHook KF AS AS_ok
noncomputable abbrev rowQ : RowW := PySem.Challenge.rw_wa0035_01.row.toRowW
noncomputable abbrev XtQ : Shared → Bool := fun s => xlAt viewQ [] s && recOk (RowW.records rowQ) s
end Mine
end
section
open PySem PySem.W PySem.Calls PySem.Spec PyProof PyProof.Rows
namespace Mine
noncomputable abbrev finQ (w : World) (os : OsState) : Shared := ⟨H1f w.params, #[], {}, 2291, os⟩
theorem look1 : ∀ w : World, (fun os => (staticsOk (importedModules PySem.Challenge.pw_wa0035_01.main.body) (boot_heap w.params) (H1f w.params) && namesBound PySem.Challenge.pw_wa0035_01 (H1f w.params) && gensDone (finQ w os) && laidKept (boot_heap w.params) (H1f w.params))) = fun _ => true := by
  intro w
  kernel_rfl
theorem look2 : ∀ w : World, (fun os => openSeen viewQ looseQ (importedModules PySem.Challenge.pw_wa0035_01.main.body) XtQ true (finQ w os)) = fun _ => openGood viewQ looseQ := by
  intro w
  rw [PySem.W.Fast.te4187177175401517315]
  kernel_rfl
theorem look3 : ∀ w : World, (fun os => hookQ.obs (finQ w os)) = fun _ => hookQ.val w := by
  intro w
  kernel_rfl
end Mine
end
section
open PySem PySem.W PySem.Calls PySem.Spec PyProof.Rows
namespace Mine

/-- what a call of the def at f tells -/
noncomputable def Ctr (w : World) (f : Addr) (need : Nat) (vs : List Value) (news : List (Addr × Obj)) (post : Value → List (Addr × Obj) → Prop) : Prop :=
  ∀ (loose : List Str) (mean : ExcName → Option Value) (mg mb : Str → Option Value)
   (dp un : Nat) (gd : Option (List Code)) (cn : Str) (cs : Scope) (a : Addr) (ccd : Value) (cl : List (Str × Addr)) (outer : List Env) (A₀ : Around) (base h₀ : Heap) (L : Addr) (m : Str → Option Value) (s : Shared)
    (Q E : Value → Shared → Prop),
    Below A₀ base outer h₀ → Fr h₀ L s.heap m → (KF w.params).In h₀ → News h₀ L s.heap news → Top viewQ loose mean mg mb h₀ → cs.kind = .function → dp + need < recursionLimit → un + 8 * need < cLine → AllBare s.gens →
    (∀ r news' h' tk' g', Fr h₀ L h' m → News h₀ L h' news' → post r news' → AllBare g' → Q r { s with heap := h', toks := tk', gens := g' }) →
    wpAny (model PySem.Challenge.rw_wa0035_01.row.prog w) (ktrTop dp un gd cn cs L a ccd cl outer) (call (.ref f) vs) Q E s

theorem occ_no {x : Str} (hx : 34 ∉ x.cps.toList) : (Builtin.Str.occurrences x (Str.ofString "\"") 0 x.length 1).isEmpty = true := by
  have h := StrLaws.found_one x 34
  rw [show (Str.ofString "\"") = (⟨#[34]⟩ : Str) from by decide +kernel]
  rw [decide_eq_false hx] at h
  cases q : (Builtin.Str.occurrences x ⟨#[34]⟩ 0 x.length 1).isEmpty with
  | true => rfl
  | false => rw [q] at h; cases h

theorem strip_ctr (w : World) (x : Str) (t : Tok) (news : List (Addr × Obj)) (hx : 34 ∉ x.cps.toList) :
    Ctr w 35 1 [.str x t] news (fun r n' => n' = news ∧ r = .str x t) := by
  unfold Ctr
  k_fill
  intro loose mean mg mb dp un gd cn cs a ccd cl outer A₀ base h₀ L m s Q E B F X N T hk hd hu hg hret
  have hocc := occ_no hx
  refine wpAny_call ?_
  k_dflt ktr_enter
  k_steps
  exact hret _ _ _ _ _ (by assumption) (by assumption) ⟨rfl, rfl⟩ hg

noncomputable def b1Data : List (Int × Tok) := [(65024, 249), (65025, 250), (65026, 251), (65027, 252), (65028, 253), (65029, 254), (6150, 235), (65030, 255), (65031, 256), (65032, 257), (65033, 258), (6155, 236), (6156, 237), (6157, 238), (8203, 239), (8204, 240), (8205, 241), (65034, 259), (65035, 260), (65036, 261), (65037, 262), (65038, 263), (65039, 264), (173, 233), (847, 234), (8288, 242), (65279, 243)]
noncomputable def b1Es : List (Int × Value) := b1Data.map fun p => (p.1, Value.int p.1 p.2)
noncomputable def b1Tab (P : Params) : SetTable := SetTable.mk 127 #[0, 1, 2, 3, 4, 5, 6, 7, 8, 9, 10, 11, 12, 13, 14, 15, 16, 17, 18, 19, 20, 21, 22, 45, 79, 96, 127] #[] 0 (!Params.followText P "set-order") 2 true
noncomputable def b1Obj (P : Params) : Obj := Obj.mk (Value.type "set") none (Data.set b1Es.toArray 29 (b1Tab P)) #[]
theorem b1_here {w : World} {h : Heap} (X : (KF w.params).In h) : h.get? 50 = some (b1Obj w.params) := X 50 _ (by kernel_rfl)
noncomputable def inB1 (k : Int) : Bool := decide (k ∈ b1Data.map (·.1))
theorem b1_set {w : World} {prog : Program} {w' : World} : (b1Obj w.params).SetObjOf (intKind prog w') inB1 27 := by
  refine ⟨⟨rfl, rfl, rfl⟩, b1Es.toArray, 29, b1Tab w.params, rfl, ?_, ?_, by kernel_rfl, by kernel_rfl⟩
  · intro e he
    simp only [b1Es] at he
    obtain ⟨p, hp, rfl⟩ := List.mem_map.mp he
    refine ⟨⟨p.1, isInt_self p.1 p.2, ?_⟩, rfl⟩
    have : ∀ p ∈ b1Data, p.1 = hashInt p.1 := by decide +kernel
    exact this p hp
  · intro k
    simp only [inB1, decide_eq_true_eq, b1Es]
    constructor
    · intro h
      obtain ⟨p, hp, rfl⟩ := List.mem_map.mp h
      exact ⟨_, List.mem_map.mpr ⟨p, hp, rfl⟩, isInt_self p.1 p.2⟩
    · rintro ⟨e, he, hk⟩
      obtain ⟨p, hp, rfl⟩ := List.mem_map.mp he
      have hk' : Value.isInt k (Value.int p.1 p.2) = true := hk
      obtain ⟨t, ht⟩ := Value.isInt_shape hk'
      injection ht with h1 h2
      exact List.mem_map.mpr ⟨p, hp, h1⟩

theorem keys_b3 {prog : Program} {w : World} (d : Nat) : ∀ (l : List (Int × Str)) (t : Nat), (∀ p ∈ l, p.1 = hashInt p.1) → ∀ e ∈ b3Ents d l t, ∃ k, (intKind prog w).is k e.key = true ∧ e.hash = (intKind prog w).hash k
  | [], _, _, e, he => nomatch he
  | p :: r, t, hl, e, he => by
    rcases List.mem_cons.mp he with rfl | he
    · exact ⟨p.1, isInt_self p.1 t, hl p (.head _)⟩
    · exact keys_b3 d r (t + d) (fun q hq => hl q (.tail _ hq)) e he
theorem b3_hash : ∀ p ∈ b3Pairs, p.1 = hashInt p.1 := by decide +kernel
noncomputable def b3Obj : Obj := Obj.mk (Value.type "dict") none (Data.dict b3Arr 650) #[]
theorem b3_here {w : World} {h : Heap} (X : (KF w.params).In h) : h.get? 61 = some b3Obj := X 61 _ (by kernel_rfl)
theorem b3_map {prog : Program} {w w' : World} {h : Heap} (X : (KF w.params).In h) : h.MapOf (intKind prog w') 61 (fun k => findBy Value.isInt b3Arr k) := by
  refine ⟨b3Obj, b3Arr, 650, b3_here X, ⟨rfl, rfl, rfl⟩, rfl, ?_, fun k => rfl⟩
  intro e he
  have he' : e ∈ b3Ents 3 (b3Pairs.take 646) 300 ++ b3Ents 2 (b3Pairs.drop 646) 2238 := by simpa [b3Arr] using he
  rcases List.mem_append.mp he' with h | h
  · exact keys_b3 3 _ _ (fun p hp => b3_hash p (List.mem_of_mem_take hp)) e h
  · exact keys_b3 2 _ _ (fun p hp => b3_hash p (List.mem_of_mem_drop hp)) e h
section
variable {prog : Program} {w : World} {A : Around} {E : Value → Shared → Prop} {s : Shared} {h₀ : Heap} {L : Addr} {m : Str → Option Value}
theorem b3_method {pl : Sem Bool} {Q : Value × List Value → Shared → Prop} (F : Fr h₀ L s.heap m) (X : (KF w.params).In h₀) (h : Q (.builtin "dict.get", [.ref 61]) s) : wpAny (model prog w) A (getMethod (.ref 61) (Str.ofString "get") pl) Q E s :=
  have hm := b3_map (prog := prog) (w' := w) (w := w) (X.keeps F.keep)
  getMethod_builtin hm.typeIs PySem.F.plainAttrs_dict PySem.F.slot_dict_get PySem.F.type_dict_get hm.noDict h
theorem b3_get {k : Int} {t : Tok} {v : Value} {Q : Value → Shared → Prop} (F : Fr h₀ L s.heap m) (X : (KF w.params).In h₀) (hv : (findBy Value.isInt b3Arr k).getD .none = v) (h : Q v { s with toks := s.toks + 1 }) : wpAny (model prog w) A (call (.builtin "dict.get") [.ref 61, .int k t]) Q E s :=
  have hm := b3_map (prog := prog) (w' := w) (w := w) (X.keeps F.keep)
  call_meetsIn PySem.F.slot_dict_get hm.typeIs PySem.F.entry_dict_get (PySem.F.args_dict_get_2 _ _) (meets_dict_get (intKind prog w) 61 (intKind_is prog w k t) (by rfl)) ⟨_, hm, by rw [hv]; exact h⟩
end
local macro_rules | `(tactic| walk_at "getMethod ref") => `(tactic| (k_here; (with_reducible show wpAny _ _ (getMethod (Value.ref 61) (Str.ofString "get") _) _ _ _); (refine' b3_method ?k1 ?k2 ?_; (case k1 => k_asm); (case k2 => k_asm))))
local macro_rules | `(tactic| walk_at "call builtin:dict.get") => `(tactic| (k_here; (with_reducible show wpAny _ _ (call (Value.builtin "dict.get") [Value.ref 61, Value.int _ _]) _ _ _); (refine' b3_get ?k1 ?k2 (by assumption) ?_; (case k1 => k_asm); (case k2 => k_asm))))

noncomputable def b3At (k : Int) : Option Value := ((b3Ents 3 (b3Pairs.take 646) 300 ++ b3Ents 2 (b3Pairs.drop 646) 2238).find? fun d => Value.isInt k d.key).map (·.val)
theorem findBy_b3 (k : Int) : findBy Value.isInt b3Arr k = b3At k := by
  unfold findBy b3Arr b3At
  rw [List.find?_toArray]
/-- what a sign is folded to -/
noncomputable def foldIs (c r : Nat) : Bool := match (b3At (c : Int)).getD .none with
  | .str x _ => x == ⟨#[r]⟩
  | .none => Txt.lower ⟨#[c]⟩ == ⟨#[r]⟩
  | _ => false
noncomputable def foldTab : List (Nat × Nat) := [(65, 97), (66, 98), (67, 99), (97, 97), (98, 98), (99, 99), (119808, 97), (119809, 98), (119810, 99), (120224, 97), (120225, 98), (120226, 99), (92, 92), (40, 40), (41, 41)]
theorem foldTab_ok : ∀ p ∈ foldTab, foldIs p.1 p.2 = true := by decide +kernel
theorem foldTab_b1 : ∀ p ∈ foldTab, inB1 p.1 = false := by decide +kernel
theorem signs_b1 : ∀ c ∈ ([173, 8203, 65039] : List Nat), inB1 c = true := by decide +kernel
end Mine
end
section
open PySem PySem.W PySem.Calls PySem.Spec PyProof.Rows
namespace Mine

section
variable {M : Model} {A : Around} {R : GenEnd} {Y : Protocol} {n : Nat} {s₀ : Shared} {c : Code} {fs : List Frame} {s : Shared} {env : Env}
  {K : Flow → Sem Fin} {H : Value → Sem Fin} {gd : Bool → Bool} {lv : List Value → List Value}

/-- a tree that only goes on: no yield in it -/
theorem seg_quiet {α : Type} {m : Sem α} {K : α → Sem Fin} {H : Value → Sem Fin} {gd lv}
    (h : wpAny M (A.over c fs) m (fun a s' => Seg M A R Y n s₀ c (K a) fs s') (fun _ _ => False) s) :
    Seg M A R Y n s₀ c (m.wrap K H gd lv) fs s := seg_wrap (wpAny_mono h (fun _ _ x => x) fun _ _ x => x.elim)

theorem seg_If {test : Expr} {body orelse : List Stmt} {pos : Pos}
    (h : wpAny M (A.over c fs) (isTrue test env (eval test env)) (fun b s' => if b = true then Seg M A R Y n s₀ c ((execs body env).wrap K H gd lv) fs s' else Seg M A R Y n s₀ c ((execs orelse env).wrap K H gd lv) fs s') (fun _ _ => False) s) :
    Seg M A R Y n s₀ c ((exec (.If test body orelse pos) env).wrap K H gd lv) fs s := by
  have e : exec (.If test body orelse pos) env = (do standAt pos; let b ← isTrue test env (eval test env); (if b = true then execs body env else execs orelse env)) := rfl
  rw [e]
  refine seg_at ?_
  show Seg M A R Y n s₀ c ((isTrue test env (eval test env) >>= fun b => (if b = true then execs body env else execs orelse env)).wrap K H gd lv) fs s
  rw [Sem.bind_eq_wrap', Sem.wrap_wrap]
  refine seg_quiet (wpAny_mono h (fun b s' hb => ?_) fun _ _ x => x)
  cases b
  · exact hb
  · exact hb

/-- a statement without a yield -/
theorem seg_stmt {st : Stmt} {rest : List Stmt}
    (h : wpAny M (A.over c fs) (exec st env) (fun f s' => match f with | .next => Seg M A R Y n s₀ c ((execs rest env).wrap K H gd lv) fs s' | f => Seg M A R Y n s₀ c (K f) fs s') (fun _ _ => False) s) :
    Seg M A R Y n s₀ c ((execs (st :: rest) env).wrap K H gd lv) fs s := by
  refine seg_execs_cons (seg_quiet (wpAny_mono h (fun f s' hf => ?_) fun _ _ x => x))
  cases f <;> exact hf

noncomputable def ownEnd (env : Env) : Result → Sem Flow := fun r => ((match r with | .ok f => (.pure f : Sem Flow) | .error e => .raise e).onRaise fun (x : Value) => do
        if (← field x 1) == Value.none then unsupported "frame.own-activation:exception-without-traceback"
        setFlight x env.frame)

theorem seg_runOwn {c' : Code} {K : Flow → Sem Fin} (h : ∀ p, Seg M A R Y n s₀ c' (M.den c') (.ret (fun r => (ownEnd env r).wrap K H gd lv) none (gd false) (lv []) c p [] :: fs) s) :
    Seg M A R Y n s₀ c ((runOwn c' env).wrap K H gd lv) fs s := seg_call h

theorem seg_For {target iter : Expr} {body orelse : List Stmt} {pos : Pos}
    (h : wpAny M (A.over c fs) (eval iter env) (fun x s₁ => wpAny M (A.over c fs) (pyIter x) (fun it s₂ =>
      ∀ p, Seg M A R Y n s₀ (.forLoop target it body orelse env) (M.den (.forLoop target it body orelse env)) (.ret (fun r => (ownEnd env r).wrap K H gd lv) none (gd false) (lv []) c p [] :: fs) s₂) (fun _ _ => False) s₁) (fun _ _ => False) s)
    (hs : ∀ x, foldedSetIterable iter env x = pure x := by intro _; rfl) :
    Seg M A R Y n s₀ c ((exec (.For target iter body orelse pos) env).wrap K H gd lv) fs s := by
  rw [exec_For]
  refine seg_at ?_
  show Seg M A R Y n s₀ c ((eval iter env >>= fun x₀ => foldedSetIterable iter env x₀ >>= fun x => standAt iter.pos >>= fun _ => (holding [x] (pyIter x)) >>= fun it => runOwn (.forLoop target it body orelse env) env).wrap K H gd lv) fs s
  rw [Sem.bind_eq_wrap', Sem.wrap_wrap]
  refine seg_quiet (wpAny_mono h (fun x s₁ h₁ => ?_) fun _ _ x => x)
  rw [hs x]
  refine seg_at ?_
  show Seg M A R Y n s₀ c (((holding [x] (pyIter x)) >>= fun it => runOwn (.forLoop target it body orelse env) env).wrap _ _ _ _) fs s₁
  rw [Sem.bind_eq_wrap', Sem.wrap_wrap]
  refine seg_quiet (wpAny_holding (wpAny_mono h₁ (fun it s₂ h₂ => ?_) fun _ _ x => x))
  exact seg_runOwn h₂
end

section
variable {prog : Program} {w : World} {A : Around} {R : GenEnd} {Y : Protocol} {n : Nat} {s₀ : Shared} {fs : List Frame} {s : Shared} {env : Env}

noncomputable abbrev forBack (target : Expr) (it : Value) (body orelse : List Stmt) (env : Env) : Flow → Sem Fin := fun f => match f with
  | .next | .cont => .pure (.again (.forLoop target it body orelse env))
  | .brk => .pure (.done .next)
  | .ret v => .pure (.done (.ret v))
noncomputable abbrev noteBack (env : Env) : Value → Sem Fin := fun e => (do noteFrame e env; theTreesLotGoes e : Sem Unit).wrap (fun _ => .raise e) .raise id id

/-- one turn of a for whose body yields -/
theorem seg_forTurn {target : Expr} {it : Value} {body orelse : List Stmt}
    (h : wpAny (model prog w) (A.over (.forLoop target it body orelse env) fs) (pyNext it) (fun r s₁ => match r with
        | none => Seg (model prog w) A R Y n s₀ (.block orelse env) ((model prog w).den (.block orelse env)) fs s₁
        | some v => wpAny (model prog w) (A.over (.forLoop target it body orelse env) fs) (letOwnedTupleGo target it v) (fun _ s₂ =>
            wpAny (model prog w) (A.over (.forLoop target it body orelse env) fs) (assign target env v) (fun _ s₃ =>
              Seg (model prog w) A R Y n s₀ (.forLoop target it body orelse env) ((execs body env).wrap (forBack target it body orelse env) (noteBack env) id id) fs s₃) (fun _ _ => False) s₂) (fun _ _ => False) s₁) (fun _ _ => False) s) :
    Seg (model prog w) A R Y n s₀ (.forLoop target it body orelse env) ((model prog w).den (.forLoop target it body orelse env)) fs s := by
  show Seg _ A R Y n s₀ _ ((forTurn target it body orelse env).onRaise (fun x => do noteFrame x env; theTreesLotGoes x)) fs s
  unfold forTurn
  rw [Sem.onRaise_eq_wrap]
  refine seg_at ?_
  show Seg _ A R Y n s₀ _ ((((pyNext it).onRaise (fun _ => standAt { target.pos with line := 0 })) >>= _).wrap _ _ _ _) fs s
  rw [Sem.bind_eq_wrap', Sem.wrap_wrap]
  refine seg_quiet (wpAny_onRaise (wpAny_mono h (fun r s₁ h₁ => ?_) fun _ _ x => x.elim))
  cases r with
  | none => exact seg_again rfl h₁
  | some v =>
    show Seg _ A R Y n s₀ _ (((letOwnedTupleGo target it v) >>= _).wrap _ _ _ _) fs s₁
    rw [Sem.bind_eq_wrap', Sem.wrap_wrap]
    refine seg_quiet (wpAny_mono h₁ (fun _ s₂ h₂ => ?_) fun _ _ x => x)
    show Seg _ A R Y n s₀ _ (((assign target env v) >>= _).wrap _ _ _ _) fs s₂
    rw [Sem.bind_eq_wrap', Sem.wrap_wrap]
    refine seg_quiet (wpAny_mono h₂ (fun _ s₃ h₃ => ?_) fun _ _ x => x)
    show Seg _ A R Y n s₀ _ (((execs body env) >>= _).wrap _ _ _ _) fs s₃
    rw [Sem.bind_eq_wrap', Sem.wrap_wrap]
    rw [Sem.wrap_congr (execs body env) _ _ (K' := forBack target it body orelse env) (H' := noteBack env) (fun f => by cases f <;> rfl)
      (fun e => by first | exact Sem.bind_eq_wrap _ _ | (show (do noteFrame e env; theTreesLotGoes e : Sem Unit).bind (fun _ => .raise e) = _; rw [Sem.bind_eq_wrap]))]
    exact h₃
end
end Mine
end
section
open PySem PySem.W PySem.Calls PySem.Spec PyProof.Rows
namespace Mine

/-- what the generator hands out for the rest of the text -/
noncomputable def yields : List Nat → Bool → List Str
  | [], true => [Str.ofString "\\"]
  | [], false => []
  | c :: cs, true => (Str.ofString "\\" ++ ⟨#[c]⟩) :: yields cs false
  | c :: cs, false => if c = 92 then yields cs true else ⟨#[c]⟩ :: yields cs false

noncomputable def bodyOf (i : Nat) : List Stmt := match (fdOf i .none .none).body with | .stmts b => b | _ => []
noncomputable def scopeOf (i : Nat) : Scope := (fdOf i .none .none).scope
noncomputable def nameOf (i : Nat) : Str := (fdOf i .none .none).name
/-- the statement at a place of a def's body -/
noncomputable def stAt (i j : Nat) : Stmt := ((bodyOf i)[j]?).getD default
noncomputable def forTarget : Stmt → Expr | .For t _ _ _ _ => t | _ => default
noncomputable def forBody : Stmt → List Stmt | .For _ _ b _ _ => b | _ => []

section
variable {w : World} {A : Around}
/-- the objects below B and the generator's own stay -/
noncomputable def Kept (B G : Addr) (h h' : Heap) : Prop := ∀ b o, (b < B ∨ b = G) → h.get? b = some o → h'.get? b = some o
theorem Kept.refl {B G : Addr} {h : Heap} : Kept B G h h := fun _ _ _ e => e
theorem Kept.trans {B G : Addr} {h h' h'' : Heap} (a : Kept B G h h') (b : Kept B G h' h'') : Kept B G h h'' := fun x o k e => b x o k (a x o k e)
noncomputable def Same (s s' : Shared) : Prop := s'.gens = s.gens ∧ s'.drawn = s.drawn ∧ s'.os = s.os
noncomputable def iterY (base : Heap) (B G : Addr) (ys : List Str) : Protocol := fun k s₀ v s' kap => ∃ T p tp y ty, v = .ref T ∧ B ≤ T ∧ s'.heap.get? T = some { cls := .type "tuple", data := .seq #[.int p tp, .str y ty] } ∧ ys.reverse[k]? = some y ∧
  Kept B G s₀.heap s'.heap ∧ Same s₀ s' ∧
  ∀ s'', (∀ b o, B ≤ b → s'.heap.get? b = some o → s''.heap.get? b = some o) → (∀ b o, base.get? b = some o → s''.heap.get? b = some o) → kap (.send .none) s''
noncomputable def iterR (B G : Addr) : GenEnd := fun k s₀ r s' => r = .ok (.ret .none) ∧ k = 0 ∧ Kept B G s₀.heap s'.heap ∧ Same s₀ s'

theorem draws_str {prog : Program} {w : World} {A : Around} (hh : A.handled = none) (it : Addr) (x : Str) (t : Tok) :
    Draws prog w A it [it] x.cps.size (fun i v => ∃ c u, x.cps[i]? = some c ∧ v = .str ⟨#[c]⟩ u) (fun i h => h.IsStrIter it (strIterType x) x t i) := by
  unfold strIterType
  split
  · exact Draws.strAscii hh it x t
  · exact Draws.strWide hh it x t

/-- the generator's frame between its turns -/
structure ItIn (base : Heap) (B Lg e it : Addr) (x : Str) (t : Tok) (i : Nat) (esc : Bool) (h : Heap) : Prop where
  fr : ∃ (m : Str → Option Value) (p : Int) (tp : Tok), Fr base Lg h m ∧ m (Str.ofString "escape") = some (.bool esc) ∧ m (Str.ofString "pos") = some (.int p tp)
  en : ∃ old, IsEnum h e it i old
  si : h.IsStrIter it (strIterType x) x t i
  lo : B ≤ Lg ∧ B ≤ e ∧ B ≤ it
  ne : Lg ≠ e ∧ Lg ≠ it ∧ e ≠ it

theorem Fr.at' {base h h' : Heap} {L : Addr} {m : Str → Option Value} (F : Fr base L h m) (k : ∀ o, h.get? L = some o → h'.get? L = some o) (hb : ∀ b o, base.get? b = some o → h'.get? b = some o) : Fr base L h' m :=
  ⟨F.ns.at k, hb, F.above⟩
theorem ItIn.norm {base : Heap} {B Lg e it : Addr} {x : Str} {t : Tok} {i : Nat} {esc : Bool} {h : Heap} (I : ItIn base B Lg e it x t i esc h) :
    ∃ (m : Str → Option Value) (p : Int) (tp : Tok), Fr base Lg h (fun y => if y = Str.ofString "escape" then some (.bool esc) else if y = Str.ofString "pos" then some (.int p tp) else m y) := by
  obtain ⟨m, p, tp, F, e1, e2⟩ := I.fr
  refine ⟨m, p, tp, ?_⟩
  have : (fun y => if y = Str.ofString "escape" then some (Value.bool esc) else if y = Str.ofString "pos" then some (Value.int p tp) else m y) = m := by
    funext y
    split
    · rename_i q; rw [q, e1]
    · split
      · rename_i q; rw [q, e2]
      · rfl
  rw [this]; exact F
theorem ItIn.goes {base : Heap} {B Lg e it : Addr} {x : Str} {t : Tok} {i : Nat} {esc : Bool} {h h' : Heap} (I : ItIn base B Lg e it x t i esc h)
    (k : ∀ b o, B ≤ b → h.get? b = some o → h'.get? b = some o) (hb : ∀ b o, base.get? b = some o → h'.get? b = some o) : ItIn base B Lg e it x t i esc h' where
  fr := let ⟨m, p, tp, F, e1, e2⟩ := I.fr; ⟨m, p, tp, Fr.at' F (fun o => k Lg o I.lo.1) hb, e1, e2⟩
  en := let ⟨old, q⟩ := I.en; ⟨old, k _ _ I.lo.2.1 q⟩
  si := let ⟨o, ho, r⟩ := I.si; ⟨o, k _ _ I.lo.2.2 ho, r⟩
  lo := I.lo
  ne := I.ne
end

noncomputable abbrev iterEnv (Lg a : Addr) (cd : Value) : Env := envOf (nameOf 3) (scopeOf 3) Lg a cd
noncomputable abbrev iterFor (it : Value) (Lg a : Addr) (cd : Value) : Code := .forLoop (forTarget (stAt 3 2)) it (forBody (stAt 3 2)) [] (iterEnv Lg a cd)
/-- what is left to run behind the generator's for -/
noncomputable abbrev iterTail (Lg a : Addr) (cd : Value) : Flow → Sem PySem.Fin := fun f => match f with
  | .next => (execs ((bodyOf 3).drop 3) (iterEnv Lg a cd)).wrap (fun f => .pure (.done (.ret (match f with | .ret v => v | _ => .none)))) (fun e => (leaving (iterEnv Lg a cd) e).wrap (fun _ => .raise e) .raise id id) id id
  | f => .pure (.done (.ret (match f with | .ret v => v | _ => .none)))
noncomputable abbrev iterFrame (Lg a : Addr) (cd : Value) (p : Pos) : Frame :=
  .ret (fun r => (ownEnd (iterEnv Lg a cd) r).wrap (iterTail Lg a cd) (fun e => (leaving (iterEnv Lg a cd) e).wrap (fun _ => .raise e) .raise id id) id id) none false [] (.func (bodyOf 3) (iterEnv Lg a cd)) p []

theorem ItIn.store {base : Heap} {B Lg e it : Addr} {x : Str} {t : Tok} {i : Nat} {esc esc' : Bool} {h h' : Heap} {m : Str → Option Value} {p : Int} {tp : Tok} (I : ItIn base B Lg e it x t i esc h) (F : Fr base Lg h m)
    (e2 : m (Str.ofString "pos") = some (.int p tp)) (hn : h'.Ns Lg (fun y => if y = Str.ofString "escape" then some (.bool esc') else m y)) (hs : Heap.SameBut Lg h h') : ItIn base B Lg e it x t i esc' h' := by
  refine ⟨⟨_, p, tp, F.set hn hs, if_pos rfl, ?_⟩, ?_, ?_, I.lo, I.ne⟩
  · rw [if_neg (by decide +kernel)]; exact e2
  · obtain ⟨old, q⟩ := I.en
    exact ⟨old, (hs.2 e (Ne.symm I.ne.1)).trans q⟩
  · obtain ⟨o, q, r⟩ := I.si
    exact ⟨o, (hs.2 it (Ne.symm I.ne.2.1)).trans q, r⟩
theorem kept_store {B G L : Addr} {h h' : Heap} (hs : Heap.SameBut L h h') (hB : B ≤ L) (hG : G ≠ L) : Kept B G h h' := fun b o q z =>
  (hs.2 b (by rcases q with q | q; exact Nat.ne_of_lt (Nat.lt_of_lt_of_le q hB); exact q ▸ hG)).trans z
theorem sign_is {c : Nat} {q : String} {k : Nat} (hq : Str.ofString q = ⟨#[k]⟩) : ((⟨#[c]⟩ : Str) == Str.ofString q) = decide (c = k) := by
  rw [hq, Bool.eq_iff_iff, beq_iff_eq, decide_eq_true_eq]
  constructor
  · intro h
    injection h with h
    have := congrArg Array.toList h
    simpa using this
  · rintro rfl; rfl
theorem back_is : Str.ofString "\\" = ⟨#[92]⟩ := by decide +kernel
theorem rev_at {α : Type} (pre rest : List α) (y : α) : (pre ++ y :: rest).reverse[rest.length]? = some y := by
  simp

theorem iter_loop (w : World) (A : Around) (hh : A.handled = none) (base : Heap) (B G Lg a e it : Addr) (cd : Value) (x : Str) (t : Tok) (ys : List Str) (p : Pos) (hbase : base.objs.size ≤ B) (hG : G ≠ Lg ∧ G ≠ e ∧ G ≠ it) :
    ∀ (cs : List Nat) (i : Nat) (esc : Bool) (pre : List Str) (s s₀ : Shared), x.cps.toList.drop i = cs → i ≤ x.cps.size → ys = pre ++ yields cs esc → ItIn base B Lg e it x t i esc s.heap → Kept B G s₀.heap s.heap → Same s₀ s → B ≤ s.heap.objs.size →
      Seg (model PW w) A (iterR B G) (iterY base B G ys) (yields cs esc).length s₀ (iterFor (.ref e) Lg a cd) ((model PW w).den (iterFor (.ref e) Lg a cd)) [iterFrame Lg a cd p] s := by
  intro cs
  induction cs with
  | nil =>
    intro i esc pre s s₀ hd hi hy I K S hB
    have hh' : (A.over (iterFor (.ref e) Lg a cd) [iterFrame Lg a cd p]).in1.handled = none := by
      show (marksOver [iterFrame Lg a cd p] (A.handled, A.handled)).1 = none
      rw [hh]; rfl
    obtain ⟨old, he⟩ := I.en
    have hiz : i = x.cps.size := by
      have := List.drop_eq_nil_iff.mp hd
      simp at this; omega
    refine seg_forTurn ?_
    refine wpAny_pyNext_enum_endD (draws_str hh' it x t) he (hiz ▸ I.si) fun h' hx => ?_
    have hk : ∀ b o, b ≠ it → s.heap.get? b = some o → h'.get? b = some o := fun b o hb q => hx b o hb q
    obtain ⟨m, p₁, tp, F⟩ := I.norm
    have F' : Fr base Lg h' (fun y => if y = Str.ofString "escape" then some (.bool esc) else if y = Str.ofString "pos" then some (.int p₁ tp) else m y) :=
      Fr.at' F (fun o q => hk Lg o I.ne.2.1 q) (fun b o q => hk b o (Nat.ne_of_lt (Nat.lt_of_lt_of_le (Nat.lt_of_lt_of_le (Heap.lt_size q) hbase) I.lo.2.2)) (F.keep b o q))
    have K' : Kept B G s₀.heap h' := fun b o q z => hk b o (by rcases q with q | q; exact Nat.ne_of_lt (Nat.lt_of_lt_of_le q I.lo.2.2); exact q ▸ hG.2.2) (K b o q z)
    have hB' : B ≤ h'.objs.size := Nat.le_of_lt (Nat.lt_of_le_of_lt I.lo.1 F'.ns.lt)
    show Seg _ _ _ _ _ s₀ (Code.block [] (iterEnv Lg a cd)) (leafOf (.ok .next)) [iterFrame Lg a cd p] _
    refine seg_leaf (r := .ok .next) ?_
    show Seg _ _ _ _ _ s₀ (.func (bodyOf 3) (iterEnv Lg a cd)) (iterTail Lg a cd .next) [] _
    with_unfolding_all refine seg_execs_cons (seg_If ?_)
    repeat walk1
    · rename esc = true => h1
      subst h1
      have hn : (yields [] true).length = 0 + 1 := rfl
      rw [hn]
      with_unfolding_all refine seg_execs_cons (seg_Expr_Yield rfl rfl rfl ?_)
      repeat walk1
      refine wpAny_newTuple ?_
      intro kap hkap
      refine ⟨h'.objs.size, p₁, tp, Str.ofString "\\", s.toks, rfl, hB', Heap.get?_push_size _ rfl, by simp [hy, yields], K'.trans (fun b o _ q => Heap.get?_push_of_some _ q), S, fun s'' h1 h2 => hkap .none s'' ?_⟩
      exact seg_end (.ok (.ret .none)) ⟨rfl, rfl, Kept.refl, rfl, rfl, rfl⟩
    · rename esc = false => h1
      subst h1
      exact seg_end (.ok (.ret .none)) ⟨rfl, rfl, K', S⟩
  | cons c cs ih =>
    intro i esc pre s s₀ hd hi hy I K S hB
    have hh' : (A.over (iterFor (Value.ref e) Lg a cd) [iterFrame Lg a cd p]).in1.handled = none := by
      show (marksOver [iterFrame Lg a cd p] (A.handled, A.handled)).1 = none
      rw [hh]; rfl
    obtain ⟨old, he⟩ := I.en
    have hlt : i < x.cps.size := by
      have := congrArg List.length hd
      simp at this; omega
    have hc : x.cps[i]? = some c := by
      have := congrArg (·[0]?) hd
      simpa using this
    have hd' : x.cps.toList.drop (i + 1) = cs := by
      rw [← List.drop_drop, hd]; rfl
    refine seg_forTurn ?_
    refine wpAny_pyNext_enum_itemD (draws_str hh' it x t) he I.si hlt I.ne.2.2 (by simpa using I.ne.2.2) fun v h₁ tk hP ho hs' hT hsz hk => ?_
    obtain ⟨c', u, hc', rfl⟩ := hP
    obtain rfl : c = c' := Option.some.inj (hc.symm.trans hc')
    refine wpAny_letOwnedTupleGo_enum ho fun h₂ he₂ hs₂ => ?_
    replace hs₂ : Heap.SameBut e h₁ h₂ := hs₂
    have hse : s.heap.objs.size ≠ e := Nat.ne_of_gt (Heap.lt_size he)
    have ht₂ : h₂.IsTuple s.heap.objs.size #[.int i tk, .str ⟨#[c]⟩ u] := ⟨_, (hs₂.2 _ hse).trans hT, rfl, _, rfl⟩
    have hz₂ : h₂.objs.size = s.heap.objs.size + 1 := hs₂.1.trans hsz
    refine wpAny_assign_Tuple hh' ht₂ rfl rfl fun h₃ hx₃ => ?_
    replace hx₃ : Heap.ExtBut h₂.objs.size h₂ h₃ := hx₃
    have old₃ : ∀ b o, b < s.heap.objs.size → h₂.get? b = some o → h₃.get? b = some o := fun b o hb x => hx₃ b o (by rw [hz₂]; exact Nat.ne_of_lt (Nat.lt_succ_of_lt hb)) x
    have k₃ : ∀ b o, b ≠ e → b ≠ it → s.heap.get? b = some o → h₃.get? b = some o := fun b o h1 h2 q => old₃ b o (Heap.lt_size q) (hs₂.extBut b o h1 (hk b o h1 h2 q))
    have heH : e < s.heap.objs.size := Heap.lt_size he
    have he₃ : IsEnum h₃ e it ((i + 1 : Nat) : Int) (.str ⟨#[c]⟩ u) := by
      have : ((i + 1 : Nat) : Int) = (i : Int) + 1 := by push_cast; rfl
      rw [this]; exact old₃ e _ heH he₂
    have hi₃ : h₃.IsStrIter it (strIterType x) x t (i + 1) := by
      obtain ⟨o, ho', r⟩ := hs'
      obtain ⟨oi, hoi, _⟩ := I.si
      exact ⟨o, old₃ it o (Heap.lt_size hoi) (hs₂.extBut it o (Ne.symm I.ne.2.2) ho'), r⟩
    have hz₃ : s.heap.objs.size ≤ h₃.objs.size ∨ True := .inr trivial
    obtain ⟨m, p₁, tp, F⟩ := I.norm
    have lowB : ∀ b o, base.get? b = some o → b < B := fun b o q => Nat.lt_of_lt_of_le (Heap.lt_size q) hbase
    have F₃ := Fr.at' (h' := h₃) F (fun o q => k₃ Lg o I.ne.1 I.ne.2.1 q) (fun b o q => k₃ b o (Nat.ne_of_lt (Nat.lt_of_lt_of_le (lowB b o q) I.lo.2.1)) (Nat.ne_of_lt (Nat.lt_of_lt_of_le (lowB b o q) I.lo.2.2)) (F.keep b o q))
    have K₃ : Kept B G s₀.heap h₃ := fun b o q z => k₃ b o (by rcases q with q | q; exact Nat.ne_of_lt (Nat.lt_of_lt_of_le q I.lo.2.1); exact q ▸ hG.2.1) (by rcases q with q | q; exact Nat.ne_of_lt (Nat.lt_of_lt_of_le q I.lo.2.2); exact q ▸ hG.2.2) (K b o q z)
    show wpAny _ _ (do holding [_] (assign (.Name (Str.ofString "pos") _) (iterEnv Lg a cd) (.int i tk)); do holding [] (assign (.Name (Str.ofString "ch") _) (iterEnv Lg a cd) (.str ⟨#[c]⟩ u)); pure ()) _ _ _
    refine wpAny_bind (wpAny_holding (wpAny_assign_Name (wpAny_storeName_local (by with_unfolding_all rfl) F₃.ns (fun h₄ hn₄ hs₄ => ?_) (by with_unfolding_all rfl))))
    replace hs₄ : Heap.SameBut Lg h₃ h₄ := hs₄
    refine wpAny_bind (wpAny_holding (wpAny_assign_Name (wpAny_storeName_local (by with_unfolding_all rfl) hn₄ (fun h₅ hn₅ hs₅ => wpAny_pure ?_) (by with_unfolding_all rfl))))
    replace hs₅ : Heap.SameBut Lg h₄ h₅ := hs₅
    have k₅ : ∀ b o, b ≠ Lg → h₃.get? b = some o → h₅.get? b = some o := fun b o h1 q => hs₅.extBut b o h1 (hs₄.extBut b o h1 q)
    have F₅ : Fr base Lg h₅ _ := (F₃.set hn₄ hs₄).set hn₅ hs₅
    have he₅ := k₅ _ _ (Ne.symm I.ne.1) he₃
    have hi₅ : h₅.IsStrIter it (strIterType x) x t (i + 1) := let ⟨o, ho', r⟩ := hi₃; ⟨o, k₅ _ _ (Ne.symm I.ne.2.1) ho', r⟩
    have K₅ : Kept B G s₀.heap h₅ := K₃.trans fun b o q z => k₅ b o (by rcases q with q | q; exact Nat.ne_of_lt (Nat.lt_of_lt_of_le q I.lo.1); exact q ▸ hG.1) z
    have hB₅ : B ≤ h₅.objs.size := Nat.le_of_lt (Nat.lt_of_le_of_lt I.lo.1 F₅.ns.lt)
    show Seg _ _ _ _ _ _ _ _ _ (Shared.mk h₅ s.gens s.drawn (tk + 1 + 1 + 1) s.os)
    generalize tk + 1 + 1 + 1 = tk₅
    clear hs₅ hn₅ hs₄ hn₄ h₄ F₃ K₃ hi₃ he₃ k₃ k₅ old₃ hx₃ hz₃ h₃ hz₂ ht₂ hs₂ he₂ hse h₂ hk hsz hT hs' ho h₁
    -- the turn's end, whatever the way
    have back : ∀ (n : Nat) (esc' : Bool) (pre' : List Str) (s' s₀' : Shared), n = (yields cs esc').length → ys = pre' ++ yields cs esc' → ItIn base B Lg e it x t (i + 1) esc' s'.heap → Kept B G s₀'.heap s'.heap → Same s₀' s' → B ≤ s'.heap.objs.size →
        Seg (model PW w) A (iterR B G) (iterY base B G ys) n s₀' (iterFor (.ref e) Lg a cd) (forBack (forTarget (stAt 3 2)) (.ref e) (forBody (stAt 3 2)) [] (iterEnv Lg a cd) .next) [iterFrame Lg a cd p] s' :=
      fun n esc' pre' s' s₀' hn hy' I' K' S' hB' => hn ▸ seg_again rfl (ih (i + 1) esc' pre' s' s₀' hd' hlt hy' I' K' S' hB')
    have I₅ : ItIn base B Lg e it x t (i + 1) esc h₅ := ⟨⟨_, _, _, F₅, by with_unfolding_all rfl, by with_unfolding_all rfl⟩, ⟨_, he₅⟩, hi₅, I.lo, I.ne⟩
    with_unfolding_all refine seg_execs_cons (seg_If ?_)
    repeat walk1
    · rename esc = true => h1
      subst h1
      show Seg _ _ _ _ ((yields cs false).length + 1) _ _ _ _ _
      with_unfolding_all refine seg_execs_cons (seg_Expr_Yield rfl rfl rfl ?_)
      repeat walk1
      refine wpAny_newTuple ?_
      intro kap hkap
      refine ⟨h₅.objs.size, _, _, _, _, rfl, hB₅, Heap.get?_push_size _ rfl, by rw [hy]; exact rev_at pre (yields cs false) _, K₅.trans (fun b o _ q => Heap.get?_push_of_some _ q), S, fun s'' h1 h2 => hkap .none s'' ?_⟩
      have I₆ : ItIn base B Lg e it x t (i + 1) true s''.heap := I₅.goes (fun b o hb q => h1 b o hb (Heap.get?_push_of_some _ q)) h2
      obtain ⟨m₆, p₆, tp₆, F₆⟩ := I₆.norm
      with_unfolding_all refine seg_stmt ?_
      iterate 2 walk1
      refine wpAny_storeName_local (by with_unfolding_all rfl) F₆.ns (fun h₇ hn₇ hs₇ => ?_) (by with_unfolding_all rfl)
      have I₇ := I₆.store (h' := h₇) F₆ (by with_unfolding_all rfl) hn₇ hs₇
      obtain ⟨m₇, p₇, tp₇, F₇⟩ := I₇.norm
      exact back _ false (pre ++ [Str.ofString "\\" ++ ⟨#[c]⟩]) _ s'' rfl (by rw [hy]; simp [yields]) I₇ (kept_store hs₇ I.lo.1 hG.1) ⟨rfl, rfl, rfl⟩ (Nat.le_of_lt (Nat.lt_of_le_of_lt I.lo.1 F₇.ns.lt))
    · rename esc = false => h1
      subst h1
      with_unfolding_all refine seg_execs_cons (seg_If ?_)
      repeat walk1
      · rename (_ == _) = true => h1
        rw [sign_is back_is, decide_eq_true_eq] at h1
        subst h1
        show Seg _ _ _ _ (yields cs true).length _ _ _ _ _
        with_unfolding_all refine seg_stmt ?_
        iterate 2 walk1
        refine wpAny_storeName_local (by with_unfolding_all rfl) F₅.ns (fun h₇ hn₇ hs₇ => ?_) (by with_unfolding_all rfl)
        have I₇ := I₅.store (h' := h₇) F₅ (by with_unfolding_all rfl) hn₇ hs₇
        obtain ⟨m₇, p₇, tp₇, F₇⟩ := I₇.norm
        exact back _ true pre _ s₀ rfl (by rw [hy]; simp [yields]) I₇ (K₅.trans (kept_store hs₇ I.lo.1 hG.1)) S (Nat.le_of_lt (Nat.lt_of_le_of_lt I.lo.1 F₇.ns.lt))
      · rename (_ == _) = false => h1
        rw [sign_is back_is, decide_eq_false_iff_not] at h1
        have hys : yields (c :: cs) false = ⟨#[c]⟩ :: yields cs false := if_neg h1
        rw [hys]
        show Seg _ _ _ _ ((yields cs false).length + 1) _ _ _ _ _
        with_unfolding_all refine seg_execs_cons (seg_Expr_Yield rfl rfl rfl ?_)
        repeat walk1
        refine wpAny_newTuple ?_
        intro kap hkap
        refine ⟨h₅.objs.size, _, _, _, _, rfl, hB₅, Heap.get?_push_size _ rfl, by rw [hy, hys]; exact rev_at pre (yields cs false) _, K₅.trans (fun b o _ q => Heap.get?_push_of_some _ q), S, fun s'' h1 h2 => hkap .none s'' ?_⟩
        have I₆ : ItIn base B Lg e it x t (i + 1) false s''.heap := I₅.goes (fun b o hb q => h1 b o hb (Heap.get?_push_of_some _ q)) h2
        obtain ⟨m₆, p₆, tp₆, F₆⟩ := I₆.norm
        exact back _ false (pre ++ [⟨#[c]⟩]) _ s'' rfl (by rw [hy, hys]; simp) I₆ Kept.refl ⟨rfl, rfl, rfl⟩ (Nat.le_of_lt (Nat.lt_of_le_of_lt I.lo.1 F₆.ns.lt))
end Mine
end
section
open PySem PySem.W PySem.Calls PySem.Spec PyProof.Rows
namespace Mine
theorem iter_start (w : World) (A : Around) (hh : A.handled = none) (base : Heap) (B G Lg a : Addr) (cd : Value) (x : Str) (t : Tok) (ys : List Str) (s s₀ : Shared)
    (loose : List Str) (mean : ExcName → Option Value) (mg mb : Str → Option Value) (X : (KF w.params).In base) (T : Top viewQ loose mean mg mb base)
    (hbase : base.objs.size ≤ B) (hL : B ≤ Lg) (hG : G ≠ Lg) (hGs : G < s.heap.objs.size) (hy : ys = yields x.cps.toList false)
    (F : Fr base Lg s.heap (fun y => ([(Str.ofString "addr", Value.str x t)] : List (Str × Value)).reverse.lookup y)) (K : Kept B G s₀.heap s.heap) (S : Same s₀ s) (hK : KF = KF) :
    Seg (model PySem.Challenge.rw_wa0035_01.row.prog w) A (iterR B G) (iterY base B G ys) ys.length s₀ (.func (bodyOf 3) (iterEnv Lg a cd)) ((model PySem.Challenge.rw_wa0035_01.row.prog w).den (.func (bodyOf 3) (iterEnv Lg a cd))) [] s := by
  revert hK
  k_fill
  intro _
  refine seg_func ?_
  show Seg _ _ _ _ _ _ (.func (bodyOf 3) (iterEnv Lg a cd)) _ _ _
  with_unfolding_all refine seg_stmt ?_
  iterate 2 walk1
  refine wpAny_storeName_local (by with_unfolding_all rfl) F.ns (fun h₁ hn₁ hs₁ => ?_) (by with_unfolding_all rfl)
  have F₁ := F.set hn₁ hs₁
  have K₁ := K.trans (kept_store hs₁ hL hG)
  have hG₁ : G < h₁.objs.size := by rw [hs₁.1]; exact hGs
  clear hn₁ hs₁
  with_unfolding_all refine seg_stmt ?_
  iterate 2 walk1
  refine wpAny_storeName_local (by with_unfolding_all rfl) F₁.ns (fun h₂ hn₂ hs₂ => ?_) (by with_unfolding_all rfl)
  have F₂ := F₁.set hn₂ hs₂
  have K₂ := K₁.trans (kept_store hs₂ hL hG)
  have hG₂ : G < h₂.objs.size := by rw [hs₂.1]; exact hG₁
  clear hn₂ hs₂ F F₁ K K₁
  with_unfolding_all refine seg_execs_cons (seg_For ?_)
  k_steps
  refine call_enumerate_str fun h₃ he hi hz hk => ?_
  refine wpAny_pyIter_enum he ?_
  intro p
  replace hz : h₃.objs.size = h₂.objs.size + 2 := hz
  replace hk : ∀ b o, h₂.get? b = some o → h₃.get? b = some o := hk
  have F₃ := Fr.at' (h' := h₃) F₂ (fun o q => hk Lg o q) (fun b o q => hk b o (F₂.keep b o q))
  have hLz : Lg < h₂.objs.size := F₂.ns.lt
  have hLB : B < h₂.objs.size := Nat.lt_of_le_of_lt hL hLz
  have e1 : (fun y => if y = Str.ofString "escape" then some (Value.bool false) else if y = Str.ofString "pos" then some (Value.int 0 s.toks) else List.lookup y [(Str.ofString "addr", Value.str x t)].reverse) (Str.ofString "escape") = some (.bool false) := by with_unfolding_all rfl
  have e2 : (fun y => if y = Str.ofString "escape" then some (Value.bool false) else if y = Str.ofString "pos" then some (Value.int 0 s.toks) else List.lookup y [(Str.ofString "addr", Value.str x t)].reverse) (Str.ofString "pos") = some (.int 0 s.toks) := by with_unfolding_all rfl
  have I₃ : ItIn base B Lg (h₂.objs.size + 1) h₂.objs.size x t 0 false h₃ :=
    ⟨⟨_, 0, s.toks, F₃, e1, e2⟩, ⟨_, he⟩, hi, ⟨hL, Nat.le_succ_of_le (Nat.le_of_lt hLB), Nat.le_of_lt hLB⟩, Nat.ne_of_lt (Nat.lt_succ_of_lt hLz), Nat.ne_of_lt hLz, Nat.succ_ne_self _⟩
  rw [show ys.length = (yields x.cps.toList false).length from by rw [hy]]
  exact iter_loop w A hh base B G Lg a (h₂.objs.size + 1) h₂.objs.size cd x t ys p hbase
    ⟨hG, Nat.ne_of_lt (Nat.lt_succ_of_lt hG₂), Nat.ne_of_lt hG₂⟩ x.cps.toList 0 false [] ⟨h₃, s.gens, s.drawn, s.toks + 1 + 1 + 1, s.os⟩ s₀ rfl (Nat.zero_le _) (by rw [hy]; rfl)
    I₃ (K₂.trans fun b o _ q => hk b o q) S (by show B ≤ h₃.objs.size; rw [hz]; exact Nat.le_of_lt (Nat.lt_of_lt_of_le hLB (Nat.le_add_right _ _)))

theorem ctr_use {w : World} {f : Addr} {need : Nat} {vs : List Value} {news : List (Addr × Obj)} {post : Value → List (Addr × Obj) → Prop} (C : Ctr w f need vs news post)
    {loose : List Str} {mean : ExcName → Option Value} {mg mb : Str → Option Value}
   {dp un : Nat} {gd : Option (List Code)} {cn : Str} {cs : Scope} {a : Addr} {ccd : Value} {cl : List (Str × Addr)} {outer : List Env} {A₀ : Around} {base h₀ : Heap} {L : Addr} {m : Str → Option Value} {s : Shared}
    {Q E : Value → Shared → Prop} (B : Below A₀ base outer h₀) (F : Fr h₀ L s.heap m) (X : (KF w.params).In h₀) (N : News h₀ L s.heap news) (T : Top viewQ loose mean mg mb h₀) (hk : cs.kind = .function) (hd : dp + need < recursionLimit) (hu : un + 8 * need < cLine) (hg : AllBare s.gens)
    (ret : ∀ r news' h' tk' g', Fr h₀ L h' m → News h₀ L h' news' → post r news' → AllBare g' → Q r { s with heap := h', toks := tk', gens := g' }) :
    wpAny (model PySem.Challenge.rw_wa0035_01.row.prog w) (ktrTop dp un gd cn cs L a ccd cl outer) (call (.ref f) vs) Q E s :=
  C loose mean mg mb dp un gd cn cs a ccd cl outer A₀ base h₀ L m s Q E B F X N T hk hd hu hg ret

local macro_rules | `(tactic| walk_at "call ref") => `(tactic| (k_here; (with_reducible show wpAny _ _ (call (Value.ref 35) [Value.str _ _]) _ _ _); (refine' ctr_use (strip_ctr _ _ _ _ (by assumption)) ?k1 ?k2 ?k3 ?k4 ?k5 ?kK ?kd ?ku ?kg ?_; (case k1 => k_asm); (case k2 => k_asm); (case k3 => k_asm); (case k4 => k_asm); (case k5 => k_asm); (case kK => first | exact rfl | assumption); (case kd => ktr_room); (case ku => ktr_units); (case kg => assumption)); intro r9 n9 h9 tk9 g9 F9 N9 p9 b9; obtain ⟨e9, e8⟩ := p9; subst e9; subst e8; (try dsimp only); (try k_fold)))


noncomputable abbrev fd28 : FuncData := fdOf 3 (Value.str (Str.ofString "cpy313.email.utils") 197) (.ref 27)
theorem gen_call {w : World} {x : Str} {t : Tok} {A : Around} {h₀ : Heap} {L : Addr} {m : Str → Option Value} {s : Shared} {loose : List Str} {mean : ExcName → Option Value} {mg mb : Str → Option Value}
    {Q E : Value → Shared → Prop} (F : Fr h₀ L s.heap m) (X : (KF w.params).In h₀) (T : Top viewQ loose mean mg mb h₀) (hroom : A.depth < recursionLimit)
    (h : ∀ h' tk, (∀ b o, s.heap.get? b = some o → h'.get? b = some o) → Fr h₀ s.heap.objs.size h' (fun y => ([(Str.ofString "addr", Value.str x t)] : List (Str × Value)).reverse.lookup y) → h'.IsGen (s.heap.objs.size + 1) s.gens.size →
      Q (.ref (s.heap.objs.size + 1)) { s with heap := h', toks := tk, gens := s.gens.push (.fresh (.func (bodyOf 3) (iterEnv s.heap.objs.size 28 (.ref 27)))) }) :
    wpAny (model PySem.Challenge.rw_wa0035_01.row.prog w) A (call (.ref 28) [.str x t]) Q E s := by
  have Xs := X.keeps F.keep
  have hlim : s.heap.NoLimit := T.nolimit.keeps F.keep
  refine wpAny_call ?_
  have ho : s.heap.get? 28 = some (Obj.mk (Value.type "function") none (Data.func fd28) #[]) := Xs 28 _ (by kernel_rfl)
  have hcd : s.heap.CodeRec (.ref 27) (nameOf 3) := ⟨27, (((KF w.params).lookup 27).getD default), _, 200, rfl, Xs 27 _ (by kernel_rfl), rfl, by kernel_rfl⟩
  refine codeAny_call_generator (fd := fd28) (body := bodyOf 3) hroom ho rfl (by kernel_rfl) (by kernel_rfl) (by kernel_rfl) hcd ?_
  rw [show bindArgs fd28 ⟨[.str x t], []⟩ = pure [(Str.ofString "addr", Value.str x t)] from by kernel_rfl]
  refine wpAny_pure (wpAny_newFunctionEnv (by decide +kernel) (by intro y hy; rw [List.mem_singleton] at hy; subst hy; show List.lookup (Str.ofString "addr") fd28.scope.names = some NameKind.local; decide +kernel) (fun h₁ hns hsb => ⟨hlim.fresh _ hsb, ?_⟩) (by kernel_rfl))
  replace hns : h₁.Ns s.heap.objs.size (fun y => ([(Str.ofString "addr", Value.str x t)] : List (Str × Value)).reverse.lookup y) := hns
  have hz : h₁.objs.size = s.heap.objs.size + 1 := hsb.1.trans (Heap.size_push ..)
  have hk : ∀ b o, s.heap.get? b = some o → h₁.get? b = some o := fun b o q => hsb.extBut b o (Nat.ne_of_lt (Heap.lt_size q)) (Heap.get?_push_of_some _ q)
  have key := h (h₁.push { cls := .type "generator", data := .fields #[.int s.gens.size 0, .str fd28.name (s.toks + 1), .str fd28.qualname (s.toks + 1 + 1)] }) (s.toks + 1 + 1 + 1)
    (fun b o q => Heap.get?_push_of_some _ (hk b o q))
    ⟨hns.at fun o q => Heap.get?_push_of_some _ q, fun b o q => Heap.get?_push_of_some _ (hk b o (F.keep b o q)), Nat.le_of_lt (Nat.lt_of_le_of_lt F.above F.ns.lt)⟩
    ⟨_, _, _, by rw [← hz]; exact Heap.get?_push_size _ rfl, rfl, rfl, rfl⟩
  rw [← hz] at key
  exact key
end Mine
end
section
open PySem PySem.W PySem.Calls PySem.Spec PyProof.Rows
namespace Mine
noncomputable def par (y : Str) : Int := if y = Str.ofString "(" then 1 else if y = Str.ofString ")" then -1 else 0
noncomputable def total (ys : List Str) : Int := (ys.map par).sum

theorem total_app (pre : List Str) (y : Str) : total (pre ++ [y]) = total pre + par y := by simp [total]
theorem par_open {y : Str} (h : (y == Str.ofString "(") = true) : par y = 1 := by rw [beq_iff_eq] at h; exact if_pos h
theorem par_close {y : Str} (h : (y == Str.ofString ")") = true) : par y = -1 := by
  rw [beq_iff_eq] at h
  have ne : ¬ Str.ofString ")" = Str.ofString "(" := by decide +kernel
  unfold par
  rw [h, if_neg ne, if_pos rfl]
theorem par_other {y : Str} (h : (y == Str.ofString "(") = false) (h' : (y == Str.ofString ")") = false) : par y = 0 := by
  rw [beq_eq_false_iff_ne] at h h'
  unfold par
  rw [if_neg h, if_neg h']
theorem letGo_gen {prog : Program} {w : World} {A : Around} {E : Value → Shared → Prop} {s : Shared} {elts : List Expr} {x1} {pos : Pos} {a T : Addr} {g : Nat} {Q : Unit → Shared → Prop} (hg : s.heap.IsGen a g) (h : Q () s) :
    wpAny (model prog w) A (letOwnedTupleGo (.Tuple elts x1 pos) (.ref a) (.ref T)) Q E s := by
  obtain ⟨o, nm, qn, ho, hc, hd, hs⟩ := hg
  unfold letOwnedTupleGo
  refine wpAny_bind (wpAny_load ho ?_)
  rw [hc, hd]
  show wpAny _ A (if (["enumerate", "zip", "dict_itemiterator", "dict_reverseitemiterator", "odict_iterator", "itertools.zip_longest", "itertools.pairwise"].contains "generator" && _) = true then _ else _) Q E s
  rw [if_neg (by simp)]
  exact wpAny_pure h

noncomputable abbrev chkEnv (L a : Addr) (cd : Value) : Env := envOf (nameOf 5) (scopeOf 5) L a cd
structure ChkIn (base : Heap) (B G L : Addr) (g : Nat) (ys : List Str) (news : List (Addr × Obj)) (w : World) (A : Around) (suf : List Str) (h : Heap) (gens : Array GenState) : Prop where
  fr : ∃ (m : Str → Option Value) (pre : List Str) (tk : Tok), Fr base L h m ∧ m (Str.ofString "opens") = some (.int (total pre) tk) ∧ ys = pre ++ suf
  nw : News base L h news
  gn : h.IsGen G g
  gs : ∃ gs, gens[g]? = some gs ∧ ∀ s'' : Shared, (∀ b o, B ≤ b → h.get? b = some o → s''.heap.get? b = some o) → (∀ b o, base.get? b = some o → s''.heap.get? b = some o) →
    gs.Goes (model PW w) A.in1 (iterR B G) (iterY base B G ys) suf.length (.send .none) s''
  br : ∀ i y, gens[i]? = some y → i ≠ g → y.bare = true
  lo : L < B ∧ B ≤ G

theorem bare_set {gens : Array GenState} {g : Nat} {y z : GenState} (h : ∀ i y, gens[i]? = some y → i ≠ g → y.bare = true) (hz : z.bare = true) : AllBare ((gens.setIfInBounds g y).setIfInBounds g z) := by
  intro x hx
  obtain ⟨i, hi, rfl⟩ := Array.mem_iff_getElem.mp hx
  by_cases q : i = g
  · subst q; simpa using hz
  · have e : ((gens.setIfInBounds g y).setIfInBounds g z)[i]? = gens[i]? := by rw [Array.getElem?_setIfInBounds_ne (Ne.symm q), Array.getElem?_setIfInBounds_ne (Ne.symm q)]
    exact h i _ (e.symm.trans (Array.getElem?_eq_getElem hi)) q
theorem bare_but {gens : Array GenState} {g : Nat} {y z : GenState} (h : ∀ i y, gens[i]? = some y → i ≠ g → y.bare = true) : ∀ i x, ((gens.setIfInBounds g y).setIfInBounds g z)[i]? = some x → i ≠ g → x.bare = true := by
  intro i x hx q
  rw [Array.getElem?_setIfInBounds_ne (Ne.symm q), Array.getElem?_setIfInBounds_ne (Ne.symm q)] at hx
  exact h i x hx q

theorem check_loop (w : World) (A : Around) (hh : A.handled = none) (hroom : A.depth < recursionLimit) (base : Heap) (hnl : base.NoLimit) (B G L a : Addr) (g : Nat) (cd : Value) (ys : List Str) (news : List (Addr × Obj)) (hnews : ∀ p ∈ news, p.1 < B) (hbase : base.objs.size ≤ B)
    (hnn : ∀ pre suf, ys = pre ++ suf → 0 ≤ total pre) (R : Result → Shared → Prop) (s : Shared) (suf : List Str) (I₀ : ChkIn base B G L g ys news w A suf s.heap s.gens)
    (hR : ∀ h' tk' g' m tk, Fr base L h' m → m (Str.ofString "opens") = some (.int (total ys) tk) → News base L h' news → AllBare g' → R (.ok .next) { s with heap := h', toks := tk', gens := g' }) :
    codeAny (model PW w) A (.forLoop (forTarget (stAt 5 2)) (.ref G) (forBody (stAt 5 2)) [] (chkEnv L a cd)) R s := by
  refine codeAny_forLoop_any (fun n s' => ∃ suf h tk g', s' = { s with heap := h, toks := tk, gens := g' } ∧ n = suf.length ∧ ChkIn base B G L g ys news w A suf h g') ?_ suf.length ⟨suf, s.heap, s.toks, s.gens, rfl, rfl, I₀⟩
  rintro n s' ⟨suf, h, tk, gens, rfl, rfl, I⟩
  obtain ⟨gs, hgs, hgo⟩ := I.gs
  obtain ⟨m, pre, tko, F, e1, hys⟩ := I.fr
  refine wpAny_pyNext_gen (P := fun k s₀ s' => k = 0 ∧ Kept B G s₀.heap s'.heap ∧ Same s₀ s') hh (hnl.keeps F.keep) hroom I.gn hgs (hgo _ (fun _ _ _ q => q) F.keep) ?_ ?_
  · rintro v ⟨hp₁, g₁, d₁, t₁, o₁⟩ gs' ⟨T, p, tp, y, ty, rfl, hBT, hT, hy, K, ⟨S1, S2, S3⟩, hkap⟩
    replace S1 : g₁ = gens.setIfInBounds g .running := S1
    replace S2 : d₁ = s.drawn := S2
    replace S3 : o₁ = s.os := S3
    replace K : Kept B G h hp₁ := K
    replace hT : hp₁.get? T = some { cls := .type "tuple", data := .seq #[.int p tp, .str y ty] } := hT
    subst S1 S2 S3
    cases suf with
    | nil => exact (hkap _ (fun _ _ _ q => q) (fun b o q => K b o (.inl (Nat.lt_of_lt_of_le (Heap.lt_size q) hbase)) (F.keep b o q))).elim
    | cons y' suf =>
      have hyy : y = y' := by
        rw [hys] at hy
        exact Option.some.inj (hy.symm.trans (rev_at pre suf y'))
      subst hyy
      have hgn₁ : hp₁.IsGen G g := let ⟨o, nm, qn, ho, r⟩ := I.gn; ⟨o, nm, qn, K G o (.inr rfl) ho, r⟩
      refine letGo_gen hgn₁ ?_
      refine wpAny_assign_Tuple hh (items := #[.int p tp, .str y ty]) ⟨_, hT, rfl, _, rfl⟩ rfl rfl fun h₃ hx₃ => ?_
      replace hx₃ : Heap.ExtBut hp₁.objs.size hp₁ h₃ := hx₃
      have k₃ : ∀ b o, hp₁.get? b = some o → h₃.get? b = some o := fun b o q => hx₃ b o (Nat.ne_of_lt (Heap.lt_size q)) q
      have low : ∀ b o, base.get? b = some o → b < B := fun b o q => Nat.lt_of_lt_of_le (Heap.lt_size q) hbase
      have F₃ : Fr base L h₃ m := Fr.at' F (fun o q => k₃ _ _ (K L o (.inl I.lo.1) q)) (fun b o q => k₃ _ _ (K b o (.inl (low b o q)) (F.keep b o q)))
      have N₃ : News base L h₃ news := fun p hp => ⟨k₃ _ _ (K _ _ (.inl (hnews p hp)) (I.nw p hp).1), (I.nw p hp).2⟩
      show wpAny _ _ (do holding [_] (assign (.Name (Str.ofString "pos") _) (chkEnv L a cd) (.int p tp)); do holding [] (assign (.Name (Str.ofString "ch") _) (chkEnv L a cd) (.str y ty)); pure ()) _ _ _
      refine wpAny_bind (wpAny_holding (wpAny_assign_Name (wpAny_storeName_local (by with_unfolding_all rfl) F₃.ns (fun h₄ hn₄ hs₄ => ?_) (by with_unfolding_all rfl))))
      replace hs₄ : Heap.SameBut L h₃ h₄ := hs₄
      refine wpAny_bind (wpAny_holding (wpAny_assign_Name (wpAny_storeName_local (by with_unfolding_all rfl) hn₄ (fun h₅ hn₅ hs₅ => wpAny_pure ?_) (by with_unfolding_all rfl))))
      replace hs₅ : Heap.SameBut L h₄ h₅ := hs₅
      have N₅ := (N₃.set hs₄).set hs₅
      have F₅ := (F₃.set hn₄ hs₄).set hn₅ hs₅
      have k₅ : ∀ b o, B ≤ b → hp₁.get? b = some o → h₅.get? b = some o := fun b o hb q =>
        hs₅.extBut b o (Nat.ne_of_gt (Nat.lt_of_lt_of_le I.lo.1 hb)) (hs₄.extBut b o (Nat.ne_of_gt (Nat.lt_of_lt_of_le I.lo.1 hb)) (k₃ b o q))
      show wpAny _ _ _ _ _ (Shared.mk h₅ ((gens.setIfInBounds g .running).setIfInBounds g gs') s.drawn (t₁ + 1 + 1) s.os)
      generalize t₁ + 1 + 1 = t₅
      -- the turn's end, whatever the way
      have hgl : g < gens.size := (Array.getElem?_eq_some_iff.mp hgs).1
      have back : ∀ (h₆ : Heap) (m₆ : Str → Option Value) (tk₆ t₆ : Tok), Fr base L h₆ m₆ → m₆ (Str.ofString "opens") = some (.int (total (pre ++ [y])) tk₆) → News base L h₆ news → (∀ b o, B ≤ b → h₅.get? b = some o → h₆.get? b = some o) →
          ∃ n, n < (y :: suf).length ∧ ∃ suf' h tk g', Shared.mk h₆ ((gens.setIfInBounds g .running).setIfInBounds g gs') s.drawn t₆ s.os = { s with heap := h, toks := tk, gens := g' } ∧ n = suf'.length ∧ ChkIn base B G L g ys news w A suf' h g' := by
        intro h₆ m₆ tk₆ t₆ F₆ e₆ N₆ k₆
        refine ⟨suf.length, Nat.lt_succ_self _, suf, h₆, t₆, _, rfl, rfl, ⟨m₆, pre ++ [y], tk₆, F₆, e₆, by rw [hys]; simp⟩, N₆, ?_, ⟨gs', by simp [hgl], ?_⟩, bare_but I.br, I.lo⟩
        · obtain ⟨o, nm, qn, ho, r⟩ := hgn₁
          exact ⟨o, nm, qn, k₆ G o I.lo.2 (k₅ G o I.lo.2 ho), r⟩
        · intro s'' h1 h2
          exact hkap s'' (fun b o hb q => h1 b o hb (k₆ b o hb (k₅ b o hb q))) h2
      clear hkap hs₅ hn₅ hs₄ hn₄ h₄ N₃ F₃ k₃ hx₃ h₃ k₅
      have e0 : (fun x => if x = Str.ofString "ch" then some (Value.str y ty) else if x = Str.ofString "pos" then some (Value.int p tp) else m x) =
          (fun x => if x = Str.ofString "ch" then some (Value.str y ty) else if x = Str.ofString "pos" then some (Value.int p tp) else if x = Str.ofString "opens" then some (.int (total pre) tko) else m x) := by
        funext x
        split
        · rfl
        · split
          · rfl
          · split
            · rename_i q; rw [q, e1]
            · rfl
      rw [e0] at F₅
      with_unfolding_all refine wpAny_execs_cons ?_
      repeat (fail_if_success (with_reducible show wpAny _ _ (storeName _ _ _) _ _ _)); walk1
      · rename (_ == _) = true => h1
        have hp1 : total (pre ++ [y]) = total pre + 1 := by rw [total_app, par_open h1]
        refine wpAny_storeName_local (by with_unfolding_all rfl) F₅.ns (fun h₆ hn₆ hs₆ => ?_) (by with_unfolding_all rfl)
        refine wpAny_execs_nil (wpAny_execs_nil ?_)
        exact back h₆ _ _ _ (F₅.set hn₆ hs₆) (by rw [hp1]; exact if_pos rfl) (N₅.set hs₆) (fun b o hb q => hs₆.extBut b o (Nat.ne_of_gt (Nat.lt_of_lt_of_le I.lo.1 hb)) q)
      · rename (_ == _) = false => h0
        repeat (fail_if_success (with_reducible show wpAny _ _ (storeName _ _ _) _ _ _)); walk1
        · rename (_ == _) = true => h1
          have hp1 : total (pre ++ [y]) = total pre - 1 := by rw [total_app, par_close h1]; rfl
          have hge := hnn (pre ++ [y]) suf (by rw [hys]; simp)
          rw [hp1] at hge
          refine wpAny_storeName_local (by with_unfolding_all rfl) F₅.ns (fun h₆ hn₆ hs₆ => ?_) (by with_unfolding_all rfl)
          have F₆ := F₅.set hn₆ hs₆
          repeat walk1
          · omega
          · repeat refine wpAny_execs_nil ?_
            exact back h₆ _ _ _ F₆ (by rw [hp1]; exact if_pos rfl) (N₅.set hs₆) (fun b o hb q => hs₆.extBut b o (Nat.ne_of_gt (Nat.lt_of_lt_of_le I.lo.1 hb)) q)
        · rename (_ == _) = false => h1
          have hp1 : total (pre ++ [y]) = total pre := by rw [total_app, par_other h0 h1, Int.add_zero]
          repeat refine wpAny_execs_nil ?_
          exact back h₅ _ _ _ F₅ (by rw [hp1]; with_unfolding_all rfl) N₅ (fun b o hb q => q)
  · rintro ⟨hp₁, g₁, d₁, t₁, o₁⟩ ⟨h0, K, ⟨S1, S2, S3⟩⟩ h' hk
    replace S1 : g₁ = gens.setIfInBounds g .running := S1
    replace S2 : d₁ = s.drawn := S2
    replace S3 : o₁ = s.os := S3
    replace K : Kept B G h hp₁ := K
    subst S1 S2 S3
    obtain rfl : suf = [] := List.length_eq_zero_iff.mp h0
    refine wpAny_execs_nil ?_
    have low : ∀ b o, base.get? b = some o → b < B := fun b o q => Nat.lt_of_lt_of_le (Heap.lt_size q) hbase
    refine hR h' t₁ _ m tko (Fr.at' F (fun o q => hk _ _ (K L o (.inl I.lo.1) q)) (fun b o q => hk _ _ (K b o (.inl (low b o q)) (F.keep b o q)))) (by rw [hys, List.append_nil]; exact e1)
      (fun p hp => ⟨hk _ _ (K _ _ (.inl (hnews p hp)) (I.nw p hp).1), (I.nw p hp).2⟩) (bare_set I.br rfl)
end Mine
end
section
open PySem PySem.W PySem.Calls PySem.Spec PyProof.Rows
namespace Mine
local macro_rules | `(tactic| walk_at "call ref") => `(tactic| (k_here; (with_reducible show wpAny _ _ (call (Value.ref 35) [Value.str _ _]) _ _ _); (refine' ctr_use (strip_ctr _ _ _ _ (by assumption)) ?k1 ?k2 ?k3 ?k4 ?k5 ?kK ?kd ?ku ?kg ?_; (case k1 => k_asm); (case k2 => k_asm); (case k3 => k_asm); (case k4 => k_asm); (case k5 => k_asm); (case kK => first | exact rfl | assumption); (case kd => ktr_room); (case ku => ktr_units); (case kg => assumption)); intro r9 n9 h9 tk9 g9 F9 N9 p9 b9; obtain ⟨e9, e8⟩ := p9; subst e9; subst e8; (try dsimp only); (try k_fold)))

theorem bare_push {gens : Array GenState} {z : GenState} (h : AllBare gens) : ∀ i y, (gens.push z)[i]? = some y → i ≠ gens.size → y.bare = true := fun i y hy hi => by
  have hlt : i < gens.size := by
    have := (Array.getElem?_eq_some_iff.mp hy).1
    rw [Array.size_push] at this
    exact Nat.lt_of_le_of_ne (Nat.le_of_lt_succ this) hi
  rw [Array.getElem?_push_lt hlt] at hy
  exact h y (Option.some.inj hy ▸ Array.getElem_mem _)
theorem check_ctr (w : World) (x : Str) (t : Tok) (news : List (Addr × Obj)) (hx : 34 ∉ x.cps.toList) (hnn : ∀ pre suf, yields x.cps.toList false = pre ++ suf → 0 ≤ total pre) :
    Ctr w 42 4 [.str x t] news (fun r n' => n' = news ∧ r = .bool (decide (total (yields x.cps.toList false) = 0))) := by
  unfold Ctr
  k_fill
  intro loose mean mg mb dp un gd cn cs a ccd cl outer A₀ base h₀ L m s Q E B F X N T hk hd hu hg hret
  refine wpAny_call ?_
  k_dflt ktr_enter
  k_steps
  with_unfolding_all refine wpAny_For ?_
  k_steps
  rename Fr _ _ _ _ => F1
  rename News _ _ _ _ => N1
  rename AllBare _ => hg1
  rename Heap => hc
  rename Array GenState => gc
  refine gen_call F1 (by assumption) (by assumption) (by ktr_room) fun h₂ tk₂ hk₂ FG hgen => ?_
  refine wpAny_pyIter_gen hgen ?_
  rename Top _ _ _ _ _ _ => T1
  rename Frag.In _ _ => X1
  with_unfolding_all show codeAny (model PW w) _ (.forLoop (forTarget (stAt 5 2)) (.ref (hc.objs.size + 1)) (forBody (stAt 5 2)) [] (chkEnv _ 42 (.ref 41))) _ _
  refine check_loop w _ ?hnd ?room _ T1.nolimit hc.objs.size (hc.objs.size + 1) _ 42 gc.size (.ref 41) (yields x.cps.toList false) _ (fun p hp => Heap.lt_size (N1 p hp).1) (Nat.le_of_lt (Nat.lt_of_le_of_lt F1.above F1.ns.lt)) hnn _ _ (yields x.cps.toList false) ?inv ?_
  case hnd => rfl
  case room => ktr_room
  case inv =>
    refine ⟨⟨_, [], _, Fr.at' F1 (fun o q => hk₂ _ o q) (fun b o q => hk₂ b o (F1.keep b o q)), by with_unfolding_all rfl, rfl⟩, fun p hp => ⟨hk₂ _ _ (N1 p hp).1, (N1 p hp).2⟩, hgen, ⟨_, Array.getElem?_push_size, fun s'' h1 h2 => ?_⟩, bare_push hg1, ⟨F1.ns.lt, Nat.le_succ _⟩⟩
    refine ⟨rfl, ?_⟩
    exact iter_start w _ rfl _ _ _ _ 28 _ x t _ s'' s'' loose mean mg mb X1 T1 (Nat.le_of_lt (Nat.lt_of_le_of_lt F1.above F1.ns.lt)) (Nat.le_refl _) (Nat.succ_ne_self _) (by
      obtain ⟨o, _, _, ho, _⟩ := hgen
      exact Heap.lt_size (h1 _ _ (Nat.le_succ _) ho)) rfl (Fr.at' FG (fun o q => h1 _ o (Nat.le_refl _) q) h2) Kept.refl ⟨rfl, rfl, rfl⟩ rfl
  intro h₃ tk₃ g₃ m₃ to₃ F3 e3 N3 hb3
  have em : m₃ = (fun y => if y = Str.ofString "opens" then some (Value.int (total (yields x.cps.toList false)) to₃) else m₃ y) := by
    funext y
    split
    · rename_i q; rw [q, e3]
    · rfl
  rw [em] at F3
  dsimp only
  k_steps
  exact hret _ _ _ _ _ (by assumption) (by assumption) ⟨rfl, rfl⟩ hb3
end Mine
end
section
open PySem PySem.W PySem.Calls PySem.Spec PyProof.Rows
namespace Mine
local macro_rules | `(tactic| walk_at "idle 0") => `(tactic| fail)
local macro_rules | `(tactic| walk_at "idle 1") => `(tactic| fail)
noncomputable abbrev tupOf (its : Array Value) : Obj := { cls := .type "tuple", data := .seq its 0 }
/-- as Ctr, of a call that makes no generator -/
noncomputable def Ctr1 (w : World) (f : Addr) (need : Nat) (vs : List Value) (news : List (Addr × Obj)) (post : Value → List (Addr × Obj) → Prop) : Prop :=
  ∀ (loose : List Str) (mean : ExcName → Option Value) (mg mb : Str → Option Value)
   (dp un : Nat) (gd : Option (List Code)) (cn : Str) (cs : Scope) (a : Addr) (ccd : Value) (cl : List (Str × Addr)) (outer : List Env) (A₀ : Around) (base h₀ : Heap) (L : Addr) (m : Str → Option Value) (s : Shared)
    (Q E : Value → Shared → Prop),
    Below A₀ base outer h₀ → Fr h₀ L s.heap m → (KF w.params).In h₀ → News h₀ L s.heap news → Top viewQ loose mean mg mb h₀ → cs.kind = .function → dp + need < recursionLimit → un + 8 * need < cLine →
    (∀ r news' h' tk', Fr h₀ L h' m → News h₀ L h' news' → post r news' → Q r { s with heap := h', toks := tk' }) →
    wpAny (model PySem.Challenge.rw_wa0035_01.row.prog w) (ktrTop dp un gd cn cs L a ccd cl outer) (call (.ref f) vs) Q E s
theorem Ctr1.ctr {w : World} {f : Addr} {need : Nat} {vs : List Value} {news : List (Addr × Obj)} {post : Value → List (Addr × Obj) → Prop} (C : Ctr1 w f need vs news post) : Ctr w f need vs news post :=
  fun loose mean mg mb dp un gd cn cs a ccd cl outer A₀ base h₀ L m s Q E B F X N T hk hd hu hg hret =>
    C loose mean mg mb dp un gd cn cs a ccd cl outer A₀ base h₀ L m s Q E B F X N T hk hd hu fun r n' h' tk' F' N' p => hret r n' h' tk' s.gens F' N' p hg
theorem ctr1_use {w : World} {f : Addr} {need : Nat} {vs : List Value} {news : List (Addr × Obj)} {post : Value → List (Addr × Obj) → Prop} (C : Ctr1 w f need vs news post)
    {loose : List Str} {mean : ExcName → Option Value} {mg mb : Str → Option Value}
   {dp un : Nat} {gd : Option (List Code)} {cn : Str} {cs : Scope} {a : Addr} {ccd : Value} {cl : List (Str × Addr)} {outer : List Env} {A₀ : Around} {base h₀ : Heap} {L : Addr} {m : Str → Option Value} {s : Shared}
    {Q E : Value → Shared → Prop} (B : Below A₀ base outer h₀) (F : Fr h₀ L s.heap m) (X : (KF w.params).In h₀) (N : News h₀ L s.heap news) (T : Top viewQ loose mean mg mb h₀) (hk : cs.kind = .function) (hd : dp + need < recursionLimit) (hu : un + 8 * need < cLine)
    (ret : ∀ r news' h' tk', Fr h₀ L h' m → News h₀ L h' news' → post r news' → Q r { s with heap := h', toks := tk' }) :
    wpAny (model PySem.Challenge.rw_wa0035_01.row.prog w) (ktrTop dp un gd cn cs L a ccd cl outer) (call (.ref f) vs) Q E s :=
  C loose mean mg mb dp un gd cn cs a ccd cl outer A₀ base h₀ L m s Q E B F X N T hk hd hu ret
theorem strcoll_ctr1 (w : World) (x y : Str) (t t' : Tok) (news : List (Addr × Obj)) :
    Ctr1 w 21 1 [.str x t, .str y t'] news (fun r n' => n' = news ∧ ∃ tk, r = .int (b2i (decide (y.cps.toList < x.cps.toList)) - b2i (decide (x.cps.toList < y.cps.toList))) tk) := by
  unfold Ctr1
  k_fill
  intro loose mean mg mb dp un gd cn cs a ccd cl outer A₀ base h₀ L m s Q E B F X N T hk hd hu hret
  refine wpAny_call ?_
  k_dflt ktr_enter
  k_steps
  exact hret _ _ _ _ (by assumption) (by assumption) ⟨rfl, _, rfl⟩
local macro_rules | `(tactic| k_all) => `(tactic| assumption)
local macro_rules | `(tactic| walk_at "call ref") => `(tactic| (k_here; (with_reducible show wpAny _ _ (call (Value.ref 21) [Value.str _ _, Value.str _ _]) _ _ _); (refine' ctr1_use (strcoll_ctr1 _ _ _ _ _ _) ?k1 ?k2 ?k3 ?k4 ?k5 ?kK ?kd ?ku ?_; (case k1 => k_asm); (case k2 => k_asm); (case k3 => k_asm); (case k4 => k_asm); (case k5 => k_asm); (case kK => first | exact rfl | assumption); (case kd => ktr_room); (case ku => ktr_units)); intro r9 n9 h9 tk9 F9 N9 p9; obtain ⟨e9, tk8, e8⟩ := p9; subst e9; subst e8; (try dsimp only); (try k_fold)))
theorem ne_tup {h₀ h : Heap} {L : Addr} {n : List (Addr × Obj)} {a b : Nat} {x y : Array Value} {k : Nat} (N : News h₀ L h n) (h1 : (a, tupOf x) ∈ n) (h2 : (b, listOf y k) ∈ n) : a ≠ b := by
  rintro rfl
  have := (N.get h1).symm.trans (N.get h2)
  injection this with this
  injection this with this
  revert this
  decide
theorem ne_lst {h₀ h : Heap} {L : Addr} {n : List (Addr × Obj)} {a b : Nat} {x y : Array Value} {k : Nat} (N : News h₀ L h n) (h1 : (a, listOf x 0) ∈ n) (h2 : (b, listOf y (k + 1)) ∈ n) : a ≠ b := by
  rintro rfl
  have := (N.get h1).symm.trans (N.get h2)
  injection this with this
  injection this with _ _ this
  injection this with _ this
  cases this
theorem coll_neg {x y : List Nat} (h : b2i (decide (y < x)) - b2i (decide (x < y)) < 0) : x < y := by
  by_cases q : x < y
  · exact q
  · exfalso
    rw [decide_eq_false q] at h
    cases z : decide (y < x) <;> rw [z] at h <;> revert h <;> decide
theorem coll_pos {x y : List Nat} (h : ¬ b2i (decide (y < x)) - b2i (decide (x < y)) < 0) : ¬ x < y := by
  intro q
  apply h
  rw [decide_eq_true q, decide_eq_false (List.lt_asymm q)]
  decide
theorem duel_ctr1 (w : World) (o p t1 t2 dl : Nat) (x y : Str) (kx ky : Tok) (ds vs1 vs2 : List Value) (e e1 e2 : Nat) (rest : List (Addr × Obj))
    (ho : dl ≠ o) (hp : dl ≠ p) (h1 : dl ≠ t1) (h2 : dl ≠ t2) (hr : ∀ p ∈ rest, p.1 ≠ dl) (hn : ds.length < 100) (hn1 : vs1.length < 100) (hn2 : vs2.length < 100) :
    Ctr1 w 120 3 [.ref o, .ref p, .ref dl] ((dl, listOf ds.toArray e) :: (o, tupOf #[.str x kx, .ref t1]) :: (t1, listOf vs1.toArray e1) :: (p, tupOf #[.str y ky, .ref t2]) :: (t2, listOf vs2.toArray e2) :: rest)
     (fun r n' => ∃ r' t' q : Nat, r = .ref r' ∧ (r' ≠ dl ∧ t' ≠ dl ∧ q ≠ dl) ∧ (dl, listOf (ds ++ [Value.ref q]).toArray (e + 1)) ∈ n' ∧ (q, listOf #[.str x kx, .str y ky] 0) ∈ n' ∧ (∀ p ∈ rest, p ∈ n') ∧
       ((x.cps.toList < y.cps.toList ∧ (r', tupOf #[.str y ky, .ref t']) ∈ n' ∧ (t', listOf (vs2 ++ [Value.ref o]).toArray 0) ∈ n') ∨
        (¬ x.cps.toList < y.cps.toList ∧ (r', tupOf #[.str x kx, .ref t']) ∈ n' ∧ (t', listOf (vs1 ++ [Value.ref p]).toArray 0) ∈ n'))) := by
  unfold Ctr1
  k_fill
  intro loose mean mg mb dp un gd cn cs a ccd cl outer A₀ base h₀ L m s Q E B F X N T hk hd hu hret
  refine wpAny_call ?_
  k_dflt ktr_enter
  k_steps
  · skip
    refine hret _ _ _ _ (by assumption) (by assumption) ?P
    refine ⟨?r, ?t, ?q, ?z, ?e, ?a, ?b, fun z hz => ?c, ?d⟩
    case z => rfl
    case d => refine .inl ⟨coll_neg (by assumption), ?f, ?g⟩; (case f => k_mem); (case g => k_mem)
    case a => k_mem
    case b => k_mem
    case c => repeat (first | exact hz | refine List.Mem.tail _ ?_)
    case e => exact ⟨ne_tup (by assumption) (by k_mem) (by k_mem), ne_lst (by assumption) (by k_mem) (by k_mem), ne_lst (by assumption) (by k_mem) (by k_mem)⟩
  · skip
    refine hret _ _ _ _ (by assumption) (by assumption) ?P2
    refine ⟨?r2, ?t2, ?q2, ?z2, ?e2, ?a2, ?b2, fun z hz => ?c2, ?d2⟩
    case z2 => rfl
    case d2 => refine .inr ⟨coll_pos (by assumption), ?f2, ?g2⟩; (case f2 => k_mem); (case g2 => k_mem)
    case a2 => k_mem
    case b2 => k_mem
    case c2 => repeat (first | exact hz | refine List.Mem.tail _ ?_)
    case e2 => exact ⟨ne_tup (by assumption) (by k_mem) (by k_mem), ne_lst (by assumption) (by k_mem) (by k_mem), ne_lst (by assumption) (by k_mem) (by k_mem)⟩
end Mine
end
section
open PySem PySem.W PySem.Calls PySem.Spec PyProof.Rows
namespace Mine
local macro_rules | `(tactic| walk_at "idle 0") => `(tactic| fail)
local macro_rules | `(tactic| walk_at "idle 1") => `(tactic| fail)
local macro_rules | `(tactic| walk_at "idle 2") => `(tactic| fail)
local macro_rules | `(tactic| walk_at "idle 3") => `(tactic| fail)
/-- as Ctr, of a call that makes no generator and leaves the ledger as it is -/
noncomputable def Ctr0 (w : World) (f : Addr) (need : Nat) (vs : List Value) (post : Value → Prop) : Prop :=
  ∀ (loose : List Str) (mean : ExcName → Option Value) (mg mb : Str → Option Value)
   (dp un : Nat) (gd : Option (List Code)) (cn : Str) (cs : Scope) (a : Addr) (ccd : Value) (cl : List (Str × Addr)) (outer : List Env) (A₀ : Around) (base h₀ : Heap) (L : Addr) (m : Str → Option Value) (s : Shared) (news : List (Addr × Obj))
    (Q E : Value → Shared → Prop),
    Below A₀ base outer h₀ → Fr h₀ L s.heap m → (KF w.params).In h₀ → News h₀ L s.heap news → Top viewQ loose mean mg mb h₀ → cs.kind = .function → dp + need < recursionLimit → un + 8 * need < cLine →
    (∀ r h' tk', Fr h₀ L h' m → News h₀ L h' news → post r → Q r { s with heap := h', toks := tk' }) →
    wpAny (model PySem.Challenge.rw_wa0035_01.row.prog w) (ktrTop dp un gd cn cs L a ccd cl outer) (call (.ref f) vs) Q E s
theorem inb1_ctr0 (w : World) (c : Nat) (t : Tok) : Ctr0 w 60 1 [.str ⟨#[c]⟩ t] (fun r => r = .bool (inB1 c)) := by
  unfold Ctr0
  k_fill
  intro loose mean mg mb dp un gd cn cs a ccd cl outer A₀ base h₀ L m s news Q E B F X N T hk hd hu hret
  have hso := @b1_set w PySem.Challenge.rw_wa0035_01.row.prog w
  refine wpAny_call ?_
  k_dflt ktr_enter
  have ho := b1_here (by assumption : (KF w.params).In _)
  k_steps
  exact hret _ _ _ (by assumption) (by assumption) rfl
local macro_rules | `(tactic| walk_at "getMethod ref") => `(tactic| (k_here; (with_reducible show wpAny _ _ (getMethod (Value.ref 61) (Str.ofString "get") _) _ _ _); (refine' b3_method ?k1 ?k2 ?_; (case k1 => k_asm); (case k2 => k_asm))))
local macro_rules | `(tactic| walk_at "call builtin:dict.get") => `(tactic| (k_here; (with_reducible show wpAny _ _ (call (Value.builtin "dict.get") [Value.ref 61, Value.int _ _]) _ _ _); (refine' b3_get ?k1 ?k2 (by assumption) ?_; (case k1 => k_asm); (case k2 => k_asm))))
theorem mapb3_hit0 (w : World) (c : Nat) (t : Tok) (r : Str) (tk : Tok) (hc : (findBy Value.isInt b3Arr (c : Int)).getD .none = .str r tk) :
    Ctr0 w 106 1 [.str ⟨#[c]⟩ t] (fun v => ∃ tk, v = .str r tk) := by
  unfold Ctr0
  k_fill
  intro loose mean mg mb dp un gd cn cs a ccd cl outer A₀ base h₀ L m s news Q E B F X N T hk hd hu hret
  refine wpAny_call ?_
  k_dflt ktr_enter
  k_steps
  exact hret _ _ _ (by assumption) (by assumption) ⟨_, rfl⟩
theorem mapb3_low0 (w : World) (c : Nat) (t : Tok) (r : Str) (hc : (findBy Value.isInt b3Arr (c : Int)).getD .none = .none) (hr : Txt.lower ⟨#[c]⟩ = r) :
    Ctr0 w 106 1 [.str ⟨#[c]⟩ t] (fun v => ∃ tk, v = .str r tk) := by
  unfold Ctr0
  k_fill
  intro loose mean mg mb dp un gd cn cs a ccd cl outer A₀ base h₀ L m s news Q E B F X N T hk hd hu hret
  have hlen : (⟨#[c]⟩ : Str).length ≤ 1 := Nat.le_refl 1
  refine wpAny_call ?_
  k_dflt ktr_enter
  k_steps
  exact hret _ _ _ (by assumption) (by assumption) ⟨_, by rw [hr]⟩
theorem mapb3_ctr0 (w : World) (c r : Nat) (t : Tok) (hc : foldIs c r = true) : Ctr0 w 106 1 [.str ⟨#[c]⟩ t] (fun v => ∃ tk, v = .str ⟨#[r]⟩ tk) := by
  unfold foldIs at hc
  split at hc
  · rename_i x tk e
    rw [← findBy_b3] at e
    rw [← beq_iff_eq.mp hc]
    exact mapb3_hit0 w c t x tk e
  · rename_i e
    rw [← findBy_b3] at e
    exact mapb3_low0 w c t _ e (beq_iff_eq.mp hc)
  · cases hc
theorem ctr0_use {w : World} {f : Addr} {need : Nat} {vs : List Value} {news : List (Addr × Obj)} {post : Value → Prop} (C : Ctr0 w f need vs post)
    {loose : List Str} {mean : ExcName → Option Value} {mg mb : Str → Option Value}
   {dp un : Nat} {gd : Option (List Code)} {cn : Str} {cs : Scope} {a : Addr} {ccd : Value} {cl : List (Str × Addr)} {outer : List Env} {A₀ : Around} {base h₀ : Heap} {L : Addr} {m : Str → Option Value} {s : Shared}
    {Q E : Value → Shared → Prop} (B : Below A₀ base outer h₀) (F : Fr h₀ L s.heap m) (X : (KF w.params).In h₀) (N : News h₀ L s.heap news) (T : Top viewQ loose mean mg mb h₀) (hk : cs.kind = .function) (hd : dp + need < recursionLimit) (hu : un + 8 * need < cLine)
    (ret : ∀ r h' tk', Fr h₀ L h' m → News h₀ L h' news → post r → Q r { s with heap := h', toks := tk' }) :
    wpAny (model PySem.Challenge.rw_wa0035_01.row.prog w) (ktrTop dp un gd cn cs L a ccd cl outer) (call (.ref f) vs) Q E s :=
  C loose mean mg mb dp un gd cn cs a ccd cl outer A₀ base h₀ L m s news Q E B F X N T hk hd hu ret

open LCg LCt
section
variable {prog : Program} {w : World} {A : Around} {E : Value → Shared → Prop} {s : Shared} {h₀ : Heap} {L : Addr} {m : Str → Option Value} {env : Env}
noncomputable def StrSrc (prog : Program) (w : World) (A : Around) (h₀ : Heap) (L : Addr) (m : Str → Option Value) (env : Env) (ct elt : Expr) (x : Str) (scope : Scope) (cl : List (Str × Addr)) (Q : Value → Shared → Prop) (v : Value) (s : Shared) : Prop :=
  ∃ tx t news, v = .str tx t ∧ Fr h₀ L s.heap m ∧ News h₀ L s.heap news ∧ A.handled = none ∧ tx.cps.size ≤ sizeLine ∧
    ∀ g, CompRestT prog w A h₀ L m env ct elt x scope cl { s with heap := g } (fun _ => True) (SignAt tx) (FinE h₀ L m { s with heap := g } Q) tx.cps.size 0 [] news
theorem listcomp_str {ct elt iter : Expr} {x : Str} {px : Pos} {scope : Scope} {cl : List (Str × Addr)} {pos : Pos} {Q : Value → Shared → Prop} (_F₀ : Fr h₀ L s.heap m)
    (hclos : closureFor scope env = pure cl) (hcell : ∀ y ∈ scope.names, y.2 ≠ .cell) (hkind : scope.kind = .function)
    (hnames : ∀ y ∈ scope.names, y.2 = .local → scope.names.lookup y.1 = some .local) (hx : scope.names.lookup x = some .local)
    (h : wpAny (model prog w) A (eval iter env) (StrSrc prog w A h₀ L m env ct elt x scope cl Q) E s)
    (hs : ∀ x, foldedSetIterable iter env x = pure x := by intro _; rfl) :
    wpAny (model prog w) A (eval (.ListComp elt [⟨.Name x px, iter, [ct], 0⟩] scope pos) env) Q E s := by
  rw [eval_ListComp]
  refine wpAny_comprehension_free (use := none) rfl hs hclos hkind hnames (wpAny_mono h (fun xv s h₁ => ?_) fun _ _ e => e)
  obtain ⟨tx, t, news, rfl, F, N, hh, hsz, R⟩ := h₁
  cases ha : tx.cps.all (· < 128)
  · refine wpAny_pyIter_wide ha ?_
    refine block_T (Walks.strWide hh s.heap.objs.size tx t) hsz (fun i h st => by obtain ⟨o, e, _⟩ := st; exact ⟨o, e⟩) (fun i h h' o nw st e e' _ _ _ => by obtain ⟨o', q, r⟩ := st; rw [e] at q; cases q; exact ⟨o, e', r⟩) hcell hkind hx ⟨_, Heap.get?_push_size _ rfl, rfl, rfl⟩ (fun b hb => ?_)
      (F.push _) (N.grown fun _ _ e => Heap.get?_push_of_some _ e) (Nat.ne_of_lt F.ns.lt) (next_is_new F) (fun p hp => Nat.ne_of_lt (Heap.lt_size (N p hp).1)) trivial (R _) ?_
    · rw [List.mem_singleton.mp hb]
      show s.heap.objs.size < (s.heap.push _).objs.size
      rw [Heap.size_push]; exact Nat.lt_succ_self _
    · intro D C h tk m' ys news' F' N' o1 hn hC₀ hD₀ hCL hDL hCD offC fin
      refine ⟨m', hn, fun h'' hs'' => fin D h'' tk (F'.change hs'' hCL hC₀) (fun p hp => ?_) o1⟩
      refine ⟨hs''.extBut _ _ ?_ (N' p hp).1, (N' p hp).2⟩
      rcases List.mem_cons.mp hp with rfl | hp
      · exact Ne.symm hCD
      · exact offC p hp
  · refine wpAny_pyIter_ascii ha ?_
    refine block_T (Walks.strAscii hh s.heap.objs.size tx t) hsz (fun i h st => by obtain ⟨o, e, _⟩ := st; exact ⟨o, e⟩) (fun i h h' o nw st e e' _ _ _ => by obtain ⟨o', q, r⟩ := st; rw [e] at q; cases q; exact ⟨o, e', r⟩) hcell hkind hx ⟨_, Heap.get?_push_size _ rfl, rfl, rfl⟩ (fun b hb => ?_)
      (F.push _) (N.grown fun _ _ e => Heap.get?_push_of_some _ e) (Nat.ne_of_lt F.ns.lt) (next_is_new F) (fun p hp => Nat.ne_of_lt (Heap.lt_size (N p hp).1)) trivial (R _) ?_
    · rw [List.mem_singleton.mp hb]
      show s.heap.objs.size < (s.heap.push _).objs.size
      rw [Heap.size_push]; exact Nat.lt_succ_self _
    · intro D C h tk m' ys news' F' N' o1 hn hC₀ hD₀ hCL hDL hCD offC fin
      refine ⟨m', hn, fun h'' hs'' => fin D h'' tk (F'.change hs'' hCL hC₀) (fun p hp => ?_) o1⟩
      refine ⟨hs''.extBut _ _ ?_ (N' p hp).1, (N' p hp).2⟩
      rcases List.mem_cons.mp hp with rfl | hp
      · exact Ne.symm hCD
      · exact offC p hp

/-- the values are strs of these texts -/
noncomputable def StrVals : List Value → List Str → Prop
  | [], [] => True
  | v :: r, y :: q => (∃ t, v = .str y t) ∧ StrVals r q
  | _, _ => False
theorem StrVals.snoc {y : Str} {t : Tok} : ∀ {vs : List Value} {ys : List Str}, StrVals vs ys → StrVals (vs ++ [.str y t]) (ys ++ [y])
  | [], [], _ => ⟨⟨t, rfl⟩, trivial⟩
  | _ :: _, _ :: _, ⟨a, b⟩ => ⟨a, StrVals.snoc b⟩
  | [], _ :: _, h => h.elim
  | _ :: _, [], h => h.elim

theorem rest_ind {ct elt : Expr} {x : Str} {scope : Scope} {cl : List (Str × Addr)} {tx : Str} {news : List (Addr × Obj)} {Fin : List Value → List (Addr × Obj) → Prop} (keep : Nat → Bool) (f : Nat → Str)
    (step : ∀ (c : Nat) (u : Tok) (I : Addr) oI C oC D m₂ h tk (E' : Value → Shared → Prop) ys, c ∈ tx.cps.toList → NsObj oC m₂ → m₂ x = some (.str ⟨#[c]⟩ u) → Fr h₀ L h m → News h₀ L h ((I, oI) :: (C, oC) :: (D, lst ys) :: news) →
      wpAny (model prog w) A (isTrue ct (compEnvC scope cl C env) (eval ct (compEnvC scope cl C env))) (fun ok s' => if ok = true then
        wpAny (model prog w) A (eval elt (compEnvC scope cl C env)) (fun y s'' => keep c = true ∧ (∃ t, y = .str (f c) t) ∧ ∃ h' tk', s'' = { s with heap := h', toks := tk' } ∧ Fr h₀ L h' m ∧ News h₀ L h' ((I, oI) :: (C, oC) :: (D, lst ys) :: news)) E' s'
        else keep c = false ∧ ∃ h' tk', s' = { s with heap := h', toks := tk' } ∧ Fr h₀ L h' m ∧ News h₀ L h' ((I, oI) :: (C, oC) :: (D, lst ys) :: news)) E' { s with heap := h, toks := tk })
    (fin : ∀ ys, StrVals ys ((tx.cps.toList.filter keep).map f) → Fin ys news) :
    ∀ (k i : Nat) (ys : List Value), i + k = tx.cps.size → StrVals ys (((tx.cps.toList.take i).filter keep).map f) →
      CompRestT prog w A h₀ L m env ct elt x scope cl s (fun _ => True) (SignAt tx) Fin k i ys news := by
  intro k
  induction k with
  | zero =>
    intro i ys e hy
    refine fin ys ?_
    rwa [List.take_of_length_le (by rw [Array.length_toList]; omega)] at hy
  | succ k ih =>
    intro i ys e hy
    rintro v I oI C oC D m₂ h tk E' ⟨c, u, hc, rfl⟩ hN hm F N off ne
    have hc' : tx.cps.toList[i]? = some c := by rw [Array.getElem?_toList]; exact hc
    have htk : tx.cps.toList.take (i + 1) = tx.cps.toList.take i ++ [c] := by rw [List.take_add_one, hc']; rfl
    refine wpAny_mono (step c u I oI C oC D m₂ h tk E' ys (List.mem_of_getElem? hc') hN hm F N) (fun ok s' hs' => ?_) fun _ _ y => y
    cases ok with
    | false =>
      simp only [Bool.false_eq_true, if_false] at hs' ⊢
      obtain ⟨hk, h', tk', rfl, F', N'⟩ := hs'
      refine ⟨h', tk', news, rfl, F', N', off, trivial, ih (i + 1) ys (by omega) ?_⟩
      rw [htk, List.filter_append]
      simpa [hk] using hy
    | true =>
      simp only [if_true] at hs' ⊢
      refine wpAny_mono hs' (fun y s'' hs'' => ?_) fun _ _ y => y
      obtain ⟨hk, ⟨t, rfl⟩, h', tk', rfl, F', N'⟩ := hs''
      refine ⟨h', tk', news, rfl, F', N', off, trivial, ih (i + 1) _ (by omega) ?_⟩
      rw [htk, List.filter_append, List.map_append]
      have : ([c].filter keep).map f = [f c] := by simp [hk]
      rw [this]
      exact hy.snoc
end
end Mine
end
section
open PySem PySem.W PySem.Calls PySem.Spec PyProof PyProof.Rows
namespace Mine
section
variable {prog : Program} {w : World} {A : Around} {E : Value → Shared → Prop} {s : Shared} {value slice : Expr} {x y : Str} {t : Tok} {h₀ : Heap} {L : Addr} {m : Str → Option Value} {news : List (Addr × Obj)} {Q : Value → Shared → Prop}
theorem sl_ss {i j : Int} {ui uj : Tok} (e : Txt.slice x (some i) (some j) = y) (hF : Fr h₀ L s.heap m) (hN : News h₀ L s.heap news) (h : ∀ h' t' k, Fr h₀ L h' m → News h₀ L h' news → Q (.str y t') { s with heap := h', toks := k }) (hsz : x.length ≤ sizeLine)
    (hs : subscripted slice false (.str x t) (.ref s.heap.objs.size) = operate [.ref s.heap.objs.size, .str x t] (getItem (.str x t) (.ref s.heap.objs.size)) := by with_unfolding_all rfl)
    (ht : ∀ r, letTemporaryGo value (.str x t) r = pure () := by intro _; with_unfolding_all rfl) :
    wpAny (model prog w) A (subscriptTail value slice (.str x t) (.ref s.heap.objs.size)) Q E { s with heap := s.heap.push { cls := .type "slice", data := .fields #[.int i ui, .int j uj, .none] } } := by
  subst e
  exact slice_strN_ss hF hN h hs ht hsz
theorem sl_ns {j : Int} {uj : Tok} (e : Txt.slice x none (some j) = y) (hF : Fr h₀ L s.heap m) (hN : News h₀ L s.heap news) (h : ∀ h' t' k, Fr h₀ L h' m → News h₀ L h' news → Q (.str y t') { s with heap := h', toks := k }) (hsz : x.length ≤ sizeLine)
    (hs : subscripted slice false (.str x t) (.ref s.heap.objs.size) = operate [.ref s.heap.objs.size, .str x t] (getItem (.str x t) (.ref s.heap.objs.size)) := by with_unfolding_all rfl)
    (ht : ∀ r, letTemporaryGo value (.str x t) r = pure () := by intro _; with_unfolding_all rfl) :
    wpAny (model prog w) A (subscriptTail value slice (.str x t) (.ref s.heap.objs.size)) Q E { s with heap := s.heap.push { cls := .type "slice", data := .fields #[.none, .int j uj, .none] } } := by
  subst e
  exact slice_strN_ns hF hN h hs ht hsz
theorem sl_sn {j : Int} {uj : Tok} (e : Txt.slice x (some j) none = y) (hF : Fr h₀ L s.heap m) (hN : News h₀ L s.heap news) (h : ∀ h' t' k, Fr h₀ L h' m → News h₀ L h' news → Q (.str y t') { s with heap := h', toks := k }) (hsz : x.length ≤ sizeLine)
    (hs : subscripted slice false (.str x t) (.ref s.heap.objs.size) = operate [.ref s.heap.objs.size, .str x t] (getItem (.str x t) (.ref s.heap.objs.size)) := by with_unfolding_all rfl)
    (ht : ∀ r, letTemporaryGo value (.str x t) r = pure () := by intro _; with_unfolding_all rfl) :
    wpAny (model prog w) A (subscriptTail value slice (.str x t) (.ref s.heap.objs.size)) Q E { s with heap := s.heap.push { cls := .type "slice", data := .fields #[.int j uj, .none, .none] } } := by
  subst e
  exact slice_strN_sn hF hN h hs ht hsz
end
noncomputable abbrev S' (l : List Nat) : Str := ⟨l.toArray⟩
theorem len_S (l : List Nat) : (S' l).length = l.length := by show l.toArray.size = _; simp
theorem sl_mid (u : List Nat) : Txt.slice (S' (40 :: (u ++ [41]))) (some 1) (some (-1)) = S' u := by
  have h0 := @slice_closesL (S' (40 :: (u ++ [41]))) 1 (u.length + 1) (by omega) (by omega) (by rw [len_S]; simp; omega)
  rw [beq_iff_eq] at h0
  have e : Builtin.Str.strSliceIndices (some 1) (some (-1)) 1 (S' (40 :: (u ++ [41]))).length = Builtin.Str.strSliceIndices (some 1) (some ((u.length : Int) + 1)) 1 (S' (40 :: (u ++ [41]))).length := by
    rw [len_S]
    unfold Builtin.Str.strSliceIndices
    have e1 : (40 :: (u ++ [41])).length = u.length + 2 := by simp
    rw [e1]
    have a : ((-1 : Int) < 0) = True := by simp
    have b : (((u.length : Int) + 1) < 0) = False := by simp; omega
    simp only [a, b, if_true, if_false]
    congr 1
    simp
    omega
  have : Txt.slice (S' (40 :: (u ++ [41]))) (some 1) (some (-1)) = Txt.slice (S' (40 :: (u ++ [41]))) (some 1) (some ((u.length : Int) + 1)) := by
    unfold Txt.slice
    rw [e]
  rw [this, h0]
  simp [S']
theorem sl_to (u : List Nat) (k : Int) (h0 : 0 ≤ k) (h1 : k ≤ u.length) : Txt.slice (S' u) none (some k) = S' (u.take k.toNat) := by
  have := @slice_closes_toL (S' u) k h0 (by rw [len_S]; exact h1)
  rw [beq_iff_eq] at this
  rw [this]
  simp
theorem sl_from (u : List Nat) (k : Int) (h0 : 0 ≤ k) (h1 : k ≤ u.length) : Txt.slice (S' u) (some k) none = S' (u.drop k.toNat) := by
  rw [slice_from_eq (b := u.length) h0 (by rw [len_S]; exact h1) (by rw [len_S])]
  congr 2
  rw [List.take_of_length_le]
  rw [List.length_drop, show (S' u).cps.toList.length = u.length from by simp [S']]
  omega
theorem strsAre_of : ∀ {vs : List Value} {ys : List Str}, StrVals vs ys → StrsAre vs ys
  | [], [], _ => .nil
  | _ :: _, y :: _, ⟨⟨t, e⟩, b⟩ => e ▸ .cons y t (strsAre_of b)
  | [], _ :: _, h => h.elim
  | _ :: _, [], h => h.elim
theorem join_one (l : List Nat) : Txt.join (Str.ofString "") (l.map fun c => (⟨#[c]⟩ : Str)) = S' l := by
  have h := join_nil_signs (S' l)
  have e : signs (S' l) = l.map fun c => (⟨#[c]⟩ : Str) := by simp [signs, S']
  rw [e] at h
  show Builtin.Str.glued _ _ = _
  rw [StrLaws.glued_eq_join]
  exact h
theorem sum_one (f : Nat → Str) (hf : ∀ c, (f c).length = 1) (l : List Nat) : ((l.map f).map (·.length)).sum = l.length := by
  induction l with
  | nil => rfl
  | cons a r ih => simp only [List.map_cons, List.sum_cons, ih, hf, List.length_cons]; omega
section
variable {prog : Program} {w : World} {A : Around} {E : Value → Shared → Prop} {s : Shared} {t : Tok} {h₀ : Heap} {L : Addr} {news : List (Addr × Obj)} {Q : Value → Shared → Prop}
theorem join_S {D : Addr} {ys : List Value} {l : List Nat} (N : News h₀ L s.heap news) (hm : (D, LCg.lst ys) ∈ news) (hi : StrVals ys (l.map fun c => (⟨#[c]⟩ : Str))) (hl : l.length ≤ 1000)
    (h : ∀ t' k, Q (.str (S' l) t') { s with toks := k }) : wpAny (model prog w) A (call (.builtin "str.join") [.str (Str.ofString "") t, .ref D]) Q E s := by
  refine join_list (ys := l.map fun c => (⟨#[c]⟩ : Str)) ⟨_, (N _ hm).1, rfl, _, rfl⟩ (by simpa using strsAre_of hi) ?_ fun t' k => ?_
  · rw [sum_one _ (fun c => rfl)]
    show _ + _ * 0 ≤ _
    omega
  · rw [join_one]
    exact h t' k
end
end Mine
end
section
open PySem PySem.W PySem.Calls PySem.Spec PyProof PyProof.Rows
namespace Mine
/-- a goal set aside: the walk stops at it -/
noncomputable def Hold (p : Prop) : Prop := p
theorem hold_intro {p : Prop} (h : Hold p) : p := h
local macro_rules | `(tactic| walk_at "subscriptTail Name Slice str ref") => `(tactic| (k_here; (with_reducible show wpAny _ _ (subscriptTail _ (Expr.Slice (some _) (some _) none _) (Value.str _ _) _) _ _ _); (with_reducible rename Fr _ _ _ _ => F'); (with_reducible rename News _ _ _ _ => N'); (refine sl_ss (s := ⟨_, _, _, _, _⟩) (sl_mid _) F' N' ?_ ?hsz); (case hsz => (rw [len_S]; (try simp only [List.length_append, List.length_cons, List.length_nil]); size_fits)); intro _ _ _ _ _))
local macro_rules | `(tactic| walk_at "subscriptTail Name Slice str ref") => `(tactic| (k_here; (with_reducible show wpAny _ _ (subscriptTail _ (Expr.Slice none (some _) none _) (Value.str _ _) _) _ _ _); (with_reducible rename Fr _ _ _ _ => F'); (with_reducible rename News _ _ _ _ => N'); (refine sl_ns (s := ⟨_, _, _, _, _⟩) (sl_to _ _ (by omega) (by omega)) F' N' ?_ ?hsz); (case hsz => (rw [len_S]; (try simp only [List.length_append, List.length_cons, List.length_nil]); size_fits)); intro _ _ _ _ _))
local macro_rules | `(tactic| walk_at "eval ListComp") => `(tactic| (k_here; lct_look; refine hold_intro ?_))
local macro_rules | `(tactic| walk_at "exec While") => `(tactic| (k_here; refine hold_intro ?_))
theorem inb1_at (w : World) (c : Nat) (t : Tok) (b : Bool) (hb : inB1 (c : Nat) = b) : Ctr0 w 60 1 [.str ⟨#[c]⟩ t] (fun r => r = .bool b) := by
  subst hb
  exact inb1_ctr0 w c t
local macro_rules | `(tactic| walk_at "call ref") => `(tactic| (k_here; (with_reducible show wpAny _ _ (call (Value.ref 60) [Value.str _ _]) _ _ _); (refine' ctr0_use (inb1_at _ _ _ _ (by assumption)) ?k1 ?k2 ?k3 ?k4 ?k5 ?kK ?kd ?ku ?_; (case k1 => k_asm); (case k2 => k_asm); (case k3 => k_asm); (case k4 => k_asm); (case k5 => k_asm); (case kK => first | exact rfl | assumption); (case kd => ktr_room); (case ku => ktr_units)); intro r9 h9 tk9 F9 N9 p9; subst p9; (try dsimp only); (try k_fold)))
local macro_rules | `(tactic| walk_at "call ref") => `(tactic| (k_here; (with_reducible show wpAny _ _ (call (Value.ref 106) [Value.str _ _]) _ _ _); (refine' ctr0_use (mapb3_ctr0 _ _ _ _ (by assumption)) ?k1 ?k2 ?k3 ?k4 ?k5 ?kK ?kd ?ku ?_; (case k1 => k_asm); (case k2 => k_asm); (case k3 => k_asm); (case k4 => k_asm); (case k5 => k_asm); (case kK => first | exact rfl | assumption); (case kd => ktr_room); (case ku => ktr_units)); intro r9 h9 tk9 F9 N9 p9; obtain ⟨tk8, e8⟩ := p9; subst e8; (try dsimp only); (try k_fold)))
local macro_rules | `(tactic| walk_at "call builtin:str.join") => `(tactic| (k_here; (with_reducible show wpAny _ _ (call (Value.builtin "str.join") [Value.str _ _, Value.ref _]) _ _ _); k_dflt (refine' join_S ?k1 ?k2 (by assumption) ?k4 ?_; (case k1 => k_asm); (case k2 => k_mem); (case k4 => assumption)); intro _ _))
theorem AllLt.mem {d : Addr} : ∀ {l : List (Addr × Obj)}, AllLt d l → ∀ p ∈ l, p.1 ≠ d := by
  intro l
  induction l with
  | nil => intro _ p hp; cases hp
  | cons x r ih =>
    intro h p hp
    rcases List.mem_cons.mp hp with rfl | hp
    · exact Nat.ne_of_lt h.1
    · exact ih h.2 p hp
theorem leaf_ctr (w : World) (u : List Nat) (g : Nat → Nat) (hu : u.length < 900) (hu1 : 1 ≤ u.length) (h1 : u.take 1 ≠ [40]) (hfo : ∀ c ∈ u, inB1 (c : Nat) = false → foldIs c (g c) = true) (t : Tok) (dl : Nat) (S : List (Addr × Obj)) :
    Ctr w 125 3 [.str (S' (40 :: (u ++ [41]))) t, .ref dl] S (fun r n' => ∃ a b : Nat, ∃ k, r = .ref a ∧ (a, tupOf #[.str (S' ((u.filter fun (c : Nat) => !inB1 c).map g)) k, .ref b]) ∈ n' ∧ (b, listOf #[] 0) ∈ n' ∧ ∀ p ∈ S, p ∈ n' ∧ p.1 ≠ a ∧ p.1 ≠ b) := by
  unfold Ctr
  k_fill
  intro loose mean mg mb dp un gd cn cs a ccd cl outer A₀ base h₀ L m s Q E B F X N T hk hd hu hg hret
  refine wpAny_call ?_
  k_dflt ktr_enter
  k_steps
  · unfold Hold
    rename Fr h₀ _ _ _ => F8
    with_unfolding_all refine listcomp_str (cl := []) (by k_asm) (by with_unfolding_all rfl) (by decide) (by rfl) (by decide) (by rfl) ?hsrc
    case hsrc =>
      walk1
      refine ⟨_, _, _, rfl, by k_asm, by k_asm, by rfl, ?hsz, fun g9 => ?R⟩
      case hsz => (show u.toArray.size ≤ sizeLine); rw [List.size_toArray, PySem.sizeLine_eq]; omega
      case R =>
        refine rest_ind (fun (c : Nat) => !inB1 c) (fun c => ⟨#[g c]⟩) ?step ?fin _ 0 [] (Nat.zero_add _) trivial
        case step =>
          intro c u9 I oI C oC D m₂ h9 tk9 E' ys hc hNs hmx F7 N7
          replace hc : c ∈ u := by simpa [S'] using hc
          cases hb1 : inB1 (c : Nat) with
          | true =>
            k_steps
            all_goals k_asm
          | false =>
            have hfold := hfo c hc hb1
            k_steps
            all_goals k_asm
        case fin =>
          intro ys hys D h tk F7 N7 off
          have hys' : StrVals ys (((u.filter fun (c : Nat) => !inB1 c).map g).map fun c => (⟨#[c]⟩ : Str)) := by simpa [S', Function.comp_def] using hys
          have hlen : ((u.filter fun (c : Nat) => !inB1 c).map g).length ≤ 1000 := by
            rw [List.length_map]
            have := List.length_filter_le (fun (c : Nat) => !inB1 c) u
            omega
          clear hys
          k_steps
          refine hret _ _ _ _ _ (by assumption) (by assumption) ?P (by assumption)
          refine ⟨?r, ?b, ?k, ?z, ?e, ?f, fun z hz => ⟨?c, ?d1, ?d⟩⟩
          case z => rfl
          case e => k_mem
          case f => k_mem
          case c => exact .tail _ (.tail _ (.tail _ hz))
          case d1 => exact AllLt.mem (And.right (a := D < _) (And.right (a := _ < _) (by assumption))) z hz
          case d => exact AllLt.mem (And.right (a := D < _) (by assumption)) z hz
  · exfalso
    rename (_ != _) = false => hne
    rw [bne_eq_false_iff_eq] at hne
    apply h1
    have : (S' (List.take (Int.toNat 1) u)).cps.toList = [40] := by rw [hne]; decide +kernel
    exact this
end Mine
end
section
open PySem PySem.W PySem.Calls PySem.Spec PyProof PyProof.Rows
namespace Mine
/-- a player (its prepared name) and those whom it has beaten -/
inductive Rose where
  | node (name : List Nat) (kids : List Rose)
noncomputable def Rose.name : Rose → List Nat | .node x _ => x
noncomputable def Rose.kids : Rose → List Rose | .node _ k => k
noncomputable def duelR (a b : Rose) : Rose := if a.name < b.name then .node b.name (b.kids ++ [a]) else .node a.name (a.kids ++ [b])
mutual
inductive RIn (S : List (Addr × Obj)) : Rose → Value → Prop
  | mk {x : List Nat} {k : Tok} {a b : Nat} {e : Nat} {kids : List Rose} {vs : List Value} : (a, tupOf #[.str (S' x) k, .ref b]) ∈ S → (b, listOf vs.toArray e) ∈ S → RIns S kids vs → RIn S (.node x kids) (.ref a)
inductive RIns (S : List (Addr × Obj)) : List Rose → List Value → Prop
  | nil : RIns S [] []
  | cons {r : Rose} {v : Value} {rs : List Rose} {vs : List Value} : RIn S r v → RIns S rs vs → RIns S (r :: rs) (v :: vs)
end
mutual
theorem RIn.mono {S R : List (Addr × Obj)} (h : ∀ p ∈ S, p ∈ R) : ∀ {r : Rose} {v : Value}, RIn S r v → RIn R r v
  | _, _, .mk h1 h2 h3 => .mk (h _ h1) (h _ h2) (RIns.mono h h3)
theorem RIns.mono {S R : List (Addr × Obj)} (h : ∀ p ∈ S, p ∈ R) : ∀ {r : List Rose} {v : List Value}, RIns S r v → RIns R r v
  | _, _, .nil => .nil
  | _, _, .cons h1 h2 => .cons (RIn.mono h h1) (RIns.mono h h2)
end
theorem RIns.length {S : List (Addr × Obj)} : ∀ {r : List Rose} {v : List Value}, RIns S r v → v.length = r.length
  | _, _, .nil => rfl
  | _, _, .cons _ h => congrArg (· + 1) (RIns.length h)
theorem RIns.snoc {S : List (Addr × Obj)} {a : Rose} {u : Value} (ha : RIn S a u) : ∀ {r : List Rose} {v : List Value}, RIns S r v → RIns S (r ++ [a]) (v ++ [u])
  | _, _, .nil => .cons ha .nil
  | _, _, .cons h1 h2 => .cons h1 (RIns.snoc ha h2)
/-- the pair of a duel -/
noncomputable def PairAt (S : List (Addr × Obj)) (p : List Nat × List Nat) (v : Value) : Prop := ∃ (q : Nat) (kx ky : Nat), v = .ref q ∧ (q, listOf #[.str (S' p.1) kx, .str (S' p.2) ky] 0) ∈ S
theorem PairAt.mono {S R : List (Addr × Obj)} (h : ∀ p ∈ S, p ∈ R) {p : List Nat × List Nat} {v : Value} : PairAt S p v → PairAt R p v
  | ⟨q, kx, ky, hv, hm⟩ => ⟨q, kx, ky, hv, h _ hm⟩
noncomputable def PairsAt (S : List (Addr × Obj)) : List (List Nat × List Nat) → List Value → Prop
  | [], [] => True
  | p :: ps, v :: vs => PairAt S p v ∧ PairsAt S ps vs
  | _, _ => False
theorem PairsAt.mono {S R : List (Addr × Obj)} (h : ∀ p ∈ S, p ∈ R) : ∀ {ps : List (List Nat × List Nat)} {vs : List Value}, PairsAt S ps vs → PairsAt R ps vs
  | [], [], _ => trivial
  | _ :: _, _ :: _, ⟨a, b⟩ => ⟨a.mono h, PairsAt.mono h b⟩
  | [], _ :: _, x => x.elim
  | _ :: _, [], x => x.elim
theorem PairsAt.append {S : List (Addr × Obj)} : ∀ {ps qs : List (List Nat × List Nat)} {vs ws : List Value}, PairsAt S ps vs → PairsAt S qs ws → PairsAt S (ps ++ qs) (vs ++ ws)
  | [], _, [], _, _, h => h
  | _ :: _, _, _ :: _, _, ⟨a, b⟩, h => ⟨a, PairsAt.append b h⟩
  | [], _, _ :: _, _, x, _ => x.elim
  | _ :: _, _, [], _, x, _ => x.elim
theorem PairsAt.length {S : List (Addr × Obj)} : ∀ {ps : List (List Nat × List Nat)} {vs : List Value}, PairsAt S ps vs → vs.length = ps.length
  | [], [], _ => rfl
  | _ :: _, _ :: _, ⟨_, b⟩ => congrArg (· + 1) (PairsAt.length b)
  | [], _ :: _, x => x.elim
  | _ :: _, [], x => x.elim
theorem ctr_mono {w : World} {f : Addr} {need need2 : Nat} {vs : List Value} {n1 n2 : List (Addr × Obj)} {post1 post2 : Value → List (Addr × Obj) → Prop} (C : Ctr w f need vs n1 post1) (hneed : need ≤ need2) (hsub : ∀ p ∈ n1, p ∈ n2)
    (hp : ∀ r n', post1 r n' → ∃ n'', (∀ p ∈ n'', p ∈ n') ∧ post2 r n'') : Ctr w f need2 vs n2 post2 := by
  intro loose mean mg mb dp un gd cn cs a ccd cl outer A₀ base h₀ L m s Q E B F X N T hk hd hu hg hret
  refine C loose mean mg mb dp un gd cn cs a ccd cl outer A₀ base h₀ L m s Q E B F X (fun p hp => N p (hsub p hp)) T hk (by omega) (by omega) hg fun r n' h' tk' g' F' N' p' G' => ?_
  obtain ⟨n'', h1, h2⟩ := hp r n' p'
  exact hret r n'' h' tk' g' F' (fun p hp => N' p (h1 p hp)) h2 G'
theorem ctr1_mono {w : World} {f : Addr} {need need2 : Nat} {vs : List Value} {n1 n2 : List (Addr × Obj)} {post1 post2 : Value → List (Addr × Obj) → Prop} (C : Ctr1 w f need vs n1 post1) (hneed : need ≤ need2) (hsub : ∀ p ∈ n1, p ∈ n2)
    (hp : ∀ r n', post1 r n' → ∃ n'', (∀ p ∈ n'', p ∈ n') ∧ post2 r n'') : Ctr1 w f need2 vs n2 post2 := by
  intro loose mean mg mb dp un gd cn cs a ccd cl outer A₀ base h₀ L m s Q E B F X N T hk hd hu hret
  refine C loose mean mg mb dp un gd cn cs a ccd cl outer A₀ base h₀ L m s Q E B F X (fun p hp => N p (hsub p hp)) T hk (by omega) (by omega) fun r n' h' tk' F' N' p' => ?_
  obtain ⟨n'', h1, h2⟩ := hp r n' p'
  exact hret r n'' h' tk' F' (fun p hp => N' p (h1 p hp)) h2
/-- the ledger without the object at dl -/
noncomputable def off (dl : Nat) (n : List (Addr × Obj)) : List (Addr × Obj) := n.filter fun p => decide (@Ne Nat p.1 dl)
theorem mem_off {dl : Nat} {n : List (Addr × Obj)} {p : Addr × Obj} (h : p ∈ n) (hne : p.1 ≠ dl) : p ∈ off dl n := List.mem_filter.mpr ⟨h, decide_eq_true hne⟩
theorem off_mem {dl : Nat} {n : List (Addr × Obj)} {p : Addr × Obj} (h : p ∈ off dl n) : p ∈ n ∧ p.1 ≠ dl := ⟨(List.mem_filter.mp h).1, of_decide_eq_true (List.mem_filter.mp h).2⟩
theorem duel_R1 (w : World) (A B : Rose) (va vb : Value) (dl : Nat) (ds : List Value) (e : Nat) (S : List (Addr × Obj)) (hA : RIn S A va) (hB : RIn S B vb) (hS : ∀ p ∈ S, p.1 ≠ dl) (hn : ds.length < 100) (hka : A.kids.length < 100) (hkb : B.kids.length < 100) :
    Ctr1 w 120 3 [va, vb, .ref dl] ((dl, listOf ds.toArray e) :: S)
      (fun r n' => ∃ R v e', n' = (dl, listOf (ds ++ [v]).toArray e') :: R ∧ (∀ p ∈ S, p ∈ R) ∧ (∀ p ∈ R, p.1 ≠ dl) ∧ RIn R (duelR A B) r ∧ PairAt R (A.name, B.name) v) := by
  cases hA with
  | @mk x kx a t1 e1 ka vs1 ha ht1 hk1 =>
  cases hB with
  | @mk y ky b t2 e2 kb vs2 hb ht2 hk2 =>
  refine ctr1_mono (duel_ctr1 w a b t1 t2 dl (S' x) (S' y) kx ky ds vs1 vs2 e e1 e2 S (Ne.symm (hS _ ha)) (Ne.symm (hS _ hb)) (Ne.symm (hS _ ht1)) (Ne.symm (hS _ ht2)) hS hn (by rw [hk1.length]; exact hka) (by rw [hk2.length]; exact hkb)) (Nat.le_refl _) ?_ ?_
  · intro p hp
    rcases List.mem_cons.mp hp with rfl | hp
    · exact .head _
    refine .tail _ ?_
    rcases List.mem_cons.mp hp with rfl | hp
    · exact ha
    rcases List.mem_cons.mp hp with rfl | hp
    · exact ht1
    rcases List.mem_cons.mp hp with rfl | hp
    · exact hb
    rcases List.mem_cons.mp hp with rfl | hp
    · exact ht2
    exact hp
  · rintro r n' ⟨r', t', q, rfl, ⟨n1, n2, n3⟩, hd, hq, hsub, hw⟩
    have sub : ∀ p ∈ S, p ∈ off dl n' := fun p hp => mem_off (hsub p hp) (hS p hp)
    refine ⟨(dl, listOf (ds ++ [Value.ref q]).toArray (e + 1)) :: off dl n', ?_, off dl n', .ref q, e + 1, rfl, sub, fun p hp => (off_mem hp).2, ?_, ⟨q, kx, ky, rfl, mem_off hq n3⟩⟩
    · intro p hp
      rcases List.mem_cons.mp hp with rfl | hp
      · exact hd
      · exact (off_mem hp).1
    · have ha' : RIn (off dl n') (.node x ka) (.ref a) := .mk (sub _ ha) (sub _ ht1) (hk1.mono sub)
      have hb' : RIn (off dl n') (.node y kb) (.ref b) := .mk (sub _ hb) (sub _ ht2) (hk2.mono sub)
      rcases hw with ⟨hlt, h1, h2⟩ | ⟨hlt, h1, h2⟩
      · have : duelR (.node x ka) (.node y kb) = .node y (kb ++ [.node x ka]) := if_pos hlt
        rw [this]
        exact .mk (mem_off h1 n1) (mem_off h2 n2) ((hk2.mono sub).snoc ha')
      · have : duelR (.node x ka) (.node y kb) = .node x (ka ++ [.node y kb]) := if_neg hlt
        rw [this]
        exact .mk (mem_off h1 n1) (mem_off h2 n2) ((hk1.mono sub).snoc hb')
theorem duel_R (w : World) (A B : Rose) (va vb : Value) (dl : Nat) (ds : List Value) (e : Nat) (S : List (Addr × Obj)) (hA : RIn S A va) (hB : RIn S B vb) (hS : ∀ p ∈ S, p.1 ≠ dl) (hn : ds.length < 100) (hka : A.kids.length < 100) (hkb : B.kids.length < 100) :
    Ctr w 120 3 [va, vb, .ref dl] ((dl, listOf ds.toArray e) :: S)
      (fun r n' => ∃ R v e', n' = (dl, listOf (ds ++ [v]).toArray e') :: R ∧ (∀ p ∈ S, p ∈ R) ∧ (∀ p ∈ R, p.1 ≠ dl) ∧ RIn R (duelR A B) r ∧ PairAt R (A.name, B.name) v) :=
  (duel_R1 w A B va vb dl ds e S hA hB hS hn hka hkb).ctr
end Mine
end
section
open PySem PySem.W PySem.Calls PySem.Spec PyProof PyProof.Rows
namespace Mine
-- the plain law of the bracket text
theorem total_cons (y : Str) (ys : List Str) : total (y :: ys) = par y + total ys := by simp [total]
noncomputable def wt (c : Nat) : Int := if c = 40 then 1 else if c = 41 then -1 else 0
theorem str1 (s : String) (l : List Nat) (h : (Str.ofString s).cps.toList = l) : Str.ofString s = S' l := by
  rw [← h]
theorem par_one (c : Nat) : par ⟨#[c]⟩ = wt c := by
  unfold par wt
  have h40 : Str.ofString "(" = ⟨#[40]⟩ := by decide +kernel
  have h41 : Str.ofString ")" = ⟨#[41]⟩ := by decide +kernel
  rw [h40, h41]
  simp
theorem par_esc (c : Nat) : par (Str.ofString "\\" ++ ⟨#[c]⟩) = 0 := by
  have h40 : Str.ofString "(" = ⟨#[40]⟩ := by decide +kernel
  have h41 : Str.ofString ")" = ⟨#[41]⟩ := by decide +kernel
  have hb : Str.ofString "\\" = ⟨#[92]⟩ := by decide +kernel
  have e : Str.ofString "\\" ++ ⟨#[c]⟩ = (⟨#[92, c]⟩ : Str) := by rw [hb]; rfl
  unfold par
  rw [e, h40, h41]
  simp
theorem par_bs : par (Str.ofString "\\") = 0 := by decide +kernel
/-- how many brackets stand open behind the signs -/
noncomputable def val : List Nat → Bool → Int
  | [], _ => 0
  | _ :: cs, true => val cs false
  | c :: cs, false => if c = 92 then val cs true else wt c + val cs false
theorem val_yields : ∀ (cs : List Nat) (e : Bool), total (yields cs e) = val cs e
  | [], true => by simp [yields, total_cons, par_bs, val, total]
  | [], false => rfl
  | c :: cs, true => by
    show total ((Str.ofString "\\" ++ ⟨#[c]⟩) :: yields cs false) = val cs false
    rw [total_cons, par_esc, val_yields cs false, Int.zero_add]
  | c :: cs, false => by
    by_cases h : c = 92
    · have e1 : yields (c :: cs) false = yields cs true := if_pos h
      have e2 : val (c :: cs) false = val cs true := if_pos h
      rw [e1, e2, val_yields cs true]
    · have e1 : yields (c :: cs) false = ⟨#[c]⟩ :: yields cs false := if_neg h
      have e2 : val (c :: cs) false = wt c + val cs false := if_neg h
      rw [e1, e2, total_cons, par_one, val_yields cs false]
/-- no beginning closes below n -/
noncomputable def low : Int → List Nat → Bool → Prop
  | n, [], _ => 0 ≤ n
  | n, _ :: cs, true => 0 ≤ n ∧ low n cs false
  | n, c :: cs, false => if c = 92 then low n cs true else 0 ≤ n ∧ low (n + wt c) cs false
theorem low_nn : ∀ (cs : List Nat) (n : Int) (e : Bool), low n cs e → 0 ≤ n
  | [], _, _, h => h
  | _ :: _, _, true, h => h.1
  | c :: cs, n, false, h => by
    by_cases q : c = 92
    · have h' : low n cs true := by simpa [low, q] using h
      exact low_nn cs n true h'
    · have h' : 0 ≤ n ∧ low (n + wt c) cs false := by simpa [low, q] using h
      exact h'.1
theorem low_pre : ∀ (cs : List Nat) (n : Int) (e : Bool), low n cs e → ∀ pre suf, yields cs e = pre ++ suf → 0 ≤ n + total pre
  | cs, n, e, h, [], _, _ => by have := low_nn cs n e h; simpa [total] using this
  | [], n, true, h, y :: pre, suf, q => by
    have q' : [Str.ofString "\\"] = y :: (pre ++ suf) := q
    injection q' with q1 q2
    have : pre = [] := by
      cases pre with
      | nil => rfl
      | cons a b => cases q2
    subst this
    rw [total_cons, ← q1, par_bs]
    have h' : (0 : Int) ≤ n := h
    simpa [total] using h'
  | [], n, false, h, y :: pre, suf, q => by cases q
  | c :: cs, n, true, h, y :: pre, suf, q => by
    have q' : (Str.ofString "\\" ++ ⟨#[c]⟩) :: yields cs false = y :: (pre ++ suf) := q
    injection q' with q1 q2
    rw [total_cons, ← q1, par_esc, Int.zero_add]
    exact low_pre cs n false h.2 pre suf q2
  | c :: cs, n, false, h, y :: pre, suf, q => by
    by_cases z : c = 92
    · have e1 : yields (c :: cs) false = yields cs true := if_pos z
      have h' : low n cs true := by simpa [low, z] using h
      rw [e1] at q
      exact low_pre cs n true h' (y :: pre) suf q
    · have e1 : yields (c :: cs) false = ⟨#[c]⟩ :: yields cs false := if_neg z
      have h' : 0 ≤ n ∧ low (n + wt c) cs false := by simpa [low, z] using h
      rw [e1] at q
      have q' : (⟨#[c]⟩ : Str) :: yields cs false = y :: (pre ++ suf) := q
      injection q' with q1 q2
      rw [total_cons, ← q1, par_one]
      have := low_pre cs (n + wt c) false h'.2 pre suf q2
      omega
/-- a text that shuts all that it opens -/
structure Bal (X : List Nat) : Prop where
  lowAdd : ∀ n rest, 0 ≤ n → low n rest false → low n (X ++ rest) false
  valAdd : ∀ rest, val (X ++ rest) false = val rest false
  valTake : ∀ k, 0 ≤ val (X.take k) false
  lowTake : ∀ n k, 0 ≤ n → low n (X.take k) false
theorem Bal.nil : Bal [] := ⟨fun _ _ _ h => h, fun _ => rfl, fun _ => by simp [val], fun _ _ h => by simpa [low] using h⟩
theorem Bal.append {X Y : List Nat} (a : Bal X) (b : Bal Y) : Bal (X ++ Y) := by
  refine ⟨fun n rest h0 h => ?_, fun rest => ?_, fun k => ?_, fun n k h0 => ?_⟩
  · rw [List.append_assoc]
    exact a.lowAdd n _ h0 (b.lowAdd n rest h0 h)
  · rw [List.append_assoc, a.valAdd, b.valAdd]
  · rw [List.take_append]
    by_cases q : k ≤ X.length
    · rw [Nat.sub_eq_zero_of_le q, List.take_zero, List.append_nil]
      exact a.valTake k
    · rw [List.take_of_length_le (Nat.le_of_not_le q), a.valAdd]
      exact b.valTake _
  · rw [List.take_append]
    by_cases q : k ≤ X.length
    · rw [Nat.sub_eq_zero_of_le q, List.take_zero, List.append_nil]
      exact a.lowTake n k h0
    · rw [List.take_of_length_le (Nat.le_of_not_le q)]
      exact a.lowAdd n _ h0 (b.lowTake n _ h0)
theorem Bal.one {c : Nat} (h : c ≠ 92 ∧ c ≠ 40 ∧ c ≠ 41) : Bal [c] := by
  have hw : wt c = 0 := by simp [wt, h.2.1, h.2.2]
  refine ⟨fun n rest h0 q => ?_, fun rest => ?_, fun k => ?_, fun n k h0 => ?_⟩
  · simp [low, h.1, hw, h0, q]
  · simp [val, h.1, hw]
  · cases k <;> simp [val, h.1, hw]
  · cases k <;> simp [low, h.1, hw, h0]
theorem Bal.calm : ∀ {a : List Nat}, (∀ c ∈ a, c ≠ 92 ∧ c ≠ 40 ∧ c ≠ 41) → Bal a
  | [], _ => Bal.nil
  | c :: r, h => Bal.append (Bal.one (h c (.head _))) (Bal.calm fun d hd => h d (.tail _ hd))
theorem Bal.esc (c : Nat) : Bal [92, c] := by
  refine ⟨fun n rest h0 q => ?_, fun rest => ?_, fun k => ?_, fun n k h0 => ?_⟩
  · simp [low, h0, q]
  · simp [val]
  · match k with
    | 0 => simp [val]
    | 1 => simp [val]
    | k + 2 => simp [val]
  · match k with
    | 0 => simpa [low] using h0
    | 1 => simpa [low] using h0
    | k + 2 => simp [low, h0]
theorem wrap_take {X : List Nat} (a : Bal X) (k : Nat) (h1 : 1 ≤ k) (h2 : k < X.length + 2) : 1 ≤ val ((40 :: (X ++ [41])).take k) false := by
  obtain ⟨j, rfl⟩ : ∃ j, k = j + 1 := ⟨k - 1, by omega⟩
  have hj : j ≤ X.length := by omega
  rw [List.take_succ_cons, List.take_append_of_le_length hj]
  have := a.valTake j
  simp only [val, wt]
  simp
  omega
theorem Bal.wrap {X : List Nat} (a : Bal X) : Bal (40 :: (X ++ [41])) := by
  refine ⟨fun n rest h0 q => ?_, fun rest => ?_, fun k => ?_, fun n k h0 => ?_⟩
  · have h := a.lowAdd (n + 1) (41 :: rest) (by omega) (by simp [low, wt]; exact ⟨by omega, by rw [show n + 1 + -1 = n from by omega]; exact q⟩)
    simp [low, wt, h0]
    simpa using h
  · have h := a.valAdd (41 :: rest)
    have e : val (41 :: rest) false = -1 + val rest false := by simp [val, wt]
    rw [e] at h
    have : val (40 :: (X ++ [41]) ++ rest) false = 1 + val (X ++ 41 :: rest) false := by simp [val, wt]
    rw [this, h]
    omega
  · by_cases hk : k < X.length + 2
    · cases k with
      | zero => simp [val]
      | succ j => have := wrap_take a (j + 1) (by omega) hk; omega
    · have h := a.valAdd [41]
      rw [List.take_of_length_le (by simp; omega)]
      have e : val [41] false = -1 := by simp [val, wt]
      rw [e] at h
      have : val (40 :: (X ++ [41])) false = 1 + val (X ++ [41]) false := by simp [val, wt]
      rw [this, h]
      omega
  · cases k with
    | zero => simpa [low] using h0
    | succ j =>
      rw [List.take_succ_cons]
      have : low (n + 1) ((X ++ [41]).take j) false := by
        by_cases hk : j ≤ X.length
        · rw [List.take_append_of_le_length hk]
          exact a.lowTake _ _ (by omega)
        · rw [List.take_of_length_le (by simp; omega)]
          refine a.lowAdd _ _ (by omega) ?_
          simp [low, wt]
          omega
      simp [low, wt, h0]
      exact this
/-- the knock-out -/
inductive Tr where
  | leaf (u : List Nat)
  | node (l r : Tr)
noncomputable def Tr.body : Tr → List Nat
  | .leaf u => u
  | .node l r => (40 :: (l.body ++ [41])) ++ (40 :: (r.body ++ [41]))
noncomputable def Tr.txt (t : Tr) : List Nat := 40 :: (t.body ++ [41])
structure Good (g : Nat → Nat) (u : List Nat) : Prop where
  len : 1 ≤ u.length
  head : u.take 1 ≠ [40]
  fold : ∀ c ∈ u, inB1 (c : Nat) = false → foldIs c (g c) = true
  quote : 34 ∉ u
  cut : ∃ a b, u = a ++ b ∧ (∀ c ∈ a, c ≠ 92 ∧ c ≠ 40 ∧ c ≠ 41) ∧ (b = [] ∨ b = [92, 40] ∨ b = [92, 41])
noncomputable def Tr.Good (g : Nat → Nat) : Tr → Prop
  | .leaf u => Mine.Good g u
  | .node l r => l.Good g ∧ r.Good g
theorem Tr.bal {g : Nat → Nat} : ∀ {t : Tr}, t.Good g → Bal t.body
  | .leaf u, h => by
    obtain ⟨a, b, e, ha, hb⟩ := Mine.Good.cut h
    show Bal u
    rw [e]
    refine Bal.append (Bal.calm ha) ?_
    rcases hb with rfl | rfl | rfl
    · exact Bal.nil
    · exact Bal.esc 40
    · exact Bal.esc 41
  | .node l r, h => Bal.append (Bal.wrap (Tr.bal h.1)) (Bal.wrap (Tr.bal h.2))
theorem Tr.quote {g : Nat → Nat} : ∀ {t : Tr}, t.Good g → 34 ∉ t.body
  | .leaf _, h => Mine.Good.quote h
  | .node l r, h => by
    have h1 := Tr.quote h.1
    have h2 := Tr.quote h.2
    simp [Tr.body, h1, h2]
end Mine
end
section
open PySem PySem.W PySem.Calls PySem.Spec PyProof PyProof.Rows
namespace Mine
theorem fr_again {h₀ h : Heap} {L : Addr} {i : Str} {a b : Option Value} {m : Str → Option Value} (F : Fr h₀ L h (fun y => if y = i then a else if y = i then b else m y)) : Fr h₀ L h (fun y => if y = i then a else m y) := by
  have e : (fun y => if y = i then a else if y = i then b else m y) = fun y => if y = i then a else m y := by
    funext y
    by_cases q : y = i
    · simp [q]
    · simp [q]
  rwa [e] at F
noncomputable def CutStep (h₀ : Heap) (L : Addr) (s : Shared) (i : Str) (m : Str → Option Value) (news : List (Addr × Obj)) (k K : Int) (f : Flow) (s₃ : Shared) : Prop :=
  f = .next ∧ k < K ∧ ∃ h tk g t, s₃ = { s with heap := h, toks := tk, gens := g } ∧ Fr h₀ L h (fun y => if y = i then some (.int (k + 1) t) else m y) ∧ News h₀ L h news ∧ AllBare g
noncomputable def CutEnd (h₀ : Heap) (L : Addr) (s : Shared) (i : Str) (m : Str → Option Value) (news : List (Addr × Obj)) (k K : Int) (s₃ : Shared) : Prop :=
  k = K ∧ ∃ h tk g t, s₃ = { s with heap := h, toks := tk, gens := g } ∧ Fr h₀ L h (fun y => if y = i then some (.int K t) else m y) ∧ News h₀ L h news ∧ AllBare g
section
variable {prog : Program} {w : World} {A : Around} {E : Value → Shared → Prop} {Q : Flow → Shared → Prop} {s : Shared} {env : Env} {h₀ : Heap} {L : Addr}
theorem While_cut {i : Str} {test : Expr} {body : List Stmt} {pos : Pos} {m : Str → Option Value} {news : List (Addr × Obj)} {k₀ : Int} {t₀ : Tok} (K : Int)
    (F : Fr h₀ L s.heap (fun y => if y = i then some (.int k₀ t₀) else m y)) (N : News h₀ L s.heap news) (G : AllBare s.gens) (hk : k₀ ≤ K)
    (turn : ∀ k t h₁ tk₁ g₁, k₀ ≤ k → k ≤ K → Fr h₀ L h₁ (fun y => if y = i then some (.int k t) else m y) → News h₀ L h₁ news → AllBare g₁ →
      wpAny (model prog w) A (isTrue test env (eval test env)) (fun b s₂ =>
        if b = true then wpAny (model prog w) A (execs body env) (CutStep h₀ L s i m news k K) E s₂ else CutEnd h₀ L s i m news k K s₂) E { s with heap := h₁, toks := tk₁, gens := g₁ })
    (done : ∀ t h tk g, Fr h₀ L h (fun y => if y = i then some (.int K t) else m y) → News h₀ L h news → AllBare g → Q .next { s with heap := h, toks := tk, gens := g })
    (hE : PassesOwn (model prog w) A env E := by passes_own) :
    wpAny (model prog w) A (exec (.While test body [] pos) env) Q E s := by
  refine wpAny_While (codeAny_whileLoop (fun n s' => ∃ k t h₁ tk₁ g₁, s' = { s with heap := h₁, toks := tk₁, gens := g₁ } ∧ n = (K - k).toNat ∧ k₀ ≤ k ∧ k ≤ K ∧ Fr h₀ L h₁ (fun y => if y = i then some (.int k t) else m y) ∧ News h₀ L h₁ news ∧ AllBare g₁) ?_ (K - k₀).toNat
    ⟨k₀, t₀, s.heap, s.toks, s.gens, rfl, rfl, Int.le_refl _, hk, F, N, G⟩)
  rintro n s' ⟨k, t, h₁, tk₁, g₁, rfl, rfl, a1, a2, F₁, N₁, G₁⟩
  refine wpAny_mono (turn k t h₁ tk₁ g₁ a1 a2 F₁ N₁ G₁) (fun b s₂ h₂ => ?_) hE
  cases b with
  | false =>
    simp only [Bool.false_eq_true, if_false] at h₂ ⊢
    obtain ⟨e, h, tk, g, t, rfl, F', N', G'⟩ := h₂
    exact wpAny_execs_nil (done t h tk g F' N' G')
  | true =>
    simp only [if_true] at h₂ ⊢
    refine wpAny_mono h₂ (fun f s₃ h₃ => ?_) hE
    obtain ⟨rfl, hlt, h', tk, g, t, rfl, F₂, N₂, G₂⟩ := h₃
    exact ⟨(K - (k + 1)).toNat, by omega, k + 1, t, h', tk, g, rfl, rfl, by omega, by omega, F₂, N₂, G₂⟩
theorem my_len {Q : Value → Shared → Prop} {u : List Nat} {t : Tok} (hu : u.length < 900) (h : Q (.int u.length (s.toks + 1)) { s with toks := s.toks + 1 + 1 }) : wpAny (model prog w) A (call (.builtin "len") [.str (S' u) t]) Q E s := by
  refine P.len_str ?_ ?_
  · rw [len_S]; omega
  · rw [len_S]; exact h
theorem my_item {value slice : Expr} {u : List Nat} {k : Int} {t v : Tok} {c : Nat} {Q : Value → Shared → Prop} (hc : u[k.toNat]? = some c) (h0 : 0 ≤ k) (h1 : k < u.length) (hu : u.length < 900) (h : Q (.str ⟨#[c]⟩ s.toks) { s with toks := s.toks + 1 })
    (hs : subscripted slice false (.str (S' u) t) (.int k v) = operate [.str (S' u) t, .int k v] (getItem (.str (S' u) t) (.int k v)) := by with_unfolding_all rfl) :
    wpAny (model prog w) A (subscriptTail value slice (.str (S' u) t) (.int k v)) Q E s := by
  refine tail_any (typeIs_str s _ t) PySem.F.slot_str_getitem.lookup (P.getItem_str ?_ ?_ h) hs
  · have a1 : ¬ k < -(2 ^ 63 : Int) := by omega
    have a2 : ¬ k ≥ (2 ^ 63 : Int) := by omega
    rw [decide_eq_false a1, decide_eq_false a2]; rfl
  · rw [len_S]
    have : seqIndex? k u.length = some k.toNat := by
      have e1 : ¬ k < 0 := by omega
      unfold seqIndex?
      simp only [e1, if_false]
      rw [if_pos (by simp; omega)]
    rw [this]
    show u.toArray[k.toNat]? = some c
    rw [List.getElem?_toArray]; exact hc
end
structure CutOk (u : List Nat) (K : Int) : Prop where
  le : 2 ≤ K ∧ K < u.length
  len : u.length < 900
  last : u[(K - 1).toNat]? = some 41
  first : u.take 1 = [40]
  quote : 34 ∉ u
  low : ∀ k : Nat, k ≤ K → ∀ pre suf, yields (u.take k) false = pre ++ suf → 0 ≤ total pre
  some : ∀ k : Nat, 2 ≤ k → k < K → total (yields (u.take k) false) ≠ 0
  all : total (yields (u.take K.toNat) false) = 0
theorem check_cut (w : World) (u : List Nat) (K : Int) (c : CutOk u K) (k : Int) (h0 : 2 ≤ k) (h1 : k ≤ K) (b : Bool) (hb : decide (k = K) = b) (t : Tok) (news : List (Addr × Obj)) :
    Ctr w 42 4 [.str (S' (u.take k.toNat)) t] news (fun r n' => n' = news ∧ r = .bool b) := by
  refine ctr_mono (check_ctr w (S' (u.take k.toNat)) t news ?_ ?_) (Nat.le_refl _) (fun _ h => h) ?_
  · intro h
    exact c.quote (List.mem_of_mem_take h)
  · exact c.low k.toNat (by omega)
  · rintro r n' ⟨rfl, rfl⟩
    refine ⟨_, fun _ h => h, rfl, ?_⟩
    congr 1
    rw [← hb]
    by_cases q : k = K
    · subst q
      rw [decide_eq_true rfl]
      exact decide_eq_true c.all
    · rw [decide_eq_false q]
      exact decide_eq_false (c.some k.toNat (by omega) (by omega))
local macro_rules | `(tactic| walk_at "call ref") => `(tactic| (k_here; (with_reducible show wpAny _ _ (call (Value.ref 42) [Value.str _ _]) _ _ _); (refine' ctr_use (check_cut _ _ _ (by assumption) _ (by omega) (by omega) _ (by assumption) _ _) ?k1 ?k2 ?k3 ?k4 ?k5 ?kK ?kd ?ku ?kg ?_; (case k1 => k_asm); (case k2 => k_asm); (case k3 => k_asm); (case k4 => k_asm); (case k5 => k_asm); (case kK => first | exact rfl | assumption); (case kd => ktr_room); (case ku => ktr_units); (case kg => assumption)); intro r9 n9 h9 tk9 g9 F9 N9 p9 b9; obtain ⟨e9, e8⟩ := p9; subst e9; subst e8; (try dsimp only); (try k_fold)))
local macro_rules | `(tactic| walk_at "subscriptTail Name Slice str ref") => `(tactic| (k_here; (with_reducible show wpAny _ _ (subscriptTail _ (Expr.Slice (some _) (some _) none _) (Value.str _ _) _) _ _ _); (with_reducible rename Fr _ _ _ _ => F'); (with_reducible rename News _ _ _ _ => N'); (refine sl_ss (s := ⟨_, _, _, _, _⟩) (sl_mid _) F' N' ?_ ?hsz); (case hsz => (rw [len_S]; (try simp only [List.length_append, List.length_cons, List.length_nil]); size_fits)); intro _ _ _ _ _))
local macro_rules | `(tactic| walk_at "subscriptTail Name Slice str ref") => `(tactic| (k_here; (with_reducible show wpAny _ _ (subscriptTail _ (Expr.Slice none (some _) none _) (Value.str _ _) _) _ _ _); (with_reducible rename Fr _ _ _ _ => F'); (with_reducible rename News _ _ _ _ => N'); (refine sl_ns (s := ⟨_, _, _, _, _⟩) (sl_to _ _ (by omega) (by omega)) F' N' ?_ ?hsz); (case hsz => (rw [len_S]; (try simp only [List.length_append, List.length_cons, List.length_nil]); size_fits)); intro _ _ _ _ _))
local macro_rules | `(tactic| walk_at "subscriptTail Name Slice str ref") => `(tactic| (k_here; (with_reducible show wpAny _ _ (subscriptTail _ (Expr.Slice (some _) none none _) (Value.str _ _) _) _ _ _); (with_reducible rename Fr _ _ _ _ => F'); (with_reducible rename News _ _ _ _ => N'); (refine sl_sn (s := ⟨_, _, _, _, _⟩) (sl_from _ _ (by omega) (by omega)) F' N' ?_ ?hsz); (case hsz => (rw [len_S]; (try simp only [List.length_append, List.length_cons, List.length_nil]); size_fits)); intro _ _ _ _ _))
local macro_rules | `(tactic| walk_at "eval ListComp") => `(tactic| (k_here; lct_look; refine hold_intro ?_))
local macro_rules | `(tactic| walk_at "exec While") => `(tactic| (k_here; refine hold_intro ?_))
local macro_rules | `(tactic| walk_at "call builtin:len") => `(tactic| (k_here; (with_reducible show wpAny _ _ (call (Value.builtin "len") [Value.str _ _]) _ _ _); (refine my_len (by assumption) ?_)))
local macro_rules | `(tactic| walk_at "subscriptTail") => `(tactic| (k_here; (with_reducible show wpAny _ _ (subscriptTail _ _ (Value.str _ _) (Value.int _ _)) _ _ _); (with_unfolding_all refine my_item (by assumption) (by omega) (by omega) (by assumption) ?_)))
/-- what a call of _law_play tells: the best one and the duels -/
noncomputable def PlayC (w : World) (need : Nat) (dl : Nat) (X : List Nat) (R : Rose) (ps : List (List Nat × List Nat)) : Prop :=
  ∀ (t : Tok) (ds : List Value) (e : Nat) (S : List (Addr × Obj)), (∀ p ∈ S, p.1 ≠ dl) → ds.length + ps.length < 100 →
    Ctr w 125 need [.str (S' X) t, .ref dl] ((dl, listOf ds.toArray e) :: S)
      (fun r n' => ∃ R' ds' e', n' = (dl, listOf (ds ++ ds').toArray e') :: R' ∧ (∀ p ∈ S, p ∈ R') ∧ (∀ p ∈ R', p.1 ≠ dl) ∧ RIn R' R r ∧ PairsAt R' ps ds')
theorem playC_use {w : World} {need dl : Nat} {X : List Nat} {R : Rose} {ps : List (List Nat × List Nat)} (h : PlayC w need dl X R ps) {t : Tok} {ds : List Value} {e : Nat} {S : List (Addr × Obj)} (h1 : ∀ p ∈ S, p.1 ≠ dl) (h2 : ds.length + ps.length < 100) :
    Ctr w 125 need [.str (S' X) t, .ref dl] ((dl, listOf ds.toArray e) :: S)
      (fun r n' => ∃ R' ds' e', n' = (dl, listOf (ds ++ ds').toArray e') :: R' ∧ (∀ p ∈ S, p ∈ R') ∧ (∀ p ∈ R', p.1 ≠ dl) ∧ RIn R' R r ∧ PairsAt R' ps ds') := h t ds e S h1 h2
theorem RIn.isRef {S : List (Addr × Obj)} {r : Rose} {v : Value} (h : RIn S r v) : ∃ a : Nat, v = .ref a := by
  cases h with
  | @mk _ _ a => exact ⟨a, rfl⟩
local macro_rules | `(tactic| walk_at "call ref") => `(tactic| (k_here; (with_reducible show wpAny _ _ (call (Value.ref 125) [Value.str _ _, Value.ref _]) _ _ _); (refine' ctr_use (playC_use ?h1 ?h2 ?h3) ?k1 ?k2 ?k3 ?k4 ?k5 ?kK ?kd ?ku ?kg ?_; (case k1 => k_asm); (case k2 => k_asm); (case k3 => k_asm); (case k4 => k_asm); (case k5 => k_asm); (case h1 => assumption); (case h2 => assumption); (case h3 => (try simp only [List.length_append]); omega); (case kK => first | exact rfl | assumption); (case kd => ktr_room); (case ku => ktr_units); (case kg => assumption)); intro r9 n9 h9 tk9 g9 F9 N9 p9 b9; obtain ⟨R9, d9, z9, q9, s9, o9, i9, y9⟩ := p9; obtain ⟨a9, j9⟩ := i9.isRef; subst j9; subst q9; have l9 := y9.length; (try dsimp only); (try k_fold)))
local macro_rules | `(tactic| walk_at "call ref") => `(tactic| (k_here; (with_reducible show wpAny _ _ (call (Value.ref 120) [Value.ref _, Value.ref _, Value.ref _]) _ _ _); (refine' ctr_use (duel_R _ _ _ _ _ _ _ _ _ ?h1 ?h2 ?h3 ?h4 ?h5 ?h6) ?k1 ?k2 ?k3 ?k4 ?k5 ?kK ?kd ?ku ?kg ?_; (case k1 => k_asm); (case k2 => k_asm); (case k3 => k_asm); (case k4 => k_asm); (case k5 => k_asm); (case h1 => first | assumption | exact RIn.mono (by assumption) (by assumption)); (case h2 => assumption); (case h3 => assumption); (case h4 => (try simp only [List.length_append]); omega); (case h5 => assumption); (case h6 => assumption); (case kK => first | exact rfl | assumption); (case kd => ktr_room); (case ku => ktr_units); (case kg => assumption)); intro r9 n9 h9 tk9 g9 F9 N9 p9 b9; obtain ⟨R9, d9, z9, q9, s9, o9, i9, y9⟩ := p9; obtain ⟨a9, j9⟩ := i9.isRef; subst j9; subst q9; (try dsimp only); (try k_fold)))
theorem play_fin {dl : Nat} {S R1 R2 R3 : List (Addr × Obj)} {ds d1 d2 : List Value} {v r : Value} {e : Nat} {pl pr : List (List Nat × List Nat)} {pq : List Nat × List Nat} {R : Rose} (y3 : PairAt R3 pq v) (i : RIn R3 R r) (o : ∀ p ∈ R3, p.1 ≠ dl)
    (y1 : PairsAt R1 pl d1) (y2 : PairsAt R2 pr d2) (s1 : ∀ p ∈ S, p ∈ R1) (s2 : ∀ p ∈ R1, p ∈ R2) (s3 : ∀ p ∈ R2, p ∈ R3) :
    ∃ R' ds' e', (dl, listOf (ds ++ d1 ++ d2 ++ [v]).toArray e) :: R3 = (dl, listOf (ds ++ ds').toArray e') :: R' ∧ (∀ p ∈ S, p ∈ R') ∧ (∀ p ∈ R', p.1 ≠ dl) ∧ RIn R' R r ∧ PairsAt R' (pl ++ pr ++ [pq]) ds' := by
  refine ⟨R3, d1 ++ d2 ++ [v], e, by simp [List.append_assoc], fun p hp => s3 _ (s2 _ (s1 _ hp)), o, i, ?_⟩
  exact PairsAt.append (PairsAt.append (y1.mono fun p hp => s3 _ (s2 _ hp)) (y2.mono s3)) ⟨y3, trivial⟩
theorem node_ctr (w : World) (u : List Nat) (K : Int) (c : CutOk u K) (dl nd nl nr : Nat) (hnl : nl + 1 ≤ nd) (hnr : nr + 1 ≤ nd) (hnd : 5 ≤ nd) (RA RB : Rose) (pl pr : List (List Nat × List Nat))
    (hka : RA.kids.length < 100) (hkb : RB.kids.length < 100) (hl : PlayC w nl dl (u.take K.toNat) RA pl) (hr : PlayC w nr dl (u.drop K.toNat) RB pr) : PlayC w nd dl (40 :: (u ++ [41])) (duelR RA RB) (pl ++ pr ++ [(RA.name, RB.name)]) := by
  intro t ds e S hS hlen
  have hlen' : ds.length + pl.length + pr.length + 1 < 100 := by simp at hlen; omega
  clear hlen
  unfold Ctr
  k_fill
  intro loose mean mg mb dp un gd cn cs a ccd cl outer A₀ base h₀ L m s Q E B F X N T hk hd hu hg hret
  have hu := c.len
  have hu1 := c.le
  refine wpAny_call ?_
  k_dflt ktr_enter
  k_steps
  · exfalso
    rename (_ != _) = true => hne
    rw [show (List.take (Int.toNat 1) u) = [40] from c.first] at hne
    revert hne
    decide +kernel
  · unfold Hold
    with_unfolding_all refine While_cut (K := K) (by k_asm) (by k_asm) (by k_asm) (by omega) ?turn ?done
    case turn =>
      intro k t9 h₁ tk₁ g₁ a1 a2 F7 N7 G7
      cases hb : decide (k = K) with
      | true =>
        have hk : k = K := of_decide_eq_true hb
        have hc : u[(k - 1).toNat]? = some 41 := by rw [hk]; exact c.last
        subst hk
        k_steps
        exact ⟨rfl, _, _, _, _, rfl, by k_asm, by k_asm, by assumption⟩
      | false =>
        have hk : k < K := Int.lt_iff_le_and_ne.mpr ⟨a2, of_decide_eq_false hb⟩
        obtain ⟨ch, hc⟩ : ∃ ch, u[(k - 1).toNat]? = some ch := ⟨_, List.getElem?_eq_getElem (by omega)⟩
        k_steps
        all_goals exact ⟨rfl, hk, _, _, _, _, rfl, fr_again (by assumption), by k_asm, by assumption⟩
    case done =>
      intro t9 h₁ tk₁ g₁ F7 N7 G7
      k_steps
      refine hret _ _ _ _ _ (by assumption) (by assumption) ?P (by assumption)
      refine' play_fin ?y3 ?i ?o ?y1 ?y2 ?s1 ?s2 ?s3
      case y3 => assumption
      case i => assumption
      case o => assumption
      case y1 => assumption
      case y2 => assumption
      case s1 => assumption
      case s2 => assumption
      case s3 => assumption
end Mine
end
section
open PySem PySem.W PySem.Calls PySem.Spec PyProof PyProof.Rows
namespace Mine
noncomputable def prep (g : Nat → Nat) (u : List Nat) : List Nat := (u.filter fun (c : Nat) => !inB1 c).map g
/-- the knock-out played: the best one, and the duels in their order -/
noncomputable def playR (g : Nat → Nat) : Tr → Rose × List (List Nat × List Nat)
  | .leaf u => (.node (prep g u) [], [])
  | .node l r => (duelR (playR g l).1 (playR g r).1, (playR g l).2 ++ (playR g r).2 ++ [((playR g l).1.name, (playR g r).1.name)])
noncomputable def Tr.leaves : Tr → Nat
  | .leaf _ => 1
  | .node l r => l.leaves + r.leaves
theorem Tr.leaves_pos : ∀ t : Tr, 1 ≤ t.leaves
  | .leaf _ => Nat.le_refl _
  | .node l r => Nat.le_trans (Tr.leaves_pos l) (Nat.le_add_right _ _)
theorem duels_len (g : Nat → Nat) : ∀ t : Tr, (playR g t).2.length + 1 = t.leaves
  | .leaf _ => rfl
  | .node l r => by
    have := duels_len g l
    have := duels_len g r
    simp only [playR, Tr.leaves, List.length_append, List.length_cons, List.length_nil]
    omega
theorem duelR_kids (a b : Rose) : (duelR a b).kids.length ≤ max a.kids.length b.kids.length + 1 := by
  unfold duelR
  split
  · simp only [Rose.kids, List.length_append, List.length_cons, List.length_nil]; omega
  · simp only [Rose.kids, List.length_append, List.length_cons, List.length_nil]; omega
theorem kids_len (g : Nat → Nat) : ∀ t : Tr, (playR g t).1.kids.length + 1 ≤ t.leaves
  | .leaf _ => Nat.le_refl _
  | .node l r => by
    have h1 := kids_len g l
    have h2 := kids_len g r
    have h3 := Tr.leaves_pos l
    have h4 := Tr.leaves_pos r
    have := duelR_kids (playR g l).1 (playR g r).1
    show (duelR (playR g l).1 (playR g r).1).kids.length + 1 ≤ l.leaves + r.leaves
    omega
noncomputable def Tr.need : Tr → Nat
  | .leaf _ => 5
  | .node l r => max l.need r.need + 1
theorem Tr.need_ge : ∀ t : Tr, 5 ≤ t.need
  | .leaf _ => Nat.le_refl _
  | .node l r => by have := Tr.need_ge l; show 5 ≤ max l.need r.need + 1; omega
theorem Tr.need_le : ∀ t : Tr, t.need ≤ t.leaves + 4
  | .leaf _ => Nat.le_refl _
  | .node l r => by
    have := Tr.need_le l
    have := Tr.need_le r
    have := Tr.leaves_pos l
    have := Tr.leaves_pos r
    show max l.need r.need + 1 ≤ l.leaves + r.leaves + 4
    omega
theorem leaf_play (w : World) (g : Nat → Nat) (u : List Nat) (h : Good g u) (hu : u.length < 900) (dl : Nat) : PlayC w 5 dl (40 :: (u ++ [41])) (.node (prep g u) []) [] := by
  intro t ds e S hS hlen
  refine ctr_mono (leaf_ctr w u g hu h.len h.head h.fold t dl ((dl, listOf ds.toArray e) :: S)) (by omega) (fun _ hp => hp) ?_
  rintro r n' ⟨a, b, k, rfl, ha, hb, hsub⟩
  have hd := hsub _ (.head _)
  have na : a ≠ dl := Ne.symm hd.2.1
  have nb : b ≠ dl := Ne.symm hd.2.2
  refine ⟨(dl, listOf (ds ++ []).toArray e) :: off dl n', ?_, off dl n', [], e, rfl, ?_, fun p hp => (off_mem hp).2, .mk (mem_off ha na) (vs := []) (mem_off hb nb) .nil, trivial⟩
  · intro p hp
    rcases List.mem_cons.mp hp with rfl | hp
    · rw [List.append_nil]; exact hd.1
    · exact (off_mem hp).1
  · intro p hp
    exact mem_off (hsub p (.tail _ hp)).1 (hS p hp)
theorem cutOk_of {g : Nat → Nat} {l r : Tr} (hl : l.Good g) (hr : r.Good g) (hlen : (l.txt ++ r.txt).length < 900) : CutOk (l.txt ++ r.txt) (l.txt.length : Int) := by
  have bl := Tr.bal hl
  have hL : l.txt.length = l.body.length + 2 := by simp [Tr.txt]
  have hR : r.txt.length = r.body.length + 2 := by simp [Tr.txt]
  have tk : ∀ k : Nat, (k : Int) ≤ (l.txt.length : Int) → (l.txt ++ r.txt).take k = l.txt.take k := fun k hk => List.take_append_of_le_length (by omega)
  refine ⟨⟨by omega, by rw [List.length_append]; omega⟩, hlen, ?_, ?_, ?_, ?_, ?_, ?_⟩
  · rw [List.getElem?_append_left (by omega)]
    have : (((l.txt.length : Nat) : Int) - 1).toNat = l.body.length + 1 := by omega
    rw [this]
    simp [Tr.txt]
  · simp [Tr.txt]
  · have h1 := Tr.quote hl
    have h2 := Tr.quote hr
    simp [Tr.txt, h1, h2]
  · intro k hk pre suf q
    rw [tk k hk] at q
    have := low_pre _ 0 false (bl.wrap.lowTake 0 k (Int.le_refl _)) pre suf q
    omega
  · intro k h0 h1
    rw [tk k (by omega), val_yields]
    have := wrap_take bl k (by omega) (by omega)
    show val ((40 :: (l.body ++ [41])).take k) false ≠ 0
    omega
  · rw [Int.toNat_natCast, tk _ (Int.le_refl _), val_yields, List.take_of_length_le (Nat.le_refl _)]
    have := bl.wrap.valAdd []
    rw [List.append_nil] at this
    exact this
theorem play_ctr (w : World) (g : Nat → Nat) (dl : Nat) : ∀ t : Tr, t.Good g → t.txt.length < 900 → t.leaves < 50 → PlayC w t.need dl t.txt (playR g t).1 (playR g t).2
  | .leaf u, h, hu, _ => leaf_play w g u h (by simp [Tr.txt, Tr.body] at hu; omega) dl
  | .node l r, h, hu, hn => by
    have h1 := Tr.leaves_pos l
    have h2 := Tr.leaves_pos r
    have hn' : l.leaves + r.leaves < 50 := hn
    have hlen : (l.txt ++ r.txt).length + 2 < 900 := by
      have e : (Tr.node l r).txt = 40 :: ((l.txt ++ r.txt) ++ [41]) := rfl
      rw [e] at hu
      simp only [List.length_cons, List.length_append, List.length_nil] at hu ⊢
      omega
    have hlen' := hlen
    rw [List.length_append] at hlen'
    have c := cutOk_of h.1 h.2 (by omega)
    have il := play_ctr w g dl l h.1 (by omega) (by omega)
    have ir := play_ctr w g dl r h.2 (by omega) (by omega)
    have kl := kids_len g l
    have kr := kids_len g r
    have e1 : (l.txt ++ r.txt).take ((l.txt.length : Int)).toNat = l.txt := by rw [Int.toNat_natCast]; exact List.take_left
    have e2 : (l.txt ++ r.txt).drop ((l.txt.length : Int)).toNat = r.txt := by rw [Int.toNat_natCast]; exact List.drop_left
    exact node_ctr w (l.txt ++ r.txt) (l.txt.length : Int) c dl (max l.need r.need + 1) l.need r.need (by omega) (by omega) (by have := Tr.need_ge l; omega) _ _ _ _ (by omega) (by omega) (e1.symm ▸ il) (e2.symm ▸ ir)
end Mine
end
section
open PySem PySem.W PySem.Calls PySem.Spec PyProof PyProof.Rows
namespace Mine
theorem lp_eq : Str.ofString "(" = S' [40] := by decide +kernel
theorem rp_eq : Str.ofString ")" = S' [41] := by decide +kernel
section
variable {prog : Program} {w : World} {A : Around} {E : Value → Shared → Prop} {s : Shared} {h₀ : Heap} {L : Addr} {m : Str → Option Value} {news : List (Addr × Obj)}
theorem cat_S {x y : Str} {a b : List Nat} {t u : Tok} {Q : Value → Shared → Prop} (e1 : x = S' a) (e2 : y = S' b) (hz : a.length + b.length < 4000) (h : ∀ t' k, Q (.str (S' (a ++ b)) t') { s with toks := k }) :
    wpAny (model prog w) A (binaryOp .Add (.str x t) (.str y u)) Q E s := by
  subst e1 e2
  refine add_str (fun t' k => ?_) ?_
  · have : S' a ++ S' b = S' (a ++ b) := by
      show (⟨a.toArray ++ b.toArray⟩ : Str) = _
      simp [S']
    rw [this]; exact h t' k
  · rw [len_S, len_S, PySem.sizeLine_eq]; omega
theorem len_V {l : Addr} {vs : List Value} {Q : Value → Shared → Prop} (hl : s.heap.IsList l vs.toArray) (hz : vs.length < 4000) (h : Q (.int vs.length (s.toks + 1)) { s with toks := s.toks + 1 + 1 }) :
    wpAny (model prog w) A (call (.builtin "len") [.ref l]) Q E s :=
  len_list hl (by rw [List.size_toArray]; omega) (by rw [List.size_toArray]; exact h)
theorem pick_to (vs : List Value) (k : Int) (h0 : 0 ≤ k) (h1 : k ≤ vs.length) : (slicePick vs.toArray none (some k) none).toList = vs.take k.toNat := by
  have e : sliceBounds none (some k) none vs.toArray.size = (((0 : Nat) : Int), ((k.toNat : Nat) : Int), 1) := by
    simp only [sliceBounds, Option.getD_none, show (1 : Int) > 0 by decide, if_true, if_neg (show ¬ (k < 0) by omega), List.size_toArray]
    congr 1
    congr 1
    omega
  rw [kmk_pick_nat _ e]
  simp
theorem pick_from (vs : List Value) (k : Int) (h0 : 0 ≤ k) (h1 : k ≤ vs.length) : (slicePick vs.toArray (some k) none none).toList = vs.drop k.toNat := by
  have e : sliceBounds (some k) none none vs.toArray.size = (((k.toNat : Nat) : Int), ((vs.length : Nat) : Int), 1) := by
    simp only [sliceBounds, Option.getD_none, show (1 : Int) > 0 by decide, if_true, if_neg (show ¬ (k < 0) by omega), List.size_toArray]
    congr 1
    omega
  rw [kmk_pick_nat _ e]
  show ((vs.drop k.toNat).take (vs.length - k.toNat)).toArray.toList = _
  rw [List.take_of_length_le (by rw [List.length_drop]; omega)]
end
theorem StrVals.length : ∀ {vs : List Value} {ys : List Str}, StrVals vs ys → vs.length = ys.length
  | [], [], _ => rfl
  | _ :: _, _ :: _, ⟨_, b⟩ => congrArg (· + 1) (StrVals.length b)
  | [], _ :: _, h => h.elim
  | _ :: _, [], h => h.elim
theorem StrVals.take : ∀ {vs : List Value} {ys : List Str} (k : Nat), StrVals vs ys → StrVals (vs.take k) (ys.take k)
  | _, _, 0, _ => trivial
  | [], [], _ + 1, _ => trivial
  | _ :: _, _ :: _, k + 1, ⟨a, b⟩ => ⟨a, StrVals.take k b⟩
  | [], _ :: _, _, h => h.elim
  | _ :: _, [], _, h => h.elim
theorem StrVals.drop : ∀ {vs : List Value} {ys : List Str} (k : Nat), StrVals vs ys → StrVals (vs.drop k) (ys.drop k)
  | _, _, 0, h => h
  | [], [], _ + 1, _ => trivial
  | _ :: _, _ :: _, k + 1, ⟨_, b⟩ => StrVals.drop k b
  | [], _ :: _, _, h => h.elim
  | _ :: _, [], _, h => h.elim

/-- what a call of _law_bracket tells -/
noncomputable def BrC (w : World) (need : Nat) (vs : List Value) (v : Int) (X : List Nat) : Prop :=
  ∀ (t : Tok) (l : Nat) (e : Nat) (S : List (Addr × Obj)), Ctr w 113 need [.ref l, .int v t] ((l, listOf vs.toArray e) :: S) (fun r n' => (∃ k, r = .str (S' X) k) ∧ ∀ p ∈ (l, listOf vs.toArray e) :: S, p ∈ n')
theorem brC_use {w : World} {need : Nat} {vs : List Value} {v : Int} {X : List Nat} (h : BrC w need vs v X) {t : Tok} {l : Nat} {e : Nat} {news : List (Addr × Obj)} (hm : (l, listOf vs.toArray e) ∈ news) :
    Ctr w 113 need [.ref l, .int v t] news (fun r n' => ∃ k, r = .str (S' X) k ∧ n' = news) := by
  refine ctr_mono (h t l e news) (Nat.le_refl _) (fun p hp => ?_) ?_
  · rcases List.mem_cons.mp hp with rfl | hp
    · exact hm
    · exact hp
  · rintro r n' ⟨⟨k, rfl⟩, hs⟩
    exact ⟨news, fun p hp => hs p (.tail _ hp), k, rfl, rfl⟩
local macro_rules | `(tactic| walk_at "binaryOp Add str str") => `(tactic| (k_here; (with_reducible show wpAny _ _ (binaryOp Operator.Add (Value.str _ _) (Value.str _ _)) _ _ _); (refine' cat_S ?e1 ?e2 ?sz ?_; (case e1 => first | exact lp_eq | exact rp_eq | rfl); (case e2 => first | exact lp_eq | exact rp_eq | rfl); (case sz => (simp only [List.length_append, List.length_cons, List.length_nil]; omega))); intro _ _))
local macro_rules | `(tactic| walk_at "call builtin:len") => `(tactic| (k_here; (with_reducible show wpAny _ _ (call (Value.builtin "len") [Value.ref _]) _ _ _); (refine' len_V ?l ?z ?_; (case l => kmk_list); (case z => omega))))
local macro_rules | `(tactic| walk_at "subscriptTail Name Slice ref ref") => `(tactic| (k_here; (with_reducible show wpAny _ _ (subscriptTail _ (PySem.Expr.Slice none (some _) none _) (Value.ref _) (Value.ref _)) _ _ _); k_dflt (refine' kmk_slice_lit ?F ?N ?l ?p ?q ?e ?_ ?s ?t ?z; (case F => k_asm); (case N => k_asm); (case l => kmk_list); (case p => kmk_part); (case q => kmk_part); (case e => exact pick_to _ _ (by omega) (by omega)); (case s => with_unfolding_all rfl); (case t => kmk_pure); (case z => (rw [List.size_toArray, PySem.sizeLine_eq]; (try simp only [List.length_take, List.length_drop]); omega))); intro D' h' F' N' l1; (try k_lt l1); (try k_sweep)))
local macro_rules | `(tactic| walk_at "subscriptTail Name Slice ref ref") => `(tactic| (k_here; (with_reducible show wpAny _ _ (subscriptTail _ (PySem.Expr.Slice (some _) none none _) (Value.ref _) (Value.ref _)) _ _ _); k_dflt (refine' kmk_slice_lit ?F ?N ?l ?p ?q ?e ?_ ?s ?t ?z; (case F => k_asm); (case N => k_asm); (case l => kmk_list); (case p => kmk_part); (case q => kmk_part); (case e => exact pick_from _ _ (by omega) (by omega)); (case s => with_unfolding_all rfl); (case t => kmk_pure); (case z => (rw [List.size_toArray, PySem.sizeLine_eq]; (try simp only [List.length_take, List.length_drop]); omega))); intro D' h' F' N' l1; (try k_lt l1); (try k_sweep)))
local macro_rules | `(tactic| walk_at "call ref") => `(tactic| (k_here; (with_reducible show wpAny _ _ (call (Value.ref 113) [Value.ref _, Value.int _ _]) _ _ _); (refine' ctr_use (brC_use ?h1 ?h2) ?k1 ?k2 ?k3 ?k4 ?k5 ?kK ?kd ?ku ?kg ?_; (case k1 => k_asm); (case k2 => k_asm); (case k3 => k_asm); (case k4 => k_asm); (case k5 => k_asm); (case h2 => k_mem); (case h1 => assumption); (case kK => first | exact rfl | assumption); (case kd => ktr_room); (case ku => ktr_units); (case kg => assumption)); intro r9 n9 h9 tk9 g9 F9 N9 p9 b9; obtain ⟨k9, q9, z9⟩ := p9; subst q9; subst z9; (try dsimp only); (try k_fold)))

theorem br_one (w : World) (x : List Nat) (k : Tok) (v : Int) (hx : x.length < 1000) : BrC w 2 [.str (S' x) k] v (40 :: (x ++ [41])) := by
  intro t l e S
  unfold Ctr
  k_fill
  intro loose mean mg mb dp un gd cn cs a ccd cl outer A₀ base h₀ L m s Q E B F X N T hk hd hu hg hret
  refine wpAny_call ?_
  k_dflt ktr_enter
  k_steps
  exact hret _ _ _ _ _ (by assumption) (by assumption) ⟨⟨_, rfl⟩, fun p hp => by first | exact hp | exact .tail _ hp | exact .tail _ (.tail _ hp)⟩ (by assumption)
theorem br_more (w : World) (vs : List Value) (v : Int) (h2 : 2 ≤ vs.length) (h1 : vs.length < 50) (nd nl : Nat) (hnd : nl + 1 ≤ nd) (X Y : List Nat) (hX : X.length < 1000) (hY : Y.length < 1000)
    (hl : BrC w nl (vs.take (v.fmod ((vs.length : Int) - 1) + 1).toNat) (v.fdiv 3) X) (hr : BrC w nl (vs.drop (v.fmod ((vs.length : Int) - 1) + 1).toNat) (v.fdiv 5) Y) : BrC w nd vs v (40 :: ((X ++ Y) ++ [41])) := by
  intro t l e S
  unfold Ctr
  k_fill
  intro loose mean mg mb dp un gd cn cs a ccd cl outer A₀ base h₀ L m s Q E B F X N T hk hd hu hg hret
  have hb1 : 0 ≤ v.fmod ((vs.length : Int) - 1) := Int.fmod_nonneg_of_pos _ (by omega)
  have hb2 : v.fmod ((vs.length : Int) - 1) < (vs.length : Int) - 1 := Int.fmod_lt_of_pos _ (by omega)
  refine wpAny_call ?_
  k_dflt ktr_enter
  k_steps
  all_goals first | (exfalso; omega) | skip
  refine hret _ ?nn _ _ _ ?F2 ?N2 ?P2 ?G2
  case F2 => assumption
  case N2 => assumption
  case G2 => assumption
  refine ⟨⟨_, rfl⟩, fun p hp => ?_⟩
  first | exact hp | exact .tail _ hp | exact .tail _ (.tail _ hp) | exact .tail _ (.tail _ (.tail _ hp)) | exact .tail _ (.tail _ (.tail _ (.tail _ hp)))
/-- the text that _law_bracket cuts out of the names -/
noncomputable def brT : Nat → List (List Nat) → Int → Tr
  | 0, ns, _ => .leaf (ns.headD [])
  | n + 1, ns, v => if ns.length = 1 then .leaf (ns.headD []) else
      .node (brT n (ns.take (v.fmod ((ns.length : Int) - 1) + 1).toNat) (v.fdiv 3)) (brT n (ns.drop (v.fmod ((ns.length : Int) - 1) + 1).toNat) (v.fdiv 5))
theorem cut_len (ns : List (List Nat)) (v : Int) (h : 2 ≤ ns.length) : 1 ≤ (ns.take (v.fmod ((ns.length : Int) - 1) + 1).toNat).length ∧ 1 ≤ (ns.drop (v.fmod ((ns.length : Int) - 1) + 1).toNat).length ∧
    (ns.take (v.fmod ((ns.length : Int) - 1) + 1).toNat).length + (ns.drop (v.fmod ((ns.length : Int) - 1) + 1).toNat).length = ns.length := by
  have hb1 : 0 ≤ v.fmod ((ns.length : Int) - 1) := Int.fmod_nonneg_of_pos _ (by omega)
  have hb2 : v.fmod ((ns.length : Int) - 1) < (ns.length : Int) - 1 := Int.fmod_lt_of_pos _ (by omega)
  rw [List.length_take, List.length_drop]
  omega
theorem sum_take_drop (l : List Nat) (k : Nat) : (l.take k).sum + (l.drop k).sum = l.sum := by
  rw [← List.sum_append, List.take_append_drop]
theorem txt_len : ∀ (n : Nat) (ns : List (List Nat)) (v : Int), 1 ≤ ns.length → ns.length ≤ n + 1 → (brT n ns v).txt.length + 2 ≤ (ns.map fun x => x.length + 4).sum
  | 0, [], _, h, _ => by simp at h
  | 0, [x], _, _, _ => by simp [brT, Tr.txt, Tr.body]
  | 0, x :: y :: r, _, _, h => by simp at h
  | n + 1, ns, v, h, h' => by
    unfold brT
    split
    · rename_i q
      match ns, q with
      | [x], _ => simp [Tr.txt, Tr.body]
    · rename_i q
      obtain ⟨c1, c2, c3⟩ := cut_len ns v (by omega)
      have i1 := txt_len n _ (v.fdiv 3) c1 (by omega)
      have i2 := txt_len n _ (v.fdiv 5) c2 (by omega)
      have hs := sum_take_drop (ns.map fun x => x.length + 4) (v.fmod ((ns.length : Int) - 1) + 1).toNat
      rw [← List.map_take, ← List.map_drop] at hs
      have e : ∀ l r : Tr, (Tr.node l r).txt.length = l.txt.length + r.txt.length + 2 := fun l r => by
        show (40 :: ((l.txt ++ r.txt) ++ [41])).length = _
        simp
        omega
      rw [e]
      omega
theorem br_ctr (w : World) : ∀ (n : Nat) (ns : List (List Nat)) (vs : List Value) (v : Int), StrVals vs (ns.map S') → 1 ≤ ns.length → ns.length ≤ n + 1 → ns.length < 50 → (ns.map fun x => x.length + 4).sum < 900 → BrC w (n + 2) vs v (brT n ns v).txt := by
  intro n
  induction n with
  | zero =>
    intro ns vs v hv h1 h2 h3 hz
    match ns, vs, hv with
    | [x], [_], ⟨⟨k, rfl⟩, _⟩ => exact br_one w x k v (by simp at hz; omega)
    | [], _, _ => simp at h1
    | _ :: _ :: _, _, _ => simp at h2
  | succ n ih =>
    intro ns vs v hv h1 h2 h3 hz
    have hlen : vs.length = ns.length := by rw [hv.length, List.length_map]
    unfold brT
    split
    · rename_i q
      match ns, vs, hv with
      | [x], [_], ⟨⟨k, rfl⟩, _⟩ =>
        have := br_one w x k v (by simp at hz; omega)
        intro t l e S
        exact ctr_mono (this t l e S) (by omega) (fun _ h => h) fun r n' h => ⟨n', fun _ h => h, h⟩
      | [], _, _ => simp at h1
      | _ :: _ :: _, _, _ => simp at q
    · rename_i q
      obtain ⟨c1, c2, c3⟩ := cut_len ns v (by omega)
      have hs := sum_take_drop (ns.map fun x => x.length + 4) (v.fmod ((ns.length : Int) - 1) + 1).toNat
      rw [← List.map_take, ← List.map_drop] at hs
      have i1 := ih (ns.take (v.fmod ((ns.length : Int) - 1) + 1).toNat) (vs.take (v.fmod ((ns.length : Int) - 1) + 1).toNat) (v.fdiv 3) (by rw [List.map_take]; exact hv.take _) c1 (by omega) (by omega) (by omega)
      have i2 := ih (ns.drop (v.fmod ((ns.length : Int) - 1) + 1).toNat) (vs.drop (v.fmod ((ns.length : Int) - 1) + 1).toNat) (v.fdiv 5) (by rw [List.map_drop]; exact hv.drop _) c2 (by omega) (by omega) (by omega)
      have l1 := txt_len n _ (v.fdiv 3) c1 (by omega)
      have l2 := txt_len n _ (v.fdiv 5) c2 (by omega)
      have e : (vs.length : Int) = (ns.length : Int) := by rw [hlen]
      have ll : ∀ t : Tr, t.txt.length = t.body.length + 2 := fun t => by simp [Tr.txt]
      refine br_more w vs v (by omega) (by omega) (n + 1 + 2) (n + 2) (by omega) (brT n (ns.take (v.fmod ((ns.length : Int) - 1) + 1).toNat) (v.fdiv 3)).txt (brT n (ns.drop (v.fmod ((ns.length : Int) - 1) + 1).toNat) (v.fdiv 5)).txt (by omega) (by omega) ?_ ?_
      · rw [e]; exact i1
      · rw [e]; exact i2
end Mine
end
section
open PySem PySem.W PySem.Calls PySem.Spec PyProof PyProof.Rows
namespace Mine
theorem law_eqs {P : Params} {name qual : Str} {params : Arguments} {body : List Stmt} {scope : Scope} {dV kV doc pm cdv ct oc : Value} {an od : Option Addr} {osl : Array (Option Value)}
    (ho : (KF P).lookup 130 = some ⟨oc, od, .func (fnOf name qual params body scope dV kV doc pm an cdv ct), osl⟩) : nameOf 15 = name ∧ scopeOf 15 = scope ∧ bodyOf 15 = body := by
  have h2 : (KF P).lookup 130 = some (Obj.mk (Value.type "function") none (Data.func (fdOf 15 (Value.str (Str.ofString "law_wa0035_01") 2259) (Value.ref 129))) #[]) := by kernel_rfl
  rw [ho] at h2
  injection h2 with h2
  injection h2 with _ _ h3 _
  injection h3 with h3
  have e1 : name = nameOf 15 := congrArg FuncData.name h3
  have e2 : scope = scopeOf 15 := congrArg FuncData.scope h3
  have e3 : FuncBody.stmts body = (fdOf 15 (Value.str (Str.ofString "law_wa0035_01") 2259) (Value.ref 129)).body := congrArg FuncData.body h3
  have e4 : body = bodyOf 15 := by
    have : FuncBody.stmts body = FuncBody.stmts (bodyOf 15) := e3
    injection this
  exact ⟨e1.symm, e2.symm, e4.symm⟩
/-- the law's own frame: the code, where it runs -/
noncomputable abbrev lawEnv (L f : Nat) (cd : Value) : Env := envOfC (nameOf 15) (scopeOf 15) L f cd
noncomputable def LawWp (w : World) (L f : Nat) (cd : Value) (k : Nat) (Q : Flow → Shared → Prop) (E : Value → Shared → Prop) (s : Shared) : Prop :=
  wpAny (model PySem.Challenge.rw_wa0035_01.row.prog w) (callerA.deeper (lawEnv L f cd)) (execs ((bodyOf 15).drop k) (lawEnv L f cd)) Q E s
noncomputable def poolAt (t : Tok) : List Value := [.str (Str.ofString "aa") t, .str (Str.ofString "ab") (t + 1), .str (Str.ofString "ac") (t + 1 + 1), .str (Str.ofString "ba") (t + 1 + 1 + 1), .str (Str.ofString "bb") (t + 1 + 1 + 1 + 1), .str (Str.ofString "bc") (t + 1 + 1 + 1 + 1 + 1), .str (Str.ofString "ca") (t + 1 + 1 + 1 + 1 + 1 + 1), .str (Str.ofString "cb") (t + 1 + 1 + 1 + 1 + 1 + 1 + 1)]
noncomputable def rowAt (t : Tok) : List Value := [.int 306 t, .int 129 (t + 1), .int 89 (t + 1 + 1), .int 106 (t + 1 + 1 + 1), .int 274 (t + 1 + 1 + 1 + 1), .int 186 (t + 1 + 1 + 1 + 1 + 1)]
noncomputable def frA (l row pool names plain : Nat) (many : Int) (tm : Tok) : Str → Option Value := fun y =>
  if y = Str.ofString "plain" then some (.ref plain) else if y = Str.ofString "names" then some (.ref names) else if y = Str.ofString "pool" then some (.ref pool) else
  if y = Str.ofString "many" then some (.int many tm) else if y = Str.ofString "row" then some (.ref row) else if y = Str.ofString "script" then some (.ref l) else none
local macro_rules | `(tactic| walk_at "execs cons") => `(tactic| (k_here; (with_reducible show wpAny _ _ (execs (Stmt.For _ _ _ _ _ :: _) _) _ _ _); refine hold_intro ?_))
theorem law_A (w : World) (loose : List Str) (mean : ExcName → Option Value) (mg mb : Str → Option Value) (h₀ : Heap) (f : Nat) (cdv : Value) (l : Nat) (vs : List Value) (ns : List Int) (s : Shared) (Q : Flow → Shared → Prop) (E : Value → Shared → Prop) (o1 o2 o3 : Obj)
    (K0 : Below callerA h₀ [] h₀) (X : (KF w.params).In h₀) (T : Top viewQ loose mean mg mb h₀) (hl : h₀.IsList l vs.toArray) (hI : IntsAre vs ns) (hn : ns.length ≤ 63)
    (F : Fr h₀ h₀.objs.size s.heap (fun y => if y = Str.ofString "script" then some (.ref l) else none))
    (N : News h₀ h₀.objs.size s.heap [(h₀.objs.size + 1 + 1 + 1, o3), (h₀.objs.size + 1 + 1, o2), (h₀.objs.size + 1, o1)])
    (next : ∀ (row pool names plain : Nat) (many : Int) (tm tr tp : Tok) (h' : Heap) (tk' : Nat), (many = 5 ∨ many = 6) →
      row < pool → pool < names → names < plain → h₀.objs.size + 1 + 1 + 1 < row →
      Fr h₀ h₀.objs.size h' (frA l row pool names plain many tm) →
      News h₀ h₀.objs.size h' [(plain, listOf #[] 0), (names, listOf #[] 0), (pool, listOf (poolAt tp).toArray 0), (row, listOf (rowAt tr).toArray 0), (h₀.objs.size + 1 + 1 + 1, o3), (h₀.objs.size + 1 + 1, o2), (h₀.objs.size + 1, o1)] →
      LawWp w h₀.objs.size f cdv 5 Q E { s with heap := h', toks := tk' }) :
    LawWp w h₀.objs.size f cdv 0 Q E s := by
  unfold LawWp lawEnv at *
  revert K0 X
  k_fill
  intro K0 X
  have he := law_eqs (P := w.params) (by k_is)
  obtain ⟨e1, e2, e3⟩ := he
  simp only [e1, e2, e3] at next ⊢
  clear e1 e2 e3
  simp only [List.drop_succ_cons, List.drop_zero] at next ⊢
  k_steps
  · unfold Hold
    refine' next _ _ _ _ _ _ _ _ _ _ ?hm1 ?a1 ?b1 ?c1 ?d1 ?F1 ?N1
    case F1 => assumption
    case N1 => assumption
    case hm1 => first | exact .inr rfl | exact .inl rfl
    case a1 => (dsimp only at *); omega
    case b1 => (dsimp only at *); omega
    case c1 => (dsimp only at *); omega
    case d1 => (dsimp only at *); omega
  · unfold Hold
    refine' next _ _ _ _ _ _ _ _ _ _ ?hm2 ?a2 ?b2 ?c2 ?d2 ?F2 ?N2
    case F2 => assumption
    case N2 => assumption
    case hm2 => first | exact .inr rfl | exact .inl rfl
    case a2 => (dsimp only at *); omega
    case b2 => (dsimp only at *); omega
    case c2 => (dsimp only at *); omega
    case d2 => (dsimp only at *); omega
end Mine
end
section
open PySem PySem.W PySem.Calls PySem.Spec PyProof PyProof.Rows
namespace Mine
theorem StrVals.get : ∀ {vs : List Value} {xs : List (List Nat)}, StrVals vs (xs.map S') → ∀ i, i < vs.length → ∃ x t, xs[i]? = some x ∧ vs[i]? = some (.str (S' x) t)
  | [], [], _, i, h => absurd h (Nat.not_lt_zero i)
  | v :: vs, x :: xs, ⟨⟨t, e⟩, _⟩, 0, _ => ⟨x, t, rfl, by simp [e]⟩
  | v :: vs, x :: xs, ⟨_, b⟩, i + 1, h => by
    obtain ⟨y, t, h1, h2⟩ := StrVals.get b i (by simpa using h)
    exact ⟨y, t, by simpa using h1, by simpa using h2⟩
  | [], _ :: _, h, _, _ => h.elim
  | _ :: _, [], h, _, _ => h.elim
theorem cut_of {α : Type} : ∀ (l : List α) (i : Nat) (x : α), l[i]? = some x → l = l.take i ++ x :: l.drop (i + 1)
  | [], i, x, h => by simp at h
  | a :: l, 0, x, h => by simp at h; simp [h]
  | a :: l, i + 1, x, h => by
    have := cut_of l i x (by simpa using h)
    simp only [List.take_succ_cons, List.drop_succ_cons, List.cons_append]
    rw [← this]
theorem klcut_of : ∀ (l : List Value) (i : Nat) (x : Value), l[i]? = some x → kl_cut l i = some (l.take i, x, l.drop (i + 1))
  | [], i, x, h => by simp at h
  | a :: l, 0, x, h => by simp at h; subst h; rfl
  | a :: l, i + 1, x, h => by
    have := klcut_of l i x (by simpa using h)
    show (match kl_cut l i with | some (p, y, q) => some (a :: p, y, q) | none => none) = _
    rw [this]
    simp
theorem StrVals.append {vs : List Value} {xs : List Str} : ∀ {us : List Value} {ys : List Str}, StrVals us ys → StrVals vs xs → StrVals (us ++ vs) (ys ++ xs)
  | [], [], _, h => h
  | _ :: _, _ :: _, ⟨a, b⟩, h => ⟨a, StrVals.append b h⟩
  | [], _ :: _, h, _ => h.elim
  | _ :: _, [], h, _ => h.elim
section
variable {prog : Program} {w : World} {A : Around} {E : Value → Shared → Prop} {s : Shared} {h₀ : Heap} {L : Addr} {m : Str → Option Value} {news : List (Addr × Obj)}
theorem pick_str {value slice : Expr} {l : Addr} {vs : List Value} {xs : List (List Nat)} {j : Int} {u : Tok} {Q : Value → Shared → Prop} (hl : s.heap.IsList l vs.toArray) (hv : StrVals vs (xs.map S')) (h0 : 0 ≤ j) (h1 : j < (vs.length : Int)) (hz : vs.length < 4000)
    (h : ∀ x t, x ∈ xs → Q (.str (S' x) t) s)
    (hs : subscripted slice false (.ref l) (.int j u) = operate [.ref l, .int j u] (getItem (.ref l) (.int j u)) := by with_unfolding_all rfl) :
    wpAny (model prog w) A (subscriptTail value slice (.ref l) (.int j u)) Q E s := by
  obtain ⟨x, t, hx, hy⟩ := hv.get j.toNat (by omega)
  exact tail_any hl.typeIs slot_list_getitem.lookup (wpAny_getItem_list hl h0 (by omega) (by rw [List.getElem?_toArray]; exact hy) (h x t (List.mem_of_getElem? hx))) hs
/-- the values are ints of the list -/
noncomputable def IntVals (vs : List Value) (xs : List Int) : Prop := ∀ v ∈ vs, ∃ n t, v = .int n t ∧ n ∈ xs
theorem pick_int {value slice : Expr} {l : Addr} {vs : List Value} {xs : List Int} {j : Int} {u : Tok} {Q : Value → Shared → Prop} (hl : s.heap.IsList l vs.toArray) (hv : IntVals vs xs) (h0 : 0 ≤ j) (h1 : j < (vs.length : Int)) (hz : vs.length < 4000)
    (h : ∀ n t, n ∈ xs → Q (.int n t) s)
    (hs : subscripted slice false (.ref l) (.int j u) = operate [.ref l, .int j u] (getItem (.ref l) (.int j u)) := by with_unfolding_all rfl) :
    wpAny (model prog w) A (subscriptTail value slice (.ref l) (.int j u)) Q E s := by
  have hlt : j.toNat < vs.length := by omega
  have hy : vs[j.toNat]? = some vs[j.toNat] := List.getElem?_eq_getElem hlt
  obtain ⟨n, t, e, hm⟩ := hv vs[j.toNat] (List.getElem_mem hlt)
  rw [e] at hy
  exact tail_any hl.typeIs slot_list_getitem.lookup (wpAny_getItem_list hl h0 (by omega) (by rw [List.getElem?_toArray]; exact hy) (h n t hm)) hs
theorem pop_V {D : Addr} {n : Nat} {j : Int} {u : Tok} {vs : List Value} {rest : List (List Nat)} {news' : Obj → List (Addr × Obj)} {Q : Value → Shared → Prop} (F : Fr h₀ L s.heap m) (N : News h₀ L s.heap news) (U : ∀ o, Upd D (listOf vs.toArray n) o news (news' o))
    (hv : StrVals vs (rest.map S')) (h0 : 0 ≤ j) (h1 : j < (vs.length : Int)) (hz : vs.length < 4000)
    (h : ∀ vs' rest' nm t h', StrVals vs' (rest'.map S') → (nm :: rest').Perm rest → vs'.length + 1 = vs.length → Fr h₀ L h' m → News h₀ L h' (news' (listOf vs'.toArray (n + 1))) → Q (.str (S' nm) t) { s with heap := h' }) :
    wpAny (model prog w) A (call (.builtin "list.pop") [.ref D, .int j u]) Q E s := by
  obtain ⟨x, t, hx, hy⟩ := hv.get j.toNat (by omega)
  have hlt : j.toNat < vs.length := by omega
  refine kl_popAt (k := j.toNat) (p := vs.take j.toNat) (q := vs.drop (j.toNat + 1)) (y := .str (S' x) t) F N ?_ ?_ ?_ (U _) ?_ fun h' F' N' => h (vs.take j.toNat ++ vs.drop (j.toNat + 1)) (rest.take j.toNat ++ rest.drop (j.toNat + 1)) x t h' ?_ ?_ ?_ F' N'
  · unfold Builtin.List.listFitsIndex
    simp
    omega
  · have e1 : ¬ j < 0 := by omega
    unfold seqIndex?
    simp only [e1, if_false]
    rw [if_pos (by simp; omega)]
  · exact klcut_of vs j.toNat _ hy
  · rw [PySem.sizeLine_eq]; show vs.length ≤ _; omega
  · rw [List.map_append, List.map_take, List.map_drop]
    exact StrVals.append (hv.take _) (hv.drop _)
  · have e := cut_of rest j.toNat x hx
    conv => rhs; rw [e]
    exact (List.perm_middle).symm
  · rw [List.length_append, List.length_take, List.length_drop]; omega
end
open LCg
section
variable {prog : Program} {w : World} {A : Around} {E : Value → Shared → Prop} {s : Shared} {h₀ : Heap} {L : Addr} {m : Str → Option Value} {env : Env}
noncomputable def StrSrcU (prog : Program) (w : World) (A : Around) (h₀ : Heap) (L : Addr) (m : Str → Option Value) (env : Env) (elt : Expr) (x : Str) (scope : Scope) (cl : List (Str × Addr)) (Q : Value → Shared → Prop) (v : Value) (s : Shared) : Prop :=
  ∃ tx t news, v = .str tx t ∧ Fr h₀ L s.heap m ∧ News h₀ L s.heap news ∧ A.handled = none ∧ tx.cps.size ≤ sizeLine ∧
    ∀ g, CompRest prog w A h₀ L m env elt x scope cl { s with heap := g } (fun _ => True) (SignAt tx) (FinE h₀ L m { s with heap := g } Q) tx.cps.size 0 [] news
theorem listcomp_strU {elt iter : Expr} {x : Str} {px : Pos} {scope : Scope} {cl : List (Str × Addr)} {pos : Pos} {Q : Value → Shared → Prop} (_F₀ : Fr h₀ L s.heap m)
    (hclos : closureFor scope env = pure cl) (hcell : ∀ y ∈ scope.names, y.2 ≠ .cell) (hkind : scope.kind = .function)
    (hnames : ∀ y ∈ scope.names, y.2 = .local → scope.names.lookup y.1 = some .local) (hx : scope.names.lookup x = some .local)
    (h : wpAny (model prog w) A (eval iter env) (StrSrcU prog w A h₀ L m env elt x scope cl Q) E s)
    (hs : ∀ x, foldedSetIterable iter env x = pure x := by intro _; rfl) :
    wpAny (model prog w) A (eval (.ListComp elt [⟨.Name x px, iter, [], 0⟩] scope pos) env) Q E s := by
  rw [eval_ListComp]
  refine wpAny_comprehension_free (use := none) rfl hs hclos hkind hnames (wpAny_mono h (fun xv s h₁ => ?_) fun _ _ e => e)
  obtain ⟨tx, t, news, rfl, F, N, hh, hsz, R⟩ := h₁
  cases ha : tx.cps.all (· < 128)
  · refine wpAny_pyIter_wide ha ?_
    refine block_U (Walks.strWide hh s.heap.objs.size tx t) hsz (fun i h st => by obtain ⟨o, e, _⟩ := st; exact ⟨o, e⟩) (fun i h h' o nw st e e' _ _ _ => by obtain ⟨o', q, r⟩ := st; rw [e] at q; cases q; exact ⟨o, e', r⟩) hcell hkind hx ⟨_, Heap.get?_push_size _ rfl, rfl, rfl⟩ (fun b hb => ?_)
      (F.push _) (N.grown fun _ _ e => Heap.get?_push_of_some _ e) (Nat.ne_of_lt F.ns.lt) (next_is_new F) (fun p hp => Nat.ne_of_lt (Heap.lt_size (N p hp).1)) trivial (R _) ?_
    · rw [List.mem_singleton.mp hb]
      show s.heap.objs.size < (s.heap.push _).objs.size
      rw [Heap.size_push]; exact Nat.lt_succ_self _
    · intro D C h tk m' ys news' F' N' o1 hn hC₀ hD₀ hCL hDL hCD offC fin
      refine ⟨m', hn, fun h'' hs'' => fin D h'' tk (F'.change hs'' hCL hC₀) (fun p hp => ?_) o1⟩
      refine ⟨hs''.extBut _ _ ?_ (N' p hp).1, (N' p hp).2⟩
      rcases List.mem_cons.mp hp with rfl | hp
      · exact Ne.symm hCD
      · exact offC p hp
  · refine wpAny_pyIter_ascii ha ?_
    refine block_U (Walks.strAscii hh s.heap.objs.size tx t) hsz (fun i h st => by obtain ⟨o, e, _⟩ := st; exact ⟨o, e⟩) (fun i h h' o nw st e e' _ _ _ => by obtain ⟨o', q, r⟩ := st; rw [e] at q; cases q; exact ⟨o, e', r⟩) hcell hkind hx ⟨_, Heap.get?_push_size _ rfl, rfl, rfl⟩ (fun b hb => ?_)
      (F.push _) (N.grown fun _ _ e => Heap.get?_push_of_some _ e) (Nat.ne_of_lt F.ns.lt) (next_is_new F) (fun p hp => Nat.ne_of_lt (Heap.lt_size (N p hp).1)) trivial (R _) ?_
    · rw [List.mem_singleton.mp hb]
      show s.heap.objs.size < (s.heap.push _).objs.size
      rw [Heap.size_push]; exact Nat.lt_succ_self _
    · intro D C h tk m' ys news' F' N' o1 hn hC₀ hD₀ hCL hDL hCD offC fin
      refine ⟨m', hn, fun h'' hs'' => fin D h'' tk (F'.change hs'' hCL hC₀) (fun p hp => ?_) o1⟩
      refine ⟨hs''.extBut _ _ ?_ (N' p hp).1, (N' p hp).2⟩
      rcases List.mem_cons.mp hp with rfl | hp
      · exact Ne.symm hCD
      · exact offC p hp
theorem rest_indU {elt : Expr} {x : Str} {scope : Scope} {cl : List (Str × Addr)} {tx : Str} {news : List (Addr × Obj)} {Fin : List Value → List (Addr × Obj) → Prop} (f : Nat → Str)
    (step : ∀ (c : Nat) (u : Tok) (I : Addr) oI C oC D m₂ h tk (E' : Value → Shared → Prop) ys, c ∈ tx.cps.toList → NsObj oC m₂ → m₂ x = some (.str ⟨#[c]⟩ u) → Fr h₀ L h m → News h₀ L h ((I, oI) :: (C, oC) :: (D, lst ys) :: news) → Off3 I C D news →
      wpAny (model prog w) A (eval elt (compEnvC scope cl C env)) (fun y s'' => (∃ t, y = .str (f c) t) ∧ ∃ h' tk', s'' = { s with heap := h', toks := tk' } ∧ Fr h₀ L h' m ∧ News h₀ L h' ((I, oI) :: (C, oC) :: (D, lst ys) :: news)) E' { s with heap := h, toks := tk })
    (fin : ∀ ys, StrVals ys (tx.cps.toList.map f) → Fin ys news) :
    ∀ (k i : Nat) (ys : List Value), i + k = tx.cps.size → StrVals ys ((tx.cps.toList.take i).map f) →
      CompRest prog w A h₀ L m env elt x scope cl s (fun _ => True) (SignAt tx) Fin k i ys news := by
  intro k
  induction k with
  | zero =>
    intro i ys e hy
    refine fin ys ?_
    rwa [List.take_of_length_le (by rw [Array.length_toList]; omega)] at hy
  | succ k ih =>
    intro i ys e hy
    rintro v I oI C oC D m₂ h tk E' ⟨c, u, hc, rfl⟩ hN hm F N off ne
    have hc' : tx.cps.toList[i]? = some c := by rw [Array.getElem?_toList]; exact hc
    have htk : tx.cps.toList.take (i + 1) = tx.cps.toList.take i ++ [c] := by rw [List.take_add_one, hc']; rfl
    refine wpAny_mono (step c u I oI C oC D m₂ h tk E' ys (List.mem_of_getElem? hc') hN hm F N off) (fun y s'' hs'' => ?_) fun _ _ y => y
    obtain ⟨⟨t, rfl⟩, h', tk', rfl, F', N'⟩ := hs''
    refine ⟨h', tk', news, rfl, F', N', off, trivial, ih (i + 1) _ (by omega) ?_⟩
    rw [htk, List.map_append]
    exact hy.snoc
end
end Mine
end
section
open PySem PySem.W PySem.Calls PySem.Spec PyProof PyProof.Rows
namespace Mine
local macro_rules | `(tactic| walk_at "eval Name") => `(tactic| (k_here; k_dflt (refine' nameX_L ?F ?v ?_ ?a ?b; (case F => k_asm); (case a => rfl); (case b => rfl); (case v => ((repeat (refine Eq.trans (if_neg (by decide)) ?_)); first | (exact if_pos rfl) | assumption)); k_whole)))
section
open PySem PySem.W PySem.Calls PySem.Spec PyProof PyProof.Rows
noncomputable abbrev setM (m : Str → Option Value) (x : Str) (v : Value) : Str → Option Value := fun y => if y = x then some v else m y
/-- the body of the loop at the law's row i -/
noncomputable def partOf (i : Nat) : List Stmt := match ((bodyOf 15)[i]? : Option Stmt) with
  | some (.For _ _ b _ _) => b
  | some (.While _ b _ _) => b
  | _ => []
noncomputable def BodyWp (w : World) (L f : Nat) (cd : Value) (i k : Nat) (Q : Flow → Shared → Prop) (E : Value → Shared → Prop) (s : Shared) : Prop :=
  wpAny (model PySem.Challenge.rw_wa0035_01.row.prog w) (callerA.deeper (lawEnv L f cd)) (execs ((partOf i).drop k) (lawEnv L f cd)) Q E s
/-- a player: its name in the pool, the sign ahead, the form's distance, what stands behind -/
structure Pl where
  nm : List Nat
  sg : List Nat
  fm : Int
  bh : List Nat
noncomputable def POOL : List (List Nat) := [[97, 97], [97, 98], [97, 99], [98, 97], [98, 98], [98, 99], [99, 97], [99, 98]]
noncomputable def SIGNS : List (List Nat) := [[], [173], [8203], [65039]]
noncomputable def BEHIND : List (List Nat) := [[], [92, 40], [92, 41]]
noncomputable def FORMS : List Int := [65, 97, 119808, 120224]
noncomputable def Pl.raw (p : Pl) : List Nat := p.sg ++ p.nm.map (fun (c : Nat) => ((c : Int) + p.fm).toNat) ++ p.bh
noncomputable def Pl.plain (p : Pl) : List Nat := p.nm ++ p.bh
structure Pl.Ok (p : Pl) : Prop where
  nm : p.nm ∈ POOL
  sg : p.sg ∈ SIGNS
  fm : p.fm + 97 ∈ FORMS
  bh : p.bh ∈ BEHIND
theorem pool_vals (t : Tok) : StrVals (poolAt t) (POOL.map S') := by
  have h : ∀ (a : Str) (l : List Nat) (t : Tok), a = S' l → ∃ u, Value.str a t = .str (S' l) u := fun a l t e => ⟨t, by rw [e]⟩
  refine ⟨h _ _ _ ?_, h _ _ _ ?_, h _ _ _ ?_, h _ _ _ ?_, h _ _ _ ?_, h _ _ _ ?_, h _ _ _ ?_, h _ _ _ ?_, trivial⟩ <;> decide +kernel
theorem behind_vals (a b c : Tok) : StrVals [.str (Str.ofString "") a, .str (Str.ofString "\\(") b, .str (Str.ofString "\\)") c] (BEHIND.map S') := by
  have h : ∀ (a : Str) (l : List Nat) (t : Tok), a = S' l → ∃ u, Value.str a t = .str (S' l) u := fun a l t e => ⟨t, by rw [e]⟩
  refine ⟨h _ _ _ ?_, h _ _ _ ?_, h _ _ _ ?_, trivial⟩ <;> decide +kernel
theorem sign_vals (a b c d : Tok) : StrVals [.str (Str.ofString "") a, .str (Str.ofString "\u00ad") b, .str (Str.ofString "\u200b") c, .str (Str.ofString "\ufe0f") d] (SIGNS.map S') := by
  have h : ∀ (a : Str) (l : List Nat) (t : Tok), a = S' l → ∃ u, Value.str a t = .str (S' l) u := fun a l t e => ⟨t, by rw [e]⟩
  refine ⟨h _ _ _ ?_, h _ _ _ ?_, h _ _ _ ?_, h _ _ _ ?_, trivial⟩ <;> decide +kernel
theorem form_vals (a b c d : Tok) : IntVals [.int 65 a, .int 97 b, .int 119808 c, .int 120224 d] FORMS := by
  intro v hv
  simp only [List.mem_cons, List.not_mem_nil, or_false] at hv
  rcases hv with rfl | rfl | rfl | rfl <;> exact ⟨_, _, rfl, by decide⟩
theorem small_of {x : List Nat} {xs : List (List Nat)} (h : x ∈ xs) (hs : ∀ y ∈ xs, y.length ≤ 2 := by decide) : x.length ≤ 2 := hs x h
theorem row_vals (t : Tok) : IntVals (rowAt t) [306, 129, 89, 106, 274, 186] := by
  intro v hv
  simp only [rowAt, List.mem_cons, List.not_mem_nil, or_false] at hv
  rcases hv with rfl | rfl | rfl | rfl | rfl | rfl <;> exact ⟨_, _, rfl, by decide⟩
theorem fm_nn (v : Int) (n : Int) (h : 0 < n) : 0 ≤ v.fmod n := Int.fmod_nonneg_of_pos _ h
theorem fm_lt (v : Int) (n : Int) (h : 0 < n) : v.fmod n < n := Int.fmod_lt_of_pos _ h
local macro_rules | `(tactic| walk_at "execs cons") => `(tactic| (k_here; (with_reducible show wpAny _ _ (execs (Stmt.Assign [Expr.Name (Str.ofString "name") _] _ _ :: _) _) _ _ _); refine hold_intro ?_))
local macro_rules | `(tactic| walk_at "subscriptTail") => `(tactic| (k_here; (with_reducible show wpAny _ _ (subscriptTail _ _ (Value.ref _) (Value.int _ _)) _ _ _); (with_unfolding_all refine' pick_int ?l ?v ?a ?b ?c ?_ ?s); (case l => kmk_list); (case v => with_reducible exact row_vals _); (case a => omega); (case b => (show _ < (6 : Int)); omega); (case c => exact Nat.le_of_ble_eq_true rfl); (case s => with_unfolding_all rfl); intro x9 t9 m9))
theorem turn0 (w : World) (loose : List Str) (mean : ExcName → Option Value) (mg mb : Str → Option Value) (h₀ : Heap) (f : Nat) (cdv : Value) (s : Shared) (Q : Flow → Shared → Prop) (E : Value → Shared → Prop)
    (K0 : Below callerA h₀ [] h₀) (X : (KF w.params).In h₀) (T : Top viewQ loose mean mg mb h₀)
    (m : Str → Option Value) (rest : List (Addr × Obj)) (l row : Nat) (vs : List Value) (ns : List Int) (hl : h₀.IsList l vs.toArray) (hI : IntsAre vs ns) (hn : ns.length ≤ 63) (kk : Int) (tr tk : Tok) (hk0 : 0 ≤ kk) (hk1 : kk < 6)
    (m1 : m (Str.ofString "script") = some (.ref l)) (m2 : m (Str.ofString "row") = some (.ref row)) (m3 : m (Str.ofString "k") = some (.int kk tk))
    (F : Fr h₀ h₀.objs.size s.heap m) (N : News h₀ h₀.objs.size s.heap ((row, listOf (rowAt tr).toArray 0) :: rest))
    (next : ∀ (v : Int) (tv : Tok) (h' : Heap) (tk' : Nat), 0 ≤ v → v < 1000000 → Fr h₀ h₀.objs.size h' (setM m (Str.ofString "v") (.int v tv)) → News h₀ h₀.objs.size h' ((row, listOf (rowAt tr).toArray 0) :: rest) →
      BodyWp w h₀.objs.size f cdv 5 1 Q E { s with heap := h', toks := tk' }) :
    BodyWp w h₀.objs.size f cdv 5 0 Q E s := by
  unfold BodyWp lawEnv at *
  revert K0 X
  k_fill
  intro K0 X
  have he := law_eqs (P := w.params) (by k_is)
  obtain ⟨e1, e2, e3⟩ := he
  unfold partOf at *
  simp only [e1, e2, e3] at next ⊢
  clear e1 e2 e3
  dsimp only [List.drop_succ_cons, List.drop_zero, List.getElem?_cons_succ, List.getElem?_cons_zero] at next ⊢
  k_steps
  unfold Hold
  refine' next _ _ _ _ ?a ?b ?F ?N
  case F => assumption
  case N => (rename News _ _ _ _ => N9); exact fun p hp => N9 p (by repeat (first | exact hp | refine List.Mem.tail _ ?_))
  case a => first | exact fm_nn _ _ (by decide) | omega
  case b => first | exact fm_lt _ 1000000 (by decide) | omega
end
section
open PySem PySem.W PySem.Calls PySem.Spec PyProof PyProof.Rows
local macro_rules | `(tactic| walk_at "execs cons") => `(tactic| (k_here; (with_reducible show wpAny _ _ (execs (Stmt.Assign [Expr.Name (Str.ofString "behind") _] _ _ :: _) _) _ _ _); refine hold_intro ?_))
local macro_rules | `(tactic| walk_at "call builtin:len") => `(tactic| (k_here; (with_reducible show wpAny _ _ (call (Value.builtin "len") [Value.ref _]) _ _ _); (refine' len_V ?l ?z ?_; (case l => kmk_list); (case z => omega))))
local macro_rules | `(tactic| k_all) => `(tactic| assumption)
local macro_rules | `(tactic| walk_at "call builtin:list.pop") => `(tactic| (k_here; (with_reducible show wpAny _ _ (call (Value.builtin _) [Value.ref _, Value.int _ _]) _ _ _); k_dflt (refine' pop_V ?F ?N ?U ?v ?a ?b ?c ?_; (case F => k_asm); (case N => k_asm); (case U => (intro o; k_upd)); (case v => assumption); (case a => exact fm_nn _ _ (by omega)); (case b => exact fm_lt _ _ (by omega)); (case c => omega)); intro vs9 rest9 nm9 t9 h' v9 p9 l9 F' N'; (try dsimp only [List.nil_append, List.cons_append] at N')))
theorem turn1 (w : World) (loose : List Str) (mean : ExcName → Option Value) (mg mb : Str → Option Value) (h₀ : Heap) (f : Nat) (cdv : Value) (s : Shared) (Q : Flow → Shared → Prop) (E : Value → Shared → Prop)
    (K0 : Below callerA h₀ [] h₀) (X : (KF w.params).In h₀) (T : Top viewQ loose mean mg mb h₀) (m : Str → Option Value) (rest : List (Addr × Obj))
    (pool e0 : Nat) (v : Int) (tv : Tok) (v0 : List Value) (left : List (List Nat)) (hv : StrVals v0 (left.map S')) (hl0 : 1 ≤ v0.length) (hl1 : v0.length ≤ 8) (hv0 : 0 ≤ v)
    (m1 : m (Str.ofString "pool") = some (.ref pool)) (m2 : m (Str.ofString "v") = some (.int v tv))
    (F : Fr h₀ h₀.objs.size s.heap m) (N : News h₀ h₀.objs.size s.heap ((pool, listOf v0.toArray e0) :: rest)) (hr : ∀ p ∈ rest, p.1 ≠ pool)
    (next : ∀ (v0' : List Value) (left' : List (List Nat)) (nm : List Nat) (t : Tok) (h' : Heap) (tk' : Nat), StrVals v0' (left'.map S') → (nm :: left').Perm left → v0'.length + 1 = v0.length → Fr h₀ h₀.objs.size h' (setM m (Str.ofString "name") (.str (S' nm) t)) → News h₀ h₀.objs.size h' ((pool, listOf v0'.toArray (e0 + 1)) :: rest) →
      BodyWp w h₀.objs.size f cdv 5 2 Q E { s with heap := h', toks := tk' }) :
    BodyWp w h₀.objs.size f cdv 5 1 Q E s := by
  unfold BodyWp lawEnv at *
  revert K0 X
  k_fill
  intro K0 X
  have he := law_eqs (P := w.params) (by k_is)
  obtain ⟨e1, e2, e3⟩ := he
  unfold partOf at *
  simp only [e1, e2, e3] at next ⊢
  clear e1 e2 e3
  dsimp only [List.drop_succ_cons, List.drop_zero, List.getElem?_cons_succ, List.getElem?_cons_zero] at next ⊢
  k_steps
  unfold Hold
  refine' next _ _ _ _ _ _ ?a ?b ?c ?F ?N
  case F => assumption
  case N => (rename News _ _ _ _ => N9); exact fun p hp => N9 p (by repeat (first | exact hp | refine List.Mem.tail _ ?_))
  case a => assumption
  case b => assumption
  case c => assumption
end
section
open PySem PySem.W PySem.Calls PySem.Spec PyProof PyProof.Rows
local macro_rules | `(tactic| walk_at "idle 0") => `(tactic| fail)
local macro_rules | `(tactic| walk_at "idle 1") => `(tactic| fail)
local macro_rules | `(tactic| walk_at "execs cons") => `(tactic| (k_here; (with_reducible show wpAny _ _ (execs (Stmt.Assign [Expr.Name (Str.ofString "form") _] _ _ :: _) _) _ _ _); refine hold_intro ?_))
local macro_rules | `(tactic| walk_at "subscriptTail") => `(tactic| (k_here; (with_reducible show wpAny _ _ (subscriptTail _ _ (Value.ref _) (Value.int _ _)) _ _ _); (with_unfolding_all refine' pick_str ?l ?v ?a ?b ?c ?_ ?s); (case l => kmk_list); (case v => first | ((with_reducible show StrVals [_, _, _] _); with_reducible exact behind_vals _ _ _) | ((with_reducible show StrVals [_, _, _, _] _); with_reducible exact sign_vals _ _ _ _)); (case a => exact fm_nn _ _ (by decide)); (case b => first | exact fm_lt _ 3 (by decide) | exact fm_lt _ 4 (by decide)); (case c => exact Nat.le_of_ble_eq_true rfl); (case s => with_unfolding_all rfl); intro x9 t9 m9; (have b9 := small_of m9)))
theorem turn2 (w : World) (loose : List Str) (mean : ExcName → Option Value) (mg mb : Str → Option Value) (h₀ : Heap) (f : Nat) (cdv : Value) (s : Shared) (Q : Flow → Shared → Prop) (E : Value → Shared → Prop)
    (K0 : Below callerA h₀ [] h₀) (X : (KF w.params).In h₀) (T : Top viewQ loose mean mg mb h₀) (m : Str → Option Value) (rest : List (Addr × Obj))
    (v : Int) (tv : Tok) (hv0 : 0 ≤ v)
    (m2 : m (Str.ofString "v") = some (.int v tv))
    (F : Fr h₀ h₀.objs.size s.heap m) (N : News h₀ h₀.objs.size s.heap rest)
    (next : ∀ (bh : List Nat) (t : Tok) (h' : Heap) (tk' : Nat), bh ∈ BEHIND → Fr h₀ h₀.objs.size h' (setM m (Str.ofString "behind") (.str (S' bh) t)) → News h₀ h₀.objs.size h' rest →
      BodyWp w h₀.objs.size f cdv 5 3 Q E { s with heap := h', toks := tk' }) :
    BodyWp w h₀.objs.size f cdv 5 2 Q E s := by
  unfold BodyWp lawEnv at *
  revert K0 X
  k_fill
  intro K0 X
  have he := law_eqs (P := w.params) (by k_is)
  obtain ⟨e1, e2, e3⟩ := he
  unfold partOf at *
  simp only [e1, e2, e3] at next ⊢
  clear e1 e2 e3
  dsimp only [List.drop_succ_cons, List.drop_zero, List.getElem?_cons_succ, List.getElem?_cons_zero] at next ⊢
  k_steps
  unfold Hold
  refine' next _ _ _ _ ?a ?F ?N
  case F => assumption
  case N => (rename News _ _ _ _ => N9); (try simp only [List.push_toArray] at N9); exact fun p hp => N9 p (by repeat (first | exact hp | refine List.Mem.tail _ ?_))
  case a => assumption
end
section
open PySem PySem.W PySem.Calls PySem.Spec PyProof PyProof.Rows
theorem menu_in (i : Int) (h0 : 0 ≤ i) (h4 : i < 4) : ([65, 97, 119808, 120224] : List Int).getD i.toNat 0 - 97 + 97 ∈ FORMS := by
  have h : i = 0 ∨ i = 1 ∨ i = 2 ∨ i = 3 := by omega
  rcases h with rfl | rfl | rfl | rfl <;> decide
local macro_rules | `(tactic| walk_at "execs cons") => `(tactic| (k_here; (with_reducible show wpAny _ _ (execs (Stmt.Expr _ _ :: _) _) _ _ _); refine hold_intro ?_))
local macro_rules | `(tactic| walk_at "subscriptTail") => `(tactic| (k_here; (with_reducible show wpAny _ _ (subscriptTail _ _ (Value.ref _) (Value.int _ _)) _ _ _); (with_unfolding_all refine' pick_int ?l ?v ?a ?b ?c ?_ ?s); (case l => kmk_list); (case v => with_reducible exact form_vals _ _ _ _); (case a => exact fm_nn _ _ (by decide)); (case b => exact fm_lt _ 4 (by decide)); (case c => exact Nat.le_of_ble_eq_true rfl); (case s => with_unfolding_all rfl); intro x9 t9 m9))
local macro_rules | `(tactic| k_all) => `(tactic| assumption)
theorem turn3 (w : World) (loose : List Str) (mean : ExcName → Option Value) (mg mb : Str → Option Value) (h₀ : Heap) (f : Nat) (cdv : Value) (s : Shared) (Q : Flow → Shared → Prop) (E : Value → Shared → Prop)
    (K0 : Below callerA h₀ [] h₀) (X : (KF w.params).In h₀) (T : Top viewQ loose mean mg mb h₀) (m : Str → Option Value) (rest : List (Addr × Obj))
    (v : Int) (tv : Tok) (hv0 : 0 ≤ v) (oF : Obj) (cv : Option Value) (d1 : oF.data = .cell cv)
    (m2 : m (Str.ofString "v") = some (.int v tv))
    (F : Fr h₀ h₀.objs.size s.heap m) (N : News h₀ h₀.objs.size s.heap ((h₀.objs.size + 1, oF) :: rest)) (hr : ∀ p ∈ rest, p.1 ≠ h₀.objs.size + 1)
    (next : ∀ (fm : Int) (t : Tok) (oF' : Obj) (h' : Heap) (tk' : Nat), fm + 97 ∈ FORMS → oF'.data = .cell (some (.int fm t)) → Fr h₀ h₀.objs.size h' m → News h₀ h₀.objs.size h' ((h₀.objs.size + 1, oF') :: rest) →
      BodyWp w h₀.objs.size f cdv 5 4 Q E { s with heap := h', toks := tk' }) :
    BodyWp w h₀.objs.size f cdv 5 3 Q E s := by
  unfold BodyWp lawEnv at *
  revert K0 X
  k_fill
  intro K0 X
  have he := law_eqs (P := w.params) (by k_is)
  obtain ⟨e1, e2, e3⟩ := he
  unfold partOf at *
  simp only [e1, e2, e3] at next ⊢
  clear e1 e2 e3
  dsimp only [List.drop_succ_cons, List.drop_zero, List.getElem?_cons_succ, List.getElem?_cons_zero] at next ⊢
  k_steps
  unfold Hold
  refine' next _ _ _ _ _ ?a ?b ?F ?N
  case F => assumption
  case N => (rename News _ _ _ _ => N9); (try simp only [List.push_toArray] at N9); exact fun p hp => N9 p (by repeat (first | exact hp | refine List.Mem.tail _ ?_))
  case b => assumption
  case a => exact menu_in _ (fm_nn _ _ (by decide)) (fm_lt _ 4 (by decide))
end
section
open PySem PySem.W PySem.Calls PySem.Spec PyProof PyProof.Rows
local macro_rules | `(tactic| walk_at "execs cons") => `(tactic| (k_here; (with_reducible show wpAny _ _ (execs (Stmt.Expr _ _ :: []) _) _ _ _); refine hold_intro ?_))
theorem off1_mem {D : Addr} : ∀ {l : List (Addr × Obj)}, LCg.Off1 D l → ∀ {p : Addr × Obj}, p ∈ l → @Ne Nat p.1 D := by
  intro l
  induction l with
  | nil => intro _ p hp; cases hp
  | cons x r ih =>
    intro h p hp
    rcases List.mem_cons.mp hp with rfl | hp
    · exact h.1
    · exact ih h.2 hp
theorem chr_low {nm : List Nat} {c : Nat} {fm : Int} (h : nm ∈ POOL) (hc : c ∈ nm) (hf : fm + 97 ∈ FORMS) : 0 ≤ (c : Int) + fm ∧ (c : Int) + fm ≤ 1114111 := by
  have h1 : ∀ x ∈ POOL, ∀ d ∈ x, 97 ≤ d ∧ d ≤ 99 := by decide
  have h2 := h1 nm h c hc
  simp only [FORMS, List.mem_cons, List.not_mem_nil, or_false] at hf
  omega
local macro_rules | `(tactic| walk_at "call builtin:str.join") => `(tactic| (k_here; (with_reducible show wpAny _ _ (call (Value.builtin "str.join") [Value.str _ _, Value.ref _]) _ _ _); k_dflt (refine' join_S ?k1 ?k2 (by assumption) ?k4 ?_; (case k1 => k_asm); (case k2 => k_mem); (case k4 => assumption)); intro _ _))
local macro_rules | `(tactic| walk_at "binaryOp Add str str") => `(tactic| (k_here; (with_reducible show wpAny _ _ (binaryOp Operator.Add (Value.str _ _) (Value.str _ _)) _ _ _); (refine' cat_S ?e1 ?e2 ?sz ?_; (case e1 => rfl); (case e2 => rfl); (case sz => ((try simp only [List.length_append, List.length_cons, List.length_nil, List.length_map]); omega))); intro _ _))
local macro_rules | `(tactic| walk_at "subscriptTail") => `(tactic| (k_here; (with_reducible show wpAny _ _ (subscriptTail _ _ (Value.ref _) (Value.int _ _)) _ _ _); (with_unfolding_all refine' pick_str ?l ?v ?a ?b ?c ?_ ?s); (case l => kmk_list); (case v => first | ((with_reducible show StrVals [_, _, _] _); with_reducible exact behind_vals _ _ _) | ((with_reducible show StrVals [_, _, _, _] _); with_reducible exact sign_vals _ _ _ _)); (case a => exact fm_nn _ _ (by decide)); (case b => first | exact fm_lt _ 3 (by decide) | exact fm_lt _ 4 (by decide)); (case c => exact Nat.le_of_ble_eq_true rfl); (case s => with_unfolding_all rfl); intro x9 t9 m9; (have b9 := small_of m9)))
local macro_rules | `(tactic| walk_at "eval ListComp") => `(tactic| (k_here; (with_reducible show wpAny _ _ (eval (PySem.Expr.ListComp _ _ _ _) _) _ _ _); refine hold_intro ?_))
local macro_rules | `(tactic| k_all) => `(tactic| assumption)
theorem turn4 (w : World) (loose : List Str) (mean : ExcName → Option Value) (mg mb : Str → Option Value) (h₀ : Heap) (f : Nat) (cdv : Value) (s : Shared) (Q : Flow → Shared → Prop) (E : Value → Shared → Prop)
    (K0 : Below callerA h₀ [] h₀) (X : (KF w.params).In h₀) (T : Top viewQ loose mean mg mb h₀) (m : Str → Option Value) (rest : List (Addr × Obj))
    (names e1 : Nat) (v fm : Int) (nm bh : List Nat) (tv t1 t2 tf : Tok) (v1 : List Value) (xs : List (List Nat)) (hv : StrVals v1 (xs.map S')) (hl : v1.length < 100) (hnm : nm ∈ POOL) (hbh : bh ∈ BEHIND) (hfm : fm + 97 ∈ FORMS) (hv0 : 0 ≤ v)
    (oF : Obj) (d1 : oF.data = .cell (some (.int fm tf)))
    (m1 : m (Str.ofString "names") = some (.ref names)) (m2 : m (Str.ofString "name") = some (.str (S' nm) t1)) (m3 : m (Str.ofString "behind") = some (.str (S' bh) t2)) (m4 : m (Str.ofString "v") = some (.int v tv))
    (F : Fr h₀ h₀.objs.size s.heap m) (N : News h₀ h₀.objs.size s.heap ((names, listOf v1.toArray e1) :: (h₀.objs.size + 1, oF) :: rest)) (hr : ∀ p ∈ rest, p.1 ≠ names) (hne : h₀.objs.size + 1 < names)
    (next : ∀ (sg : List Nat) (t : Tok) (h' : Heap) (tk' : Nat), sg ∈ SIGNS → Fr h₀ h₀.objs.size h' m → News h₀ h₀.objs.size h' ((names, listOf (v1 ++ [Value.str (S' (Pl.raw ⟨nm, sg, fm, bh⟩)) t]).toArray (e1 + 1)) :: (h₀.objs.size + 1, oF) :: rest) →
      BodyWp w h₀.objs.size f cdv 5 5 Q E { s with heap := h', toks := tk' }) :
    BodyWp w h₀.objs.size f cdv 5 4 Q E s := by
  have hnm2 : nm.length ≤ 2 := small_of hnm
  have hbh2 : bh.length ≤ 2 := small_of hbh
  unfold BodyWp lawEnv at *
  revert K0 X
  k_fill
  intro K0 X
  have he := law_eqs (P := w.params) (by k_is)
  obtain ⟨e1, e2, e3⟩ := he
  unfold partOf at *
  simp only [e1, e2, e3] at next ⊢
  clear e1 e2 e3
  dsimp only [List.drop_succ_cons, List.drop_zero, List.getElem?_cons_succ, List.getElem?_cons_zero] at next ⊢
  k_steps
  unfold Hold
  with_unfolding_all refine listcomp_strU (cl := [(Str.ofString "form", h₀.objs.size + 1)]) (by k_asm) (by with_unfolding_all rfl) (by decide) (by rfl) (by decide) (by rfl) ?hsrc
  case hsrc =>
    walk1
    refine ⟨_, _, _, rfl, by k_asm, by k_asm, by rfl, ?hsz, fun g9 => ?R⟩
    case hsz => (show nm.toArray.size ≤ sizeLine); rw [List.size_toArray, PySem.sizeLine_eq]; omega
    case R =>
      refine rest_indU (fun c => ⟨#[((c : Int) + fm).toNat]⟩) ?step ?fin _ 0 [] (Nat.zero_add _) trivial
      case step =>
        intro c u9 I oI C oC D m₂ h9 tk9 E' ys hc hNs hmx F7 N7 off7
        replace hc : c ∈ nm := by simpa [S'] using hc
        have hcb := chr_low hnm hc hfm
        have hcb1 := hcb.1
        have hcb2 := hcb.2
        k_steps
        all_goals k_asm
      case fin =>
        intro ys hys D h tk F7 N7 off
        have hys' : StrVals ys ((nm.map fun (c : Nat) => ((c : Int) + fm).toNat).map fun c => (⟨#[c]⟩ : Str)) := by simpa [S', Function.comp_def] using hys
        have hlen : (nm.map fun (c : Nat) => ((c : Int) + fm).toNat).length ≤ 1000 := by
          rw [List.length_map]
          omega
        clear hys
        have hDn : @Ne Nat D names := Ne.symm (off1_mem (p := (names, listOf v1.toArray e1)) off (by k_mem))
        k_steps
        unfold Hold
        refine' next _ _ _ _ ?a ?F ?N
        case F => assumption
        case N => (rename News _ _ _ _ => N9); (try simp only [List.push_toArray] at N9); exact fun p hp => N9 p (by repeat (first | exact hp | refine List.Mem.tail _ ?_))
        case a => assumption
end
section
open PySem PySem.W PySem.Calls PySem.Spec PyProof PyProof.Rows
local macro_rules | `(tactic| walk_at "binaryOp Add str str") => `(tactic| (k_here; (with_reducible show wpAny _ _ (binaryOp Operator.Add (Value.str _ _) (Value.str _ _)) _ _ _); (refine' cat_S ?e1 ?e2 ?sz ?_; (case e1 => rfl); (case e2 => rfl); (case sz => ((try simp only [List.length_append, List.length_cons, List.length_nil, List.length_map]); omega))); intro _ _))
local macro_rules | `(tactic| k_all) => `(tactic| assumption)
theorem turn5 (w : World) (loose : List Str) (mean : ExcName → Option Value) (mg mb : Str → Option Value) (h₀ : Heap) (f : Nat) (cdv : Value) (s : Shared) (Q : Flow → Shared → Prop) (E : Value → Shared → Prop)
    (K0 : Below callerA h₀ [] h₀) (X : (KF w.params).In h₀) (T : Top viewQ loose mean mg mb h₀) (m : Str → Option Value) (rest : List (Addr × Obj))
    (plain e2 : Nat) (nm bh : List Nat) (t1 t2 : Tok) (v2 : List Value) (xs : List (List Nat)) (hv : StrVals v2 (xs.map S')) (hl : v2.length < 100) (hnm : nm.length ≤ 2) (hbh : bh.length ≤ 2)
    (m1 : m (Str.ofString "plain") = some (.ref plain)) (m2 : m (Str.ofString "name") = some (.str (S' nm) t1)) (m3 : m (Str.ofString "behind") = some (.str (S' bh) t2))
    (F : Fr h₀ h₀.objs.size s.heap m) (N : News h₀ h₀.objs.size s.heap ((plain, listOf v2.toArray e2) :: rest)) (hr : ∀ p ∈ rest, p.1 ≠ plain)
    (next : ∀ (t : Tok) (h' : Heap) (tk' : Nat), Fr h₀ h₀.objs.size h' m → News h₀ h₀.objs.size h' ((plain, listOf (v2 ++ [Value.str (S' (nm ++ bh)) t]).toArray (e2 + 1)) :: rest) →
      Q .next { s with heap := h', toks := tk' }) :
    BodyWp w h₀.objs.size f cdv 5 5 Q E s := by
  unfold BodyWp lawEnv at *
  revert K0 X
  k_fill
  intro K0 X
  have he := law_eqs (P := w.params) (by k_is)
  obtain ⟨e1, e2, e3⟩ := he
  unfold partOf at *
  simp only [e1, e2, e3] at next ⊢
  clear e1 e2 e3
  dsimp only [List.drop_succ_cons, List.drop_zero, List.getElem?_cons_succ, List.getElem?_cons_zero] at next ⊢
  k_steps
  refine' next _ _ _ ?F ?N
  case F => assumption
  case N => (rename News _ _ _ _ => N9); (try simp only [List.push_toArray] at N9); exact fun p hp => N9 p (by repeat (first | exact hp | refine List.Mem.tail _ ?_))
end
section
open PySem PySem.W PySem.Calls PySem.Spec PyProof PyProof.Rows
theorem news_sub {h₀ h : Heap} {L : Addr} {n1 n2 : List (Addr × Obj)} (N : News h₀ L h n1) (hs : ∀ p ∈ n2, p ∈ n1) : News h₀ L h n2 := fun p hp => N p (hs p hp)
theorem mem_swap {α : Type} {a : α} {x y : List α} {p : α} (h : p ∈ a :: (x ++ y)) : p ∈ x ++ a :: y := by
  simp only [List.mem_cons, List.mem_append] at h ⊢
  rcases h with h | h | h <;> simp [h]
theorem mem_swap2 {α : Type} {a : α} {x y : List α} {p : α} (h : p ∈ x ++ a :: y) : p ∈ a :: (x ++ y) := by
  simp only [List.mem_cons, List.mem_append] at h ⊢
  rcases h with h | h | h <;> simp [h]
theorem setM_same (m : Str → Option Value) (x : Str) (v : Value) : setM m x v x = some v := if_pos rfl
theorem setM_ne (m : Str → Option Value) {x y : Str} (v : Value) (h : y ≠ x) : setM m x v y = m y := if_neg h
/-- one turn of the loop -/
theorem turn (w : World) (loose : List Str) (mean : ExcName → Option Value) (mg mb : Str → Option Value) (h₀ : Heap) (f : Nat) (cdv : Value) (s : Shared) (Q : Flow → Shared → Prop) (E : Value → Shared → Prop)
    (K0 : Below callerA h₀ [] h₀) (X : (KF w.params).In h₀) (T : Top viewQ loose mean mg mb h₀) (m : Str → Option Value) (rest : List (Addr × Obj))
    (l row pool names plain e0 e1 e2 : Nat) (vs : List Value) (ns : List Int) (hl : h₀.IsList l vs.toArray) (hI : IntsAre vs ns) (hn : ns.length ≤ 63) (kk : Int) (tr tk : Tok) (hk0 : 0 ≤ kk) (hk1 : kk < 6)
    (v0 v1 v2 : List Value) (left x1 x2 : List (List Nat)) (hv0 : StrVals v0 (left.map S')) (hv1 : StrVals v1 (x1.map S')) (hv2 : StrVals v2 (x2.map S')) (hl0 : 1 ≤ v0.length) (hl1 : v0.length ≤ 8) (hl3 : v1.length < 100) (hl4 : v2.length < 100)
    (hpool : ∀ x ∈ left, x ∈ POOL) (oF : Obj) (cv : Option Value) (d1 : oF.data = .cell cv)
    (m1 : m (Str.ofString "script") = some (.ref l)) (m2 : m (Str.ofString "row") = some (.ref row)) (m3 : m (Str.ofString "k") = some (.int kk tk)) (m4 : m (Str.ofString "pool") = some (.ref pool)) (m5 : m (Str.ofString "names") = some (.ref names)) (m6 : m (Str.ofString "plain") = some (.ref plain))
    (F : Fr h₀ h₀.objs.size s.heap m)
    (N : News h₀ h₀.objs.size s.heap ((plain, listOf v2.toArray e2) :: (names, listOf v1.toArray e1) :: (pool, listOf v0.toArray e0) :: (row, listOf (rowAt tr).toArray 0) :: (h₀.objs.size + 1, oF) :: rest))
    (o1 : h₀.objs.size + 1 < row) (o2 : row < pool) (o3 : pool < names) (o4 : names < plain) (r1 : ∀ p ∈ rest, p.1 ≠ plain) (r2 : ∀ p ∈ rest, p.1 ≠ names) (r3 : ∀ p ∈ rest, p.1 ≠ pool) (r4 : ∀ p ∈ rest, p.1 ≠ h₀.objs.size + 1)
    (next : ∀ (m' : Str → Option Value) (p : Pl) (left' : List (List Nat)) (v0' : List Value) (t1 t2 : Tok) (oF' : Obj) (cv' : Option Value) (h' : Heap) (tk' : Nat), p.Ok → (p.nm :: left').Perm left → StrVals v0' (left'.map S') → v0'.length + 1 = v0.length → oF'.data = .cell cv' →
      (∀ y, y ≠ Str.ofString "v" → y ≠ Str.ofString "name" → y ≠ Str.ofString "behind" → m' y = m y) → Fr h₀ h₀.objs.size h' m' →
      News h₀ h₀.objs.size h' ((plain, listOf (v2 ++ [Value.str (S' p.plain) t2]).toArray (e2 + 1)) :: (names, listOf (v1 ++ [Value.str (S' p.raw) t1]).toArray (e1 + 1)) :: (pool, listOf v0'.toArray (e0 + 1)) :: (row, listOf (rowAt tr).toArray 0) :: (h₀.objs.size + 1, oF') :: rest) →
      Q .next { s with heap := h', toks := tk' }) :
    BodyWp w h₀.objs.size f cdv 5 0 Q E s := by
  have dsj : ∀ {a : Nat} {b : Obj} {q : Addr × Obj}, (a, b) = q → q.1 = a := fun h => by rw [← h]
  refine turn0 w loose mean mg mb h₀ f cdv s Q E K0 X T m ((plain, listOf v2.toArray e2) :: (names, listOf v1.toArray e1) :: (pool, listOf v0.toArray e0) :: (h₀.objs.size + 1, oF) :: rest) l row vs ns hl hI hn kk tr tk hk0 hk1 m1 m2 m3 F (news_sub N fun p hp => mem_swap (x := [_, _, _]) hp) ?_
  intro v tv hA tkA va vb FA NA
  refine turn1 w loose mean mg mb h₀ f cdv _ Q E K0 X T _ ((plain, listOf v2.toArray e2) :: (names, listOf v1.toArray e1) :: (row, listOf (rowAt tr).toArray 0) :: (h₀.objs.size + 1, oF) :: rest) pool e0 v tv v0 left hv0 hl0 hl1 va ((setM_ne _ _ (by decide)).trans m4) (setM_same _ _ _) FA
    (news_sub NA fun p hp => mem_swap2 (x := [_, _, _]) (by
      repeat (rcases List.mem_cons.mp hp with rfl | hp; · (repeat (first | exact List.Mem.head _ | refine List.Mem.tail _ ?_)))
      repeat (first | exact hp | refine List.Mem.tail _ ?_))) ?_ ?_
  · intro p hp
    simp only [List.mem_cons] at hp
    rcases hp with rfl | rfl | rfl | rfl | hp
    · show plain ≠ pool; omega
    · show names ≠ pool; omega
    · show row ≠ pool; omega
    · show h₀.objs.size + 1 ≠ pool; omega
    · exact r3 p hp
  intro v0' left' nm t hB tkB hv0' hperm hlen FB NB
  have hnm : nm ∈ POOL := hpool nm (hperm.mem_iff.mp (.head _))
  have hnm2 : nm.length ≤ 2 := small_of hnm
  refine turn2 w loose mean mg mb h₀ f cdv _ Q E K0 X T _ _ v tv va ((setM_ne _ _ (by decide)).trans (setM_same _ _ _)) FB NB ?_
  intro bh tb hC tkC hbh FC NC
  have hbh2 : bh.length ≤ 2 := small_of hbh
  refine turn3 w loose mean mg mb h₀ f cdv _ Q E K0 X T _ ((pool, listOf v0'.toArray (e0 + 1)) :: (plain, listOf v2.toArray e2) :: (names, listOf v1.toArray e1) :: (row, listOf (rowAt tr).toArray 0) :: rest) v tv va oF cv d1 ((setM_ne _ _ (by decide)).trans ((setM_ne _ _ (by decide)).trans (setM_same _ _ _))) FC
    (news_sub NC fun p hp => by
      repeat (rcases List.mem_cons.mp hp with rfl | hp; · (repeat (first | exact List.Mem.head _ | refine List.Mem.tail _ ?_)))
      repeat (first | exact hp | refine List.Mem.tail _ ?_)) ?_ ?_
  · intro p hp
    simp only [List.mem_cons] at hp
    rcases hp with rfl | rfl | rfl | rfl | hp
    · show pool ≠ h₀.objs.size + 1; omega
    · show plain ≠ h₀.objs.size + 1; omega
    · show names ≠ h₀.objs.size + 1; omega
    · show row ≠ h₀.objs.size + 1; omega
    · exact r4 p hp
  intro fm tf oF' hD tkD hfm hcell FD ND
  refine turn4 w loose mean mg mb h₀ f cdv _ Q E K0 X T _ ((pool, listOf v0'.toArray (e0 + 1)) :: (plain, listOf v2.toArray e2) :: (row, listOf (rowAt tr).toArray 0) :: rest) names e1 v fm nm bh tv t tb tf v1 x1 hv1 hl3 hnm hbh hfm va oF' hcell
    ((setM_ne _ _ (by decide)).trans ((setM_ne _ _ (by decide)).trans ((setM_ne _ _ (by decide)).trans m5))) ((setM_ne _ _ (by decide)).trans (setM_same _ _ _)) (setM_same _ _ _) ((setM_ne _ _ (by decide)).trans ((setM_ne _ _ (by decide)).trans (setM_same _ _ _))) FD
    (news_sub ND fun p hp => by
      repeat (rcases List.mem_cons.mp hp with rfl | hp; · (repeat (first | exact List.Mem.head _ | refine List.Mem.tail _ ?_)))
      repeat (first | exact hp | refine List.Mem.tail _ ?_)) ?_ (by omega) ?_
  · intro p hp
    simp only [List.mem_cons] at hp
    rcases hp with rfl | rfl | rfl | hp
    · show pool ≠ names; omega
    · show plain ≠ names; omega
    · show row ≠ names; omega
    · exact r2 p hp
  intro sg ts hE tkE hsg FE NE
  refine turn5 w loose mean mg mb h₀ f cdv _ Q E K0 X T _ ((names, listOf (v1 ++ [Value.str (S' (Pl.raw ⟨nm, sg, fm, bh⟩)) ts]).toArray (e1 + 1)) :: (h₀.objs.size + 1, oF') :: (pool, listOf v0'.toArray (e0 + 1)) :: (row, listOf (rowAt tr).toArray 0) :: rest) plain e2 nm bh t tb v2 x2 hv2 hl4 hnm2 hbh2
    ((setM_ne _ _ (by decide)).trans ((setM_ne _ _ (by decide)).trans ((setM_ne _ _ (by decide)).trans m6))) ((setM_ne _ _ (by decide)).trans (setM_same _ _ _)) (setM_same _ _ _) FE
    (news_sub NE fun p hp => by
      repeat (rcases List.mem_cons.mp hp with rfl | hp; · (repeat (first | exact List.Mem.head _ | refine List.Mem.tail _ ?_)))
      repeat (first | exact hp | refine List.Mem.tail _ ?_)) ?_ ?_
  · intro p hp
    simp only [List.mem_cons] at hp
    rcases hp with rfl | rfl | rfl | rfl | hp
    · show names ≠ plain; omega
    · show h₀.objs.size + 1 ≠ plain; omega
    · show pool ≠ plain; omega
    · show row ≠ plain; omega
    · exact r1 p hp
  intro tp hG tkG FG NG
  exact next _ ⟨nm, sg, fm, bh⟩ left' v0' ts tp oF' _ hG tkG ⟨hnm, hsg, hfm, hbh⟩ hperm hv0' hlen hcell
    (fun y y1 y2 y3 => (setM_ne _ _ y3).trans ((setM_ne _ _ y2).trans (setM_ne _ _ y1))) FG
    (news_sub (n1 := (plain, listOf (v2 ++ [Value.str (S' (Pl.plain ⟨nm, sg, fm, bh⟩)) tp]).toArray (e2 + 1)) :: (names, listOf (v1 ++ [Value.str (S' (Pl.raw ⟨nm, sg, fm, bh⟩)) ts]).toArray (e1 + 1)) :: (h₀.objs.size + 1, oF') :: (pool, listOf v0'.toArray (e0 + 1)) :: (row, listOf (rowAt tr).toArray 0) :: rest) NG fun p hp => by
      repeat (rcases List.mem_cons.mp hp with rfl | hp; · (repeat (first | exact List.Mem.head _ | refine List.Mem.tail _ ?_)))
      repeat (first | exact hp | refine List.Mem.tail _ ?_))
end
section
open PySem PySem.W PySem.Calls PySem.Spec PyProof PyProof.Rows
local macro_rules | `(tactic| walk_at "pyIter ref") => `(tactic| (k_here; refine hold_intro ?_))
local macro_rules | `(tactic| walk_at "call type:range") => `(tactic| (k_here; (rename Fr _ _ _ _ => F'); (rename News _ _ _ _ => N'); (with_unfolding_all refine range1_rows F' N' ?_); intro _ _ _ _ _ r9 F' N' _))

/-- names that the loop turns -/
noncomputable def Keeps (m m' : Str → Option Value) : Prop := ∀ y, y ≠ Str.ofString "k" → y ≠ Str.ofString "v" → y ≠ Str.ofString "name" → y ≠ Str.ofString "behind" → m' y = m y
theorem StrVals.snoc1 {vs : List Value} {xs : List (List Nat)} {x : List Nat} {t : Tok} (h : StrVals vs (xs.map S')) : StrVals (vs ++ [Value.str (S' x) t]) ((xs ++ [x]).map S') := by
  rw [List.map_append]
  exact StrVals.append h ⟨⟨t, rfl⟩, trivial⟩
theorem law_B (w : World) (loose : List Str) (mean : ExcName → Option Value) (mg mb : Str → Option Value) (h₀ : Heap) (f : Nat) (cdv : Value) (s : Shared) (Q : Flow → Shared → Prop) (E : Value → Shared → Prop)
    (K0 : Below callerA h₀ [] h₀) (X : (KF w.params).In h₀) (T : Top viewQ loose mean mg mb h₀) (m : Str → Option Value) (rest : List (Addr × Obj))
    (l row pool names plain : Nat) (vs : List Value) (ns : List Int) (hl : h₀.IsList l vs.toArray) (hI : IntsAre vs ns) (hn : ns.length ≤ 63) (many : Int) (tm tr tp : Tok) (hm : many = 5 ∨ many = 6)
    (oF : Obj) (d1 : oF.data = .cell none)
    (m1 : m (Str.ofString "script") = some (.ref l)) (m2 : m (Str.ofString "row") = some (.ref row)) (m3 : m (Str.ofString "many") = some (.int many tm)) (m4 : m (Str.ofString "pool") = some (.ref pool)) (m5 : m (Str.ofString "names") = some (.ref names)) (m6 : m (Str.ofString "plain") = some (.ref plain))
    (F : Fr h₀ h₀.objs.size s.heap m)
    (N : News h₀ h₀.objs.size s.heap ((plain, listOf #[] 0) :: (names, listOf #[] 0) :: (pool, listOf (poolAt tp).toArray 0) :: (row, listOf (rowAt tr).toArray 0) :: (h₀.objs.size + 1, oF) :: rest))
    (o1 : h₀.objs.size + 1 < row) (o2 : row < pool) (o3 : pool < names) (o4 : names < plain) (r1 : ∀ p ∈ rest, p.1 ≠ plain) (r2 : ∀ p ∈ rest, p.1 ≠ names) (r3 : ∀ p ∈ rest, p.1 ≠ pool) (r4 : ∀ p ∈ rest, p.1 ≠ h₀.objs.size + 1)
    (hE : PassesOwn (model PySem.Challenge.rw_wa0035_01.row.prog w) (callerA.deeper (lawEnv h₀.objs.size f cdv)) (lawEnv h₀.objs.size f cdv) E)
    (next : ∀ (m' : Str → Option Value) (pls : List Pl) (v1 v2 : List Value) (e1 e2 : Nat) (h' : Heap) (tk' : Nat), (pls.length : Int) = many → (∀ p ∈ pls, p.Ok) → (pls.map (·.nm)).Nodup → StrVals v1 ((pls.map Pl.raw).map S') → StrVals v2 ((pls.map Pl.plain).map S') → Keeps m m' → Fr h₀ h₀.objs.size h' m' →
      News h₀ h₀.objs.size h' ((plain, listOf v2.toArray e2) :: (names, listOf v1.toArray e1) :: rest) →
      LawWp w h₀.objs.size f cdv 6 Q E { s with heap := h', toks := tk' }) :
    LawWp w h₀.objs.size f cdv 5 Q E s := by
  have hturn := turn w loose mean mg mb h₀ f cdv
  unfold LawWp BodyWp lawEnv at *
  revert K0 X
  k_fill
  intro K0 X
  have he := law_eqs (P := w.params) (by k_is)
  obtain ⟨e1, e2, e3⟩ := he
  unfold partOf at *
  simp only [e1, e2, e3] at next hturn hE ⊢
  clear e1 e2 e3
  dsimp only [List.drop_succ_cons, List.drop_zero, List.getElem?_cons_succ, List.getElem?_cons_zero] at next hturn ⊢
  have hm1 : 5 ≤ many := by omega
  have hm2 : many ≤ 6 := by omega
  refine wpAny_execs_cons ?_
  refine For_invV h₀ (by rfl) (by rfl) ?_ (hE := by assumption)
  k_steps
  unfold Hold
  rename IsRange _ _ _ _ _ _ _ _ => hr9
  refine iter_rangeUnr (n := many.toNat) (by rfl) hr9 ?hsm ?hsz (by k_asm) (by k_asm) (fun I hI9 => ?R)
  case hsm => rcases hm with rfl | rfl <;> rfl
  case hsz => rcases hm with rfl | rfl <;> rfl
  case R =>
    refine (?H : ∀ (k i : Nat) (pls : List Pl) (left : List (List Nat)) (m' : Str → Option Value) (v0 v1 v2 : List Value) (e0 e1 e2 : Nat) (oF : Obj) (cv : Option Value), i + k = many.toNat → pls.length = i → (∀ p ∈ pls, p.Ok) → (pls.map (·.nm) ++ left).Perm POOL → v0.length + i = 8 → v1.length = i → v2.length = i →
        StrVals v0 (left.map S') → StrVals v1 ((pls.map Pl.raw).map S') → StrVals v2 ((pls.map Pl.plain).map S') → oF.data = .cell cv → Keeps m m' →
        RangeRest _ _ _ _ _ _ _ _ _ _ I _ _ k i m' ((plain, listOf v2.toArray e2) :: (names, listOf v1.toArray e1) :: (pool, listOf v0.toArray e0) :: (row, listOf (rowAt tr).toArray 0) :: (h₀.objs.size + 1, oF) :: rest))
      _ 0 [] POOL m (poolAt tp) [] [] _ _ _ oF none (Nat.zero_add _) rfl (fun _ h => nomatch h) (List.Perm.refl _) rfl rfl rfl (pool_vals tp) trivial trivial d1 (fun _ _ _ _ _ => rfl)
    intro k
    induction k with
    | zero =>
      intro i pls left m' v0 v1 v2 e0 e1 e2 oF cv hik hpl hok hperm hl0 hl1 hl2 hv0 hv1 hv2 hcell hkp
      refine RangeRest.zero fun h tk F9 N9 => ?_
      have hnd : (pls.map (·.nm)).Nodup := by
        have h1 : (pls.map (·.nm) ++ left).Nodup := hperm.nodup_iff.mpr (by decide)
        exact (List.nodup_append.mp h1).1
      exact next m' pls v1 v2 e1 e2 h tk (by omega) hok hnd hv1 hv2 hkp F9 (news_sub N9 fun p hp => by
        repeat (rcases List.mem_cons.mp hp with rfl | hp; · (repeat (first | exact List.Mem.head _ | refine List.Mem.tail _ ?_)))
        repeat (first | exact hp | refine List.Mem.tail _ ?_))
    | succ k ih =>
      intro i pls left m' v0 v1 v2 e0 e1 e2 oF cv hik hpl hok hperm hl0 hl1 hl2 hv0 hv1 hv2 hcell hkp
      refine RangeRest.succ fun t9 h9 tk9 F9 N9 => ?_
      have ip : @LT.lt Nat _ plain I := hI9 _ (.head _)
      have io : @LT.lt Nat _ (h₀.objs.size + 1) I := hI9 _ (.tail _ (.tail _ (.tail _ (.tail _ (.head _)))))
      have ir : ∀ p ∈ rest, @LT.lt Nat _ p.1 I := fun p hp => hI9 p (.tail _ (.tail _ (.tail _ (.tail _ (.tail _ hp)))))
      have km : ∀ y, y ≠ Str.ofString "k" → (fun y => if y = Str.ofString "k" then some (Value.int ((0 : Int) + (i : Int)) t9) else m' y) y = m' y := fun y hy => if_neg hy
      refine hturn _ _ _ K0 X T (setM m' (Str.ofString "k") (Value.int ((0 : Int) + (i : Int)) t9)) ((I, itR ((0 : Int) + ((i + 1 : Nat) : Int)) ((many.toNat : Int) - ((i + 1 : Nat) : Int))) :: rest) l row pool names plain e0 e1 e2 vs ns hl hI hn ((0 : Int) + (i : Int)) tr t9 (by omega) (by omega) v0 v1 v2 left _ _ hv0 hv1 hv2 (by omega) (by omega) (by omega) (by omega)
        (fun x hx => hperm.mem_iff.mp (List.mem_append_right _ hx)) oF cv hcell
        ((km _ (by decide)).trans ((hkp _ (by decide) (by decide) (by decide) (by decide)).trans m1)) ((km _ (by decide)).trans ((hkp _ (by decide) (by decide) (by decide) (by decide)).trans m2)) (if_pos rfl)
        ((km _ (by decide)).trans ((hkp _ (by decide) (by decide) (by decide) (by decide)).trans m4)) ((km _ (by decide)).trans ((hkp _ (by decide) (by decide) (by decide) (by decide)).trans m5)) ((km _ (by decide)).trans ((hkp _ (by decide) (by decide) (by decide) (by decide)).trans m6))
        F9 (news_sub N9 fun p hp => by
          repeat (rcases List.mem_cons.mp hp with rfl | hp; · (repeat (first | exact List.Mem.head _ | refine List.Mem.tail _ ?_)))
          repeat (first | exact hp | refine List.Mem.tail _ ?_)) o1 o2 o3 o4 ?_ ?_ ?_ ?_ ?_
      · intro p hp
        rcases List.mem_cons.mp hp with rfl | hp
        · show @Ne Nat (I) (plain); omega
        · exact r1 p hp
      · intro p hp
        rcases List.mem_cons.mp hp with rfl | hp
        · show @Ne Nat (I) (names); omega
        · exact r2 p hp
      · intro p hp
        rcases List.mem_cons.mp hp with rfl | hp
        · show @Ne Nat (I) (pool); omega
        · exact r3 p hp
      · intro p hp
        rcases List.mem_cons.mp hp with rfl | hp
        · show @Ne Nat (I) (h₀.objs.size + 1); omega
        · exact r4 p hp
      intro m2 p left' v0' t1 t2 oF' cv' h' tk' pok hp2 hv0' hlen hcell' hm2 F2 N2
      refine UnrEnd.intro F2 N2 ((plain, listOf (v2 ++ [Value.str (S' p.plain) t2]).toArray (e2 + 1)) :: (names, listOf (v1 ++ [Value.str (S' p.raw) t1]).toArray (e1 + 1)) :: (pool, listOf v0'.toArray (e0 + 1)) :: (row, listOf (rowAt tr).toArray 0) :: (h₀.objs.size + 1, oF') :: rest) (fun q hq => by
          repeat (rcases List.mem_cons.mp hq with rfl | hq; · (repeat (first | exact List.Mem.head _ | refine List.Mem.tail _ ?_)))
          repeat (first | exact hq | refine List.Mem.tail _ ?_)) ?_ ?_
      · intro q hq
        simp only [List.mem_cons] at hq
        rcases hq with rfl | rfl | rfl | rfl | rfl | hq
        · show @Ne Nat (plain) (I); omega
        · show @Ne Nat (names) (I); omega
        · show @Ne Nat (pool) (I); omega
        · show @Ne Nat (row) (I); omega
        · show @Ne Nat (h₀.objs.size + 1) (I); omega
        · exact Nat.ne_of_lt (ir q hq)
      · refine ih (i + 1) (pls ++ [p]) left' m2 v0' _ _ _ _ _ oF' cv' (by omega) (by rw [List.length_append, hpl]; rfl) ?_ ?_ (by omega) (by rw [List.length_append, hl1]; rfl) (by rw [List.length_append, hl2]; rfl) hv0' (by rw [List.map_append]; exact StrVals.snoc1 hv1) (by rw [List.map_append]; exact StrVals.snoc1 hv2) hcell' ?_
        · intro q hq
          rcases List.mem_append.mp hq with hq | hq
          · exact hok q hq
          · rw [List.mem_singleton.mp hq]; exact pok
        · rw [List.map_append, List.append_assoc]
          exact (List.Perm.append_left _ hp2).trans hperm
        · intro y y1 y2 y3 y4
          exact (hm2 y y2 y3 y4).trans ((km y y1).trans (hkp y y1 y2 y3 y4))
end
section
open PySem PySem.W PySem.Calls PySem.Spec PyProof PyProof.Rows
local macro_rules | `(tactic| walk_at "idle 0") => `(tactic| fail)
local macro_rules | `(tactic| walk_at "execs cons") => `(tactic| (k_here; (with_reducible show wpAny _ _ (execs (Stmt.Assign [Expr.Name (Str.ofString "duels") _] _ _ :: _) _) _ _ _); refine hold_intro ?_))
/-- what _law_bracket tells of these names, for every sum -/
noncomputable def BrAll (w : World) (need : Nat) (vs : List Value) (g : Int → List Nat) : Prop := ∀ v, BrC w need vs v (g v)
theorem BrAll.at {w : World} {need : Nat} {vs : List Value} {g : Int → List Nat} (h : BrAll w need vs g) (v : Int) : BrC w need vs v (g v) := h v
local macro_rules | `(tactic| walk_at "call ref") => `(tactic| (k_here; (with_reducible show wpAny _ _ (call (Value.ref 113) [Value.ref _, Value.int _ _]) _ _ _); k_dflt (refine' ctr_use (brC_use (BrAll.at ?h1 _) ?h2) ?k1 ?k2 ?k3 ?k4 ?k5 ?kK ?kd ?ku ?kg ?_; (case k1 => k_asm); (case k2 => k_asm); (case k3 => k_asm); (case k4 => k_asm); (case k5 => k_asm); (case h2 => k_mem); (case h1 => assumption); (case kK => first | exact rfl | assumption); (case kd => first | ktr_room | decide); (case ku => first | ktr_units | decide); (case kg => assumption)); intro r9 n9 h9 tk9 g9 F9 N9 p9 b9; obtain ⟨k9, q9, z9⟩ := p9; subst q9; subst z9; (try dsimp only); (try k_fold)))
theorem law_C6 (w : World) (loose : List Str) (mean : ExcName → Option Value) (mg mb : Str → Option Value) (h₀ : Heap) (f : Nat) (cdv : Value) (s : Shared) (Q : Flow → Shared → Prop) (E : Value → Shared → Prop)
    (K0 : Below callerA h₀ [] h₀) (X : (KF w.params).In h₀) (T : Top viewQ loose mean mg mb h₀) (m : Str → Option Value) (rest : List (Addr × Obj))
    (l names e1 : Nat) (vs : List Value) (ns : List Int) (hl : h₀.IsList l vs.toArray) (hI : IntsAre vs ns) (hn : ns.length ≤ 63)
    (v1 : List Value) (xs : List (List Nat)) (hv1 : StrVals v1 (xs.map S')) (hx1 : 1 ≤ xs.length) (hx2 : xs.length ≤ 6) (hz : (xs.map fun x => x.length + 4).sum < 900) (G : AllBare s.gens)
    (m1 : m (Str.ofString "script") = some (.ref l)) (m2 : m (Str.ofString "names") = some (.ref names))
    (F : Fr h₀ h₀.objs.size s.heap m) (N : News h₀ h₀.objs.size s.heap ((names, listOf v1.toArray e1) :: rest))
    (next : ∀ (v : Int) (t : Tok) (h' : Heap) (tk' : Nat) (g' : Array GenState), Fr h₀ h₀.objs.size h' (setM m (Str.ofString "text") (.str (S' (brT 5 xs v).txt) t)) → News h₀ h₀.objs.size h' ((names, listOf v1.toArray e1) :: rest) → AllBare g' →
      LawWp w h₀.objs.size f cdv 7 Q E { s with heap := h', toks := tk', gens := g' }) :
    LawWp w h₀.objs.size f cdv 6 Q E s := by
  have hbr : BrAll w 7 v1 (fun v => (brT 5 xs v).txt) := fun v => br_ctr w 5 xs v1 v hv1 hx1 (by omega) (by omega) hz
  unfold LawWp lawEnv at *
  revert K0 X
  k_fill
  intro K0 X
  have he := law_eqs (P := w.params) (by k_is)
  obtain ⟨e1, e2, e3⟩ := he
  simp only [e1, e2, e3] at next ⊢
  clear e1 e2 e3
  simp only [List.drop_succ_cons, List.drop_zero] at next ⊢
  k_steps
  unfold Hold
  refine' next _ _ _ _ _ ?F ?N ?G
  case F => assumption
  case N => (rename News _ _ _ _ => N9); (try simp only [List.push_toArray] at N9); exact fun p hp => N9 p (by repeat (first | exact hp | refine List.Mem.tail _ ?_))
  case G => assumption
end
section
open PySem PySem.W PySem.Calls PySem.Spec PyProof PyProof.Rows
local macro_rules | `(tactic| walk_at "idle 0") => `(tactic| fail)
local macro_rules | `(tactic| walk_at "idle 1") => `(tactic| fail)
local macro_rules | `(tactic| walk_at "execs cons") => `(tactic| (k_here; (with_reducible show wpAny _ _ (execs (Stmt.Assign [Expr.Name (Str.ofString "counts") _] _ _ :: _) _) _ _ _); refine hold_intro ?_))
/-- what _law_play tells of this text, whatever the list of the duels -/
noncomputable def PlayAll (w : World) (need : Nat) (X : List Nat) (R : Rose) (ps : List (List Nat × List Nat)) : Prop := ∀ dl, PlayC w need dl X R ps
theorem PlayAll.at {w : World} {need : Nat} {X : List Nat} {R : Rose} {ps : List (List Nat × List Nat)} (h : PlayAll w need X R ps) (dl : Nat) : PlayC w need dl X R ps := h dl
local macro_rules | `(tactic| walk_at "call ref") => `(tactic| (k_here; (with_reducible show wpAny _ _ (call (Value.ref 125) [Value.str _ _, Value.ref _]) _ _ _); refine hold_intro ?_))
theorem law_C78 (w : World) (loose : List Str) (mean : ExcName → Option Value) (mg mb : Str → Option Value) (h₀ : Heap) (f : Nat) (cdv : Value) (s : Shared) (Q : Flow → Shared → Prop) (E : Value → Shared → Prop)
    (K0 : Below callerA h₀ [] h₀) (X : (KF w.params).In h₀) (T : Top viewQ loose mean mg mb h₀) (m : Str → Option Value) (rest : List (Addr × Obj))
    (X' : List Nat) (tt : Tok) (need : Nat) (R : Rose) (ps : List (List Nat × List Nat)) (hp : PlayAll w need X' R ps) (hneed : need < 50) (hps : ps.length < 90) (G : AllBare s.gens)
    (m1 : m (Str.ofString "text") = some (.str (S' X') tt))
    (F : Fr h₀ h₀.objs.size s.heap m) (N : News h₀ h₀.objs.size s.heap rest)
    (next : ∀ (duels b : Nat) (ds : List Value) (e : Nat) (R' : List (Addr × Obj)) (h' : Heap) (tk' : Nat) (g' : Array GenState), (∀ p ∈ rest, p ∈ R') → (∀ p ∈ R', p.1 ≠ duels) → RIn R' R (.ref b) → PairsAt R' ps ds →
      Fr h₀ h₀.objs.size h' (setM (setM m (Str.ofString "duels") (.ref duels)) (Str.ofString "best") (.ref b)) → News h₀ h₀.objs.size h' ((duels, listOf ds.toArray e) :: R') → AllBare g' →
      LawWp w h₀.objs.size f cdv 9 Q E { s with heap := h', toks := tk', gens := g' }) :
    LawWp w h₀.objs.size f cdv 7 Q E s := by
  unfold LawWp lawEnv at *
  revert K0 X
  k_fill
  intro K0 X
  have he := law_eqs (P := w.params) (by k_is)
  obtain ⟨e1, e2, e3⟩ := he
  simp only [e1, e2, e3] at next ⊢
  clear e1 e2 e3
  simp only [List.drop_succ_cons, List.drop_zero] at next ⊢
  k_steps
  unfold Hold
  rename ∀ p ∈ rest, _ => l9
  refine' ctr_use (playC_use (hp _) ?h2 ?h3) ?k1 ?k2 ?k3 ?k4 ?k5 ?kK ?kd ?ku ?kg ?_
  case k1 => k_asm
  case k2 => k_asm
  case k3 => k_asm
  case k4 => k_asm
  case k5 => k_asm
  case h2 => exact fun p hp => Nat.ne_of_lt (l9 p hp)
  case h3 => (show 0 + _ < 100); omega
  case kK => rfl
  case kd => exact Nat.lt_of_lt_of_le (Nat.add_lt_add_left hneed _) (by decide)
  case ku => exact Nat.lt_of_lt_of_le (Nat.add_lt_add_left (Nat.mul_lt_mul_of_pos_left hneed (by decide)) _) (by decide)
  case kg => assumption
  intro r9 n9 h9 tk9 g9 F9 N9 p9 b9
  obtain ⟨R9, d9, z9, q9, s9, o9, i9, y9⟩ := p9
  obtain ⟨a9, j9⟩ := i9.isRef
  subst j9
  subst q9
  k_steps
  unfold Hold
  refine' next _ a9 d9 z9 R9 _ _ _ s9 o9 i9 y9 ?F ?N ?G
  case F => assumption
  case N => (rename News _ _ _ _ => N8); exact N8
  case G => assumption
end
section
open PySem PySem.W PySem.Calls PySem.Spec PyProof PyProof.Rows
/-- an object that is no part of a rose nor a pair -/
structure Alien (oc : Obj) : Prop where
  tup : ∀ xs, oc ≠ tupOf xs
  kids : ∀ (vs : List Value) (e : Nat), (∀ v ∈ vs, ∃ a, v = Value.ref a) → oc ≠ listOf vs.toArray e
  pair : ∀ (a b : Str) (s t : Tok), oc ≠ listOf #[.str a s, .str b t] 0
theorem at_ne {h₀ h : Heap} {L c a : Nat} {oc o : Obj} {n : List (Addr × Obj)} (N : News h₀ L h n) (hc : (c, oc) ∈ n) (ha : (a, o) ∈ n) (hs : oc ≠ o) : @Ne Nat a c := by
  rintro rfl
  have := (N.get hc).symm.trans (N.get ha)
  injection this with this
  exact hs this
theorem RIns.refs {S : List (Addr × Obj)} : ∀ {r : List Rose} {vs : List Value}, RIns S r vs → ∀ v ∈ vs, ∃ a, v = Value.ref a
  | _, _, .cons h1 h2, v, hv => by
    rcases List.mem_cons.mp hv with rfl | hv
    · obtain ⟨a, e⟩ := h1.isRef
      exact ⟨a, e⟩
    · exact RIns.refs h2 v hv
mutual
theorem RIn.off {h₀ h : Heap} {L c : Nat} {oc : Obj} {n : List (Addr × Obj)} (N : News h₀ L h n) (hc : (c, oc) ∈ n) (hd : Alien oc) : ∀ {r : Rose} {v : Value}, RIn n r v → RIn (off c n) r v
  | _, _, .mk h1 h2 h3 => .mk (mem_off h1 (at_ne N hc h1 (hd.tup _))) (mem_off h2 (at_ne N hc h2 (hd.kids _ _ (RIns.refs h3)))) (RIns.off N hc hd h3)
theorem RIns.off {h₀ h : Heap} {L c : Nat} {oc : Obj} {n : List (Addr × Obj)} (N : News h₀ L h n) (hc : (c, oc) ∈ n) (hd : Alien oc) : ∀ {r : List Rose} {v : List Value}, RIns n r v → RIns (off c n) r v
  | _, _, .nil => .nil
  | _, _, .cons h1 h2 => .cons (RIn.off N hc hd h1) (RIns.off N hc hd h2)
end
theorem PairAt.off {h₀ h : Heap} {L c : Nat} {oc : Obj} {n : List (Addr × Obj)} (N : News h₀ L h n) (hc : (c, oc) ∈ n) (hd : Alien oc) {p : List Nat × List Nat} {v : Value} : PairAt n p v → PairAt (off c n) p v
  | ⟨q, kx, ky, hv, hm⟩ => ⟨q, kx, ky, hv, mem_off hm (at_ne N hc hm (hd.pair _ _ _ _))⟩
theorem PairsAt.off {h₀ h : Heap} {L c : Nat} {oc : Obj} {n : List (Addr × Obj)} (N : News h₀ L h n) (hc : (c, oc) ∈ n) (hd : Alien oc) : ∀ {ps : List (List Nat × List Nat)} {vs : List Value}, PairsAt n ps vs → PairsAt (off c n) ps vs
  | [], [], _ => trivial
  | _ :: _, _ :: _, ⟨a, b⟩ => ⟨a.off N hc hd, PairsAt.off N hc hd b⟩
  | [], _ :: _, x => x.elim
  | _ :: _, [], x => x.elim
theorem alien_cell {oc : Obj} {cv : Option Value} (h : oc.data = .cell cv) : Alien oc :=
  ⟨fun _ e => (by subst e; cases h), fun _ _ _ e => (by subst e; cases h), fun _ _ _ _ e => (by subst e; cases h)⟩
theorem alien_cls {oc : Obj} {n : String} (h : oc.cls = .type n) (h1 : n ≠ "tuple") (h2 : n ≠ "list") : Alien oc :=
  ⟨fun _ e => (by subst e; injection h with h; exact h1 h.symm), fun _ _ _ e => (by subst e; injection h with h; exact h2 h.symm), fun _ _ _ _ e => (by subst e; injection h with h; exact h2 h.symm)⟩
theorem alien_int {i : Int} {t : Tok} {vs : List Value} {e : Nat} : Alien (listOf (Value.int i t :: vs).toArray e) := by
  refine ⟨fun _ h => ?_, fun us _ hu h => ?_, fun _ _ _ _ h => ?_⟩
  · injection h with h; revert h; decide
  · injection h with _ _ h; injection h with h
    have : us = Value.int i t :: vs := by simpa using h.symm
    obtain ⟨a, q⟩ := hu _ (this ▸ List.Mem.head _)
    cases q
  · injection h with _ _ h; injection h with h
    simp at h
theorem alien_str {x : Str} {t : Tok} {vs : List Value} : Alien (listOf (Value.str x t :: vs).toArray vs.length) := by
  refine ⟨fun _ h => ?_, fun us _ hu h => ?_, fun _ _ _ _ h => ?_⟩
  · injection h with h; revert h; decide
  · injection h with _ _ h; injection h with h
    have : us = Value.str x t :: vs := by simpa using h.symm
    obtain ⟨a, q⟩ := hu _ (this ▸ List.Mem.head _)
    cases q
  · injection h with _ _ h; injection h with h1 h2
    have : vs.length = 1 := by
      have := congrArg Array.size h1
      simpa using this
    rw [this] at h2
    cases h2
local macro_rules | `(tactic| walk_at "execs cons") => `(tactic| (k_here; (with_reducible show wpAny _ _ (execs (Stmt.While _ _ _ _ :: _) _) _ _ _); refine hold_intro ?_))
local macro_rules | `(tactic| walk_at "call builtin:len") => `(tactic| (k_here; (with_reducible show wpAny _ _ (call (Value.builtin "len") [Value.ref _]) _ _ _); (refine' len_V ?l ?z ?_; (case l => kmk_list); (case z => omega))))
local macro_rules | `(tactic| k_all) => `(tactic| assumption)
theorem law_C910 (w : World) (loose : List Str) (mean : ExcName → Option Value) (mg mb : Str → Option Value) (h₀ : Heap) (f : Nat) (cdv : Value) (s : Shared) (Q : Flow → Shared → Prop) (E : Value → Shared → Prop)
    (K0 : Below callerA h₀ [] h₀) (X : (KF w.params).In h₀) (T : Top viewQ loose mean mg mb h₀) (m : Str → Option Value) (rest : List (Addr × Obj))
    (duels b kl e : Nat) (x : List Nat) (k : Tok) (ds : List Value) (hds : ds.length < 100) (oO : Obj) (cv : Option Value) (d1 : oO.data = .cell cv)
    (m1 : m (Str.ofString "duels") = some (.ref duels)) (m2 : m (Str.ofString "best") = some (.ref b))
    (F : Fr h₀ h₀.objs.size s.heap m) (N : News h₀ h₀.objs.size s.heap ((h₀.objs.size + 1 + 1, oO) :: (b, tupOf #[.str (S' x) k, .ref kl]) :: (duels, listOf ds.toArray e) :: rest))
    (hb : @Ne Nat b (h₀.objs.size + 1 + 1)) (hdd : @Ne Nat duels (h₀.objs.size + 1 + 1)) (hr : ∀ p ∈ rest, p.1 ≠ h₀.objs.size + 1 + 1)
    (next : ∀ (counts ord : Nat) (tc : Tok) (oO' : Obj) (h' : Heap) (tk' : Nat), oO'.data = .cell (some (.ref ord)) → (h₀.objs.size + 1 + 1 < counts ∧ b < counts ∧ duels < counts ∧ AllLt counts rest) → (counts < ord ∧ h₀.objs.size + 1 + 1 < ord ∧ b < ord ∧ duels < ord ∧ AllLt ord rest) →
      Fr h₀ h₀.objs.size h' (setM m (Str.ofString "counts") (.ref counts)) → News h₀ h₀.objs.size h' ((ord, listOf #[.str (S' x) k] 0) :: (counts, listOf #[.int ds.length tc] 0) :: (h₀.objs.size + 1 + 1, oO') :: (b, tupOf #[.str (S' x) k, .ref kl]) :: (duels, listOf ds.toArray e) :: rest) →
      LawWp w h₀.objs.size f cdv 11 Q E { s with heap := h', toks := tk' }) :
    LawWp w h₀.objs.size f cdv 9 Q E s := by
  unfold LawWp lawEnv at *
  revert K0 X
  k_fill
  intro K0 X
  have he := law_eqs (P := w.params) (by k_is)
  obtain ⟨e1, e2, e3⟩ := he
  simp only [e1, e2, e3] at next ⊢
  clear e1 e2 e3
  simp only [List.drop_succ_cons, List.drop_zero] at next ⊢
  k_steps
  unfold Hold
  refine' next _ _ _ _ _ _ ?d ?a ?b ?F ?N
  case F => assumption
  case N => assumption
  case d => assumption
  case a => assumption
  case b => assumption
end
section
open PySem PySem.W PySem.Calls PySem.Spec PyProof PyProof.Rows
section
variable {prog : Program} {w : World} {A : Around} {E : Value → Shared → Prop} {Q : Flow → Shared → Prop} {s : Shared} {env : Env}
theorem While_inv {test : Expr} {body : List Stmt} {pos : Pos} (Inv : Nat → Shared → Prop) (n₀ : Nat) (h0 : Inv n₀ s)
    (turn : ∀ n s', Inv n s' → wpAny (model prog w) A (isTrue test env (eval test env)) (fun b s₂ => if b = true then wpAny (model prog w) A (execs body env) (fun f s₃ => f = .next ∧ ∃ n', n' < n ∧ Inv n' s₃) E s₂ else Q .next s₂) E s')
    (hE : PassesOwn (model prog w) A env E := by passes_own) :
    wpAny (model prog w) A (exec (.While test body [] pos) env) Q E s := by
  refine wpAny_While (codeAny_whileLoop Inv ?_ n₀ h0)
  intro n s' hI
  refine wpAny_mono (turn n s' hI) (fun b s₂ h₂ => ?_) hE
  cases b with
  | false =>
    simp only [Bool.false_eq_true, if_false] at h₂ ⊢
    exact wpAny_execs_nil h₂
  | true =>
    simp only [if_true] at h₂ ⊢
    refine wpAny_mono h₂ (fun f s₃ h₃ => ?_) hE
    obtain ⟨rfl, n', hlt, hI'⟩ := h₃
    exact ⟨n', hlt, hI'⟩
end
mutual
noncomputable def Rose.size : Rose → Nat
  | .node _ ks => Rose.sizes ks + 1
noncomputable def Rose.sizes : List Rose → Nat
  | [] => 0
  | r :: rs => r.size + Rose.sizes rs
end
/-- the winner of those who stand in a row -/
noncomputable def champ : Rose → List Rose → Rose
  | a, [] => a
  | a, b :: r => champ (duelR a b) r
noncomputable def champPs : Rose → List Rose → List (List Nat × List Nat)
  | _, [] => []
  | a, b :: r => (a.name, b.name) :: champPs (duelR a b) r
/-- the later places, the counts of duels and the duels -/
noncomputable def laterO : Nat → Rose → List (List Nat)
  | n + 1, .node _ (k :: r) => (champ k r).name :: laterO n (champ k r)
  | _, _ => []
noncomputable def laterC : Nat → Nat → Rose → List Nat
  | n + 1, c, .node _ (k :: r) => (c + r.length) :: laterC n (c + r.length) (champ k r)
  | _, _, _ => []
noncomputable def laterP : Nat → Rose → List (List Nat × List Nat)
  | n + 1, .node _ (k :: r) => champPs k r ++ laterP n (champ k r)
  | _, _ => []
theorem sizes_append (a b : List Rose) : Rose.sizes (a ++ b) = Rose.sizes a + Rose.sizes b := by
  induction a with
  | nil => simp [Rose.sizes]
  | cons x r ih => simp only [List.cons_append, Rose.sizes, ih]; omega
theorem duelR_size (a b : Rose) : (duelR a b).size = a.size + b.size := by
  obtain ⟨x, ka⟩ := a
  obtain ⟨y, kb⟩ := b
  unfold duelR
  split
  · simp only [Rose.size, Rose.kids, sizes_append, Rose.sizes, Rose.name]; omega
  · simp only [Rose.size, Rose.kids, sizes_append, Rose.sizes, Rose.name]; omega
theorem champ_size : ∀ (r : List Rose) (a : Rose), (champ a r).size = a.size + Rose.sizes r
  | [], a => by simp [champ, Rose.sizes]
  | b :: r, a => by simp only [champ, champ_size r, duelR_size, Rose.sizes]; omega
theorem champPs_len : ∀ (r : List Rose) (a : Rose), (champPs a r).length = r.length
  | [], _ => rfl
  | b :: r, a => by simp only [champPs, List.length_cons, champPs_len r]
mutual
theorem size_pos : ∀ r : Rose, 1 ≤ r.size
  | .node _ ks => by simp only [Rose.size]; omega
theorem kids_le_sizes : ∀ ks : List Rose, ks.length ≤ Rose.sizes ks
  | [] => Nat.le_refl _
  | r :: rs => by
    have := size_pos r
    have := kids_le_sizes rs
    simp only [List.length_cons, Rose.sizes]; omega
end
theorem kids_lt_size (r : Rose) : r.kids.length < r.size := by
  obtain ⟨x, ks⟩ := r
  have := kids_le_sizes ks
  simp only [Rose.size, Rose.kids]; omega
local macro_rules | `(tactic| walk_at "execs cons") => `(tactic| (k_here; (with_reducible show wpAny _ _ (execs (Stmt.For _ _ _ _ _ :: _) _) _ _ _); refine hold_intro ?_))
theorem rest01 (w : World) (loose : List Str) (mean : ExcName → Option Value) (mg mb : Str → Option Value) (h₀ : Heap) (f : Nat) (cdv : Value) (s : Shared) (Q : Flow → Shared → Prop) (E : Value → Shared → Prop)
    (K0 : Below callerA h₀ [] h₀) (X : (KF w.params).In h₀) (T : Top viewQ loose mean mg mb h₀) (m : Str → Option Value) (rest : List (Addr × Obj))
    (b kl a1 ek : Nat) (x : List Nat) (k : Tok) (vr : List Value) (hvr : vr.length < 100)
    (m2 : m (Str.ofString "best") = some (.ref b))
    (F : Fr h₀ h₀.objs.size s.heap m) (N : News h₀ h₀.objs.size s.heap ((b, tupOf #[.str (S' x) k, .ref kl]) :: (kl, listOf (Value.ref a1 :: vr).toArray ek) :: rest))
    (next : ∀ (h' : Heap) (tk' : Nat), Fr h₀ h₀.objs.size h' (setM (setM m (Str.ofString "others") (.ref kl)) (Str.ofString "best") (.ref a1)) → News h₀ h₀.objs.size h' ((b, tupOf #[.str (S' x) k, .ref kl]) :: (kl, listOf (Value.ref a1 :: vr).toArray ek) :: rest) →
      BodyWp w h₀.objs.size f cdv 11 2 Q E { s with heap := h', toks := tk' }) :
    BodyWp w h₀.objs.size f cdv 11 0 Q E s := by
  unfold BodyWp lawEnv at *
  revert K0 X
  k_fill
  intro K0 X
  have he := law_eqs (P := w.params) (by k_is)
  obtain ⟨e1, e2, e3⟩ := he
  unfold partOf at *
  simp only [e1, e2, e3] at next ⊢
  clear e1 e2 e3
  dsimp only [List.drop_succ_cons, List.drop_zero, List.getElem?_cons_succ, List.getElem?_cons_zero] at next ⊢
  k_steps
  unfold Hold
  refine' next _ _ ?F ?N
  case F => assumption
  case N => (rename News _ _ _ _ => N9); (try simp only [List.push_toArray] at N9); exact fun p hp => N9 p (by repeat (first | exact hp | refine List.Mem.tail _ ?_))
end
section
open PySem PySem.W PySem.Calls PySem.Spec PyProof PyProof.Rows
section
variable {prog : Program} {w : World} {A : Around} {E : Value → Shared → Prop} {s : Shared} {env : Env} {h₀ : Heap} {x : Str} {body : List Stmt} {Q : Flow → Shared → Prop}
theorem ListRest.sub {I : Addr} {lp : Addr × Obj} {vs : List Value} {m : Str → Option Value} {n1 n2 : List (Addr × Obj)} (hs : ∀ p ∈ n2, p ∈ n1) (h : ListRest prog w A E h₀ env x body Q s I lp vs m n2) : ListRest prog w A E h₀ env x body Q s I lp vs m n1 := by
  cases vs with
  | nil => exact fun h' tk F N => h h' tk F (fun p hp => N p (hs p hp))
  | cons v r =>
    exact fun it h' tk hi F N => h it h' tk hi F (fun p hp => by
      rcases List.mem_cons.mp hp with rfl | hp
      · exact N _ (.head _)
      · exact N p (.tail _ (hs p hp)))
end
theorem pick_tail (v : Value) (vr : List Value) : (slicePick (v :: vr).toArray (some 1) none none).toList = vr :=
  (pick_from (v :: vr) 1 (by decide) (by rw [List.length_cons]; omega)).trans rfl
local macro_rules | `(tactic| walk_at "subscriptTail Name Slice ref ref") => `(tactic| (k_here; (with_reducible show wpAny _ _ (subscriptTail _ (PySem.Expr.Slice (some _) none none _) (Value.ref _) (Value.ref _)) _ _ _); k_dflt (refine' kmk_slice_lit ?F ?N ?l ?p ?q ?e ?_ ?s ?t ?z; (case F => k_asm); (case N => k_asm); (case l => kmk_list); (case p => kmk_part); (case q => kmk_part); (case e => exact pick_tail _ _); (case s => with_unfolding_all rfl); (case t => kmk_pure); (case z => (rw [List.size_toArray, PySem.sizeLine_eq]; omega))); intro D' h' F' N' l1; (try k_lt l1); (try k_sweep)))
local macro_rules | `(tactic| walk_at "pyIter ref") => `(tactic| (k_here; refine hold_intro ?_))
local macro_rules | `(tactic| walk_at "call ref") => `(tactic| (k_here; (with_reducible show wpAny _ _ (call (Value.ref 120) [Value.ref _, Value.ref _, Value.ref _]) _ _ _); refine hold_intro ?_))
theorem rest2 (w : World) (loose : List Str) (mean : ExcName → Option Value) (mg mb : Str → Option Value) (h₀ : Heap) (f : Nat) (cdv : Value) (s : Shared) (Q : Flow → Shared → Prop) (E : Value → Shared → Prop)
    (K0 : Below callerA h₀ [] h₀) (X : (KF w.params).In h₀) (T : Top viewQ loose mean mg mb h₀) (m : Str → Option Value)
    (duels kl a1 e ek : Nat) (A : Rose) (ks : List Rose) (vr ds : List Value) (ps : List (List Nat × List Nat)) (S : List (Addr × Obj)) (hsz : A.size + Rose.sizes ks < 60) (hds : ds.length + ks.length < 90)
    (hS : ∀ p ∈ S, p.1 ≠ duels) (hkl : (kl, listOf (Value.ref a1 :: vr).toArray ek) ∈ S) (hA : RIn S A (.ref a1)) (hks : RIns S ks vr) (hps : PairsAt S ps ds)
    (m1 : m (Str.ofString "others") = some (.ref kl)) (m2 : m (Str.ofString "best") = some (.ref a1)) (m3 : m (Str.ofString "duels") = some (.ref duels))
    (F : Fr h₀ h₀.objs.size s.heap m) (N : News h₀ h₀.objs.size s.heap ((duels, listOf ds.toArray e) :: S))
    (hE : PassesOwn (model PySem.Challenge.rw_wa0035_01.row.prog w) (callerA.deeper (lawEnv h₀.objs.size f cdv)) (lawEnv h₀.objs.size f cdv) E)
    (next : ∀ (a' e' : Nat) (ds' : List Value) (S' : List (Addr × Obj)) (m' : Str → Option Value) (h' : Heap) (tk' : Nat), (∀ p ∈ S, p ∈ S') → (∀ p ∈ S', p.1 ≠ duels) → RIn S' (champ A ks) (.ref a') → PairsAt S' (ps ++ champPs A ks) ds' →
      m' (Str.ofString "best") = some (.ref a') → (∀ y, y ≠ Str.ofString "best" → y ≠ Str.ofString "other" → m' y = m y) → Fr h₀ h₀.objs.size h' m' → News h₀ h₀.objs.size h' ((duels, listOf ds'.toArray e') :: S') →
      BodyWp w h₀.objs.size f cdv 11 3 Q E { s with heap := h', toks := tk' }) :
    BodyWp w h₀.objs.size f cdv 11 2 Q E s := by
  have hvr : vr.length = ks.length := hks.length
  unfold BodyWp lawEnv at *
  revert K0 X
  k_fill
  intro K0 X
  have he := law_eqs (P := w.params) (by k_is)
  obtain ⟨e1, e2, e3⟩ := he
  unfold partOf at *
  simp only [e1, e2, e3] at next hE ⊢
  clear e1 e2 e3
  dsimp only [List.drop_succ_cons, List.drop_zero, List.getElem?_cons_succ, List.getElem?_cons_zero] at next ⊢
  refine wpAny_execs_cons ?_
  refine For_invV h₀ (by rfl) (by rfl) ?_ (hE := by assumption)
  have N0 : News h₀ h₀.objs.size s.heap ((kl, listOf (Value.ref a1 :: vr).toArray ek) :: (duels, listOf ds.toArray e) :: S) := fun p hp => by
    rcases List.mem_cons.mp hp with rfl | hp
    · exact N _ (.tail _ hkl)
    · exact N p hp
  clear N
  k_steps
  unfold Hold
  rename Fr _ _ _ _ => F9
  rename News _ _ _ _ => N9
  have hpick : slicePick (Value.ref a1 :: vr).toArray (some 1) none none = vr.toArray := by
    have := pick_tail (Value.ref a1) vr
    exact Array.toList_inj.mp (by simpa using this)
  rw [hpick] at N9
  refine iter_listUnr (vs := vr) (n := 0) (by rfl) F9 N9 (.head _) rfl rfl (fun I hI9 => ?R)
  case R =>
    have hd1 : @LT.lt Nat _ duels s.heap.objs.size := Heap.lt_size (N0 _ (.tail _ (.head _))).1
    have hDd0 : @Ne Nat (s.heap.objs.size + 1) duels := by omega
    generalize s.heap.objs.size + 1 = D at N9 hI9 hDd0 ⊢
    have iS : ∀ p ∈ S, @LT.lt Nat _ p.1 I := fun p hp => hI9 p (.tail _ (.tail _ (.tail _ hp)))
    have iD : @LT.lt Nat _ D I := hI9 _ (.head _)
    have id : @LT.lt Nat _ duels I := hI9 _ (.tail _ (.tail _ (.head _)))
    refine ListRest.sub (n2 := (duels, listOf ds.toArray e) :: (D, ({ cls := .type "list", data := .seq vr.toArray } : Obj)) :: S) (fun p hp => by
      repeat (rcases List.mem_cons.mp hp with rfl | hp; · (repeat (first | exact List.Mem.head _ | refine List.Mem.tail _ ?_)))
      repeat (first | exact hp | refine List.Mem.tail _ ?_)) ?_
    have LM : ∀ p ∈ S, p ∈ (D, ({ cls := .type "list", data := .seq vr.toArray } : Obj)) :: S := fun p hp => .tail _ hp
    have HDD : ∀ p ∈ (D, ({ cls := .type "list", data := .seq vr.toArray } : Obj)) :: S, p.1 ≠ duels := fun p hp => by
      rcases List.mem_cons.mp hp with rfl | hp
      · exact hDd0
      · exact hS p hp
    have hIa : ∀ p ∈ (D, ({ cls := .type "list", data := .seq vr.toArray } : Obj)) :: S, p.1 ≠ I := fun p hp => by
      rcases List.mem_cons.mp hp with rfl | hp
      · exact Nat.ne_of_lt iD
      · exact Nat.ne_of_lt (iS p hp)
    generalize hC : champ A ks = C at next
    generalize hPS : ps ++ champPs A ks = PS at next
    refine (?H : ∀ (ks1 : List Rose) (vr1 : List Value) (A1 : Rose) (a2 e1 : Nat) (ds1 : List Value) (ps1 : List (List Nat × List Nat)) (S1 : List (Addr × Obj)) (m1 : Str → Option Value), RIns S1 ks1 vr1 → RIn S1 A1 (.ref a2) → PairsAt S1 ps1 ds1 → (∀ p ∈ S1, p.1 ≠ duels) → (∀ p ∈ S1, p.1 ≠ I) → (∀ p ∈ S, p ∈ S1) →
        (D, ({ cls := .type "list", data := .seq vr.toArray } : Obj)) ∈ S1 → A1.size + Rose.sizes ks1 < 60 → ds1.length + ks1.length < 90 → m1 (Str.ofString "best") = some (.ref a2) → m1 (Str.ofString "duels") = some (.ref duels) → (∀ y, y ≠ Str.ofString "best" → y ≠ Str.ofString "other" → m1 y = m y) →
        champ A1 ks1 = C → ps1 ++ champPs A1 ks1 = PS → ListRest _ _ _ _ _ _ _ _ _ _ I (D, ({ cls := .type "list", data := .seq vr.toArray } : Obj)) vr1 m1 ((duels, listOf ds1.toArray e1) :: S1))
      ks vr A a1 e ds ps ((D, ({ cls := .type "list", data := .seq vr.toArray } : Obj)) :: S) m (hks.mono LM) (hA.mono LM) (hps.mono LM) HDD hIa LM (.head _) hsz hds m2 m3 (fun _ _ _ => rfl) hC hPS
    intro ks1
    induction ks1 with
    | nil =>
      intro vr1 A1 a2 e1 ds1 ps1 S1 m1 hks1 hA1 hps1 hS1 hI1 hsub hlp hz1 hz2 mbe mdu mke hC1 hP1
      cases hks1
      refine ListRest.zero fun h tk F8 N8 => ?_
      have hC2 : A1 = C := hC1
      have hP2 : ps1 = PS := by simpa [champPs] using hP1
      subst hC2 hP2
      exact next a2 e1 ds1 S1 m1 h tk hsub hS1 hA1 hps1 mbe mke F8 N8
    | cons B ks2 ih =>
      intro vr1 A1 a2 e1 ds1 ps1 S1 m1 hks1 hA1 hps1 hS1 hI1 hsub hlp hz1 hz2 mbe mdu mke hC1 hP1
      cases hks1 with
      | @cons _ v _ vr2 hB hks2 =>
      obtain ⟨b2, rfl⟩ := hB.isRef
      refine ListRest.succ fun it h8 tk8 hit F8 N8 => ?_
      have hkA := kids_lt_size A1
      have hkB := kids_lt_size B
      simp only [Rose.sizes, List.length_cons] at hz1 hz2
      k_steps
      unfold Hold
      refine' ctr1_use (duel_R1 w A1 B (.ref a2) (.ref b2) duels ds1 e1 ((I, it) :: S1) (hA1.mono fun p hp => .tail _ hp) (hB.mono fun p hp => .tail _ hp) ?hs ?z1 ?z2 ?z3) ?k1 ?k2 ?k3 ?k4 ?k5 ?kK ?kd ?ku ?_
      case hs =>
        intro p hp
        rcases List.mem_cons.mp hp with rfl | hp
        · exact Nat.ne_of_gt id
        · exact hS1 p hp
      case z1 => omega
      case z2 => omega
      case z3 => omega
      case k1 => k_asm
      case k2 => k_asm
      case k3 => k_asm
      case k4 => exact news_sub (n2 := (duels, listOf ds1.toArray e1) :: (I, it) :: S1) N8 (fun p hp => by
        repeat (rcases List.mem_cons.mp hp with rfl | hp; · (repeat (first | exact List.Mem.head _ | refine List.Mem.tail _ ?_)))
        repeat (first | exact hp | refine List.Mem.tail _ ?_))
      case k5 => k_asm
      case kK => rfl
      case kd => decide
      case ku => decide
      intro r9 n9 h9 tk9 F9 N9 p9
      obtain ⟨R9, v9, e9, q9, s9, o9, i9, y9⟩ := p9
      obtain ⟨a9, j9⟩ := i9.isRef
      subst j9
      subst q9
      k_steps
      rename Fr _ _ _ _ => F7
      rename News _ _ _ _ => N7
      have hIR : (I, it) ∈ R9 := s9 _ (.head _)
      have al : Alien it := alien_cls hit (by decide) (by decide)
      have NR := news_sub (n2 := R9) N7 (fun p hp => .tail _ hp)
      have keep : ∀ p ∈ S1, p ∈ off I R9 := fun p hp => mem_off (s9 p (.tail _ hp)) (hI1 p hp)
      refine UnrEnd.intro F7 N7 ((duels, listOf (ds1 ++ [v9]).toArray e9) :: off I R9) ?s1 ?s2 ⟨.tail _ (keep _ hlp), ?s3⟩
      case s1 =>
        intro p hp
        rcases List.mem_cons.mp hp with rfl | hp
        · exact .tail _ hIR
        rcases List.mem_cons.mp hp with rfl | hp
        · exact .head _
        · exact .tail _ (off_mem hp).1
      case s2 =>
        intro p hp
        rcases List.mem_cons.mp hp with rfl | hp
        · exact Nat.ne_of_lt id
        · exact (off_mem hp).2
      case s3 =>
        refine ih vr2 (duelR A1 B) a9 e9 (ds1 ++ [v9]) (ps1 ++ [(A1.name, B.name)]) (off I R9) _ ((hks2.mono keep)) (RIn.off NR hIR al i9) ?p1 ?p2 ?p3 ?p4 (keep _ hlp) ?p5 ?p6 (if_pos rfl) ?p7 ?p8 hC1 ?p9
        case p1 => exact PairsAt.append (hps1.mono keep) ⟨PairAt.off NR hIR al y9, trivial⟩
        case p2 => exact fun p hp => o9 p (off_mem hp).1
        case p3 => exact fun p hp => (off_mem hp).2
        case p4 => exact fun p hp => keep p (hsub p hp)
        case p5 => rw [duelR_size]; omega
        case p6 => rw [List.length_append, List.length_singleton]; omega
        case p7 => exact (if_neg (by decide)).trans ((if_neg (by decide)).trans mdu)
        case p8 => exact fun y y1 y2 => (if_neg y1).trans ((if_neg y2).trans (mke y y1 y2))
        case p9 => rw [List.append_assoc]; exact hP1
end
section
open PySem PySem.W PySem.Calls PySem.Spec PyProof PyProof.Rows
local macro_rules | `(tactic| walk_at "idle 0") => `(tactic| fail)
local macro_rules | `(tactic| walk_at "call builtin:len") => `(tactic| (k_here; (with_reducible show wpAny _ _ (call (Value.builtin "len") [Value.ref _]) _ _ _); (refine' len_V ?l ?z ?_; (case l => kmk_list); (case z => omega))))
local macro_rules | `(tactic| k_all) => `(tactic| assumption)
theorem rest34 (w : World) (loose : List Str) (mean : ExcName → Option Value) (mg mb : Str → Option Value) (h₀ : Heap) (f : Nat) (cdv : Value) (s : Shared) (Q : Flow → Shared → Prop) (E : Value → Shared → Prop)
    (K0 : Below callerA h₀ [] h₀) (X : (KF w.params).In h₀) (T : Top viewQ loose mean mg mb h₀) (m : Str → Option Value) (rest : List (Addr × Obj))
    (duels counts ord b kl ed eo ec : Nat) (x : List Nat) (k : Tok) (ds ov cv : List Value) (hds : ds.length < 100) (hov : ov.length < 100) (hcv : cv.length < 100) (oO : Obj) (d1 : oO.data = .cell (some (.ref ord)))
    (m1 : m (Str.ofString "duels") = some (.ref duels)) (m2 : m (Str.ofString "best") = some (.ref b)) (m3 : m (Str.ofString "counts") = some (.ref counts))
    (F : Fr h₀ h₀.objs.size s.heap m) (N : News h₀ h₀.objs.size s.heap ((ord, listOf ov.toArray eo) :: (counts, listOf cv.toArray ec) :: (b, tupOf #[.str (S' x) k, .ref kl]) :: (duels, listOf ds.toArray ed) :: (h₀.objs.size + 1 + 1, oO) :: rest))
    (o1 : @Ne Nat ord counts) (o2 : @Ne Nat b ord) (o3 : @Ne Nat b counts) (o4 : @Ne Nat duels ord) (o5 : @Ne Nat duels counts) (o6 : @Ne Nat (h₀.objs.size + 1 + 1) ord) (o7 : @Ne Nat (h₀.objs.size + 1 + 1) counts) (r1 : ∀ p ∈ rest, p.1 ≠ ord) (r2 : ∀ p ∈ rest, p.1 ≠ counts)
    (next : ∀ (tc : Tok) (h' : Heap) (tk' : Nat), Fr h₀ h₀.objs.size h' m → News h₀ h₀.objs.size h' ((ord, listOf (ov ++ [Value.str (S' x) k]).toArray (eo + 1)) :: (counts, listOf (cv ++ [Value.int ds.length tc]).toArray (ec + 1)) :: (b, tupOf #[.str (S' x) k, .ref kl]) :: (duels, listOf ds.toArray ed) :: (h₀.objs.size + 1 + 1, oO) :: rest) →
      Q .next { s with heap := h', toks := tk' }) :
    BodyWp w h₀.objs.size f cdv 11 3 Q E s := by
  unfold BodyWp lawEnv at *
  revert K0 X
  k_fill
  intro K0 X
  have he := law_eqs (P := w.params) (by k_is)
  obtain ⟨e1, e2, e3⟩ := he
  unfold partOf at *
  simp only [e1, e2, e3] at next ⊢
  clear e1 e2 e3
  dsimp only [List.drop_succ_cons, List.drop_zero, List.getElem?_cons_succ, List.getElem?_cons_zero] at next ⊢
  k_steps
  refine' next _ _ _ ?F ?N
  case F => assumption
  case N => (rename News _ _ _ _ => N9); (try simp only [List.push_toArray] at N9); exact fun p hp => N9 p (by repeat (first | exact hp | refine List.Mem.tail _ ?_))
end
section
open PySem PySem.W PySem.Calls PySem.Spec PyProof PyProof.Rows
section
variable {prog : Program} {w : World} {A : Around} {E : Value → Shared → Prop} {s : Shared}
theorem ne_len {l b : Addr} {xs ys : List Value} {Q : Value → Shared → Prop} (hl : s.heap.IsList l xs.toArray) (hb : s.heap.IsList b ys.toArray) (hz : xs.length ≠ ys.length) (hu : A.units < cLine) (h : Q (.bool true) s) :
    wpAny (model prog w) A (compareOp .NotEq (.ref l) (.ref b)) Q E s :=
  cmp_ofNotEq (PySem.SeqAt.RcNeAt.lists_lengths hl hb (by simpa using hz) hu prog w E Q h)
theorem ne_nil {l b : Addr} {Q : Value → Shared → Prop} (hl : s.heap.IsList l ([] : List Value).toArray) (hb : s.heap.IsList b ([] : List Value).toArray) (hu : A.units < cLine) (h : Q (.bool false) s) :
    wpAny (model prog w) A (compareOp .NotEq (.ref l) (.ref b)) Q E s :=
  cmp_ofNotEq (PySem.SeqAt.RcNeAt.lists (e := fun _ => true) hl hb rfl hu (fun j h1 => absurd h1 (Nat.not_lt_zero j)) prog w E Q h)
end
/-- the test of the loop at the law's row i -/
noncomputable def testOf (i : Nat) : Expr := match ((bodyOf 15)[i]? : Option Stmt) with
  | some (.While t _ _ _) => t
  | _ => default
noncomputable def TestWp (w : World) (L f : Nat) (cd : Value) (i : Nat) (Q : Bool → Shared → Prop) (E : Value → Shared → Prop) (s : Shared) : Prop :=
  wpAny (model PySem.Challenge.rw_wa0035_01.row.prog w) (callerA.deeper (lawEnv L f cd)) (isTrue (testOf i) (lawEnv L f cd) (eval (testOf i) (lawEnv L f cd))) Q E s
theorem test_more (w : World) (loose : List Str) (mean : ExcName → Option Value) (mg mb : Str → Option Value) (h₀ : Heap) (f : Nat) (cdv : Value) (s : Shared) (Q : Bool → Shared → Prop) (E : Value → Shared → Prop)
    (K0 : Below callerA h₀ [] h₀) (X : (KF w.params).In h₀) (T : Top viewQ loose mean mg mb h₀) (m : Str → Option Value) (rest : List (Addr × Obj))
    (b kl ek : Nat) (x : List Nat) (k : Tok) (v1 : Value) (vr : List Value) (hvr : vr.length < 100)
    (m2 : m (Str.ofString "best") = some (.ref b))
    (F : Fr h₀ h₀.objs.size s.heap m) (N : News h₀ h₀.objs.size s.heap ((b, tupOf #[.str (S' x) k, .ref kl]) :: (kl, listOf (v1 :: vr).toArray ek) :: rest))
    (next : ∀ (h' : Heap) (tk' : Nat), Fr h₀ h₀.objs.size h' m → News h₀ h₀.objs.size h' ((b, tupOf #[.str (S' x) k, .ref kl]) :: (kl, listOf (v1 :: vr).toArray ek) :: rest) → Q true { s with heap := h', toks := tk' }) :
    TestWp w h₀.objs.size f cdv 11 Q E s := by
  unfold TestWp lawEnv at *
  revert K0 X
  k_fill
  intro K0 X
  have he := law_eqs (P := w.params) (by k_is)
  obtain ⟨e1, e2, e3⟩ := he
  unfold testOf at *
  simp only [e1, e2, e3] at next ⊢
  clear e1 e2 e3
  dsimp only [List.drop_succ_cons, List.drop_zero, List.getElem?_cons_succ, List.getElem?_cons_zero] at next ⊢
  k_steps
  rename News _ _ _ _ => N9
  refine ne_len (xs := v1 :: vr) (ys := []) ⟨_, (N9 _ (.tail _ (.tail _ (.head _)))).1, rfl, _, rfl⟩ ⟨_, (N9 _ (.head _)).1, rfl, _, rfl⟩ (by simp) (Nat.le_of_ble_eq_true rfl) ?_
  k_steps
  refine' next _ _ ?F ?N
  case F => assumption
  case N => (rename News _ _ _ _ => N9); (try simp only [List.push_toArray] at N9); exact fun p hp => N9 p (by repeat (first | exact hp | refine List.Mem.tail _ ?_))
theorem test_none (w : World) (loose : List Str) (mean : ExcName → Option Value) (mg mb : Str → Option Value) (h₀ : Heap) (f : Nat) (cdv : Value) (s : Shared) (Q : Bool → Shared → Prop) (E : Value → Shared → Prop)
    (K0 : Below callerA h₀ [] h₀) (X : (KF w.params).In h₀) (T : Top viewQ loose mean mg mb h₀) (m : Str → Option Value) (rest : List (Addr × Obj))
    (b kl ek : Nat) (x : List Nat) (k : Tok)
    (m2 : m (Str.ofString "best") = some (.ref b))
    (F : Fr h₀ h₀.objs.size s.heap m) (N : News h₀ h₀.objs.size s.heap ((b, tupOf #[.str (S' x) k, .ref kl]) :: (kl, listOf ([] : List Value).toArray ek) :: rest))
    (next : ∀ (h' : Heap) (tk' : Nat), Fr h₀ h₀.objs.size h' m → News h₀ h₀.objs.size h' ((b, tupOf #[.str (S' x) k, .ref kl]) :: (kl, listOf ([] : List Value).toArray ek) :: rest) → Q false { s with heap := h', toks := tk' }) :
    TestWp w h₀.objs.size f cdv 11 Q E s := by
  unfold TestWp lawEnv at *
  revert K0 X
  k_fill
  intro K0 X
  have he := law_eqs (P := w.params) (by k_is)
  obtain ⟨e1, e2, e3⟩ := he
  unfold testOf at *
  simp only [e1, e2, e3] at next ⊢
  clear e1 e2 e3
  dsimp only [List.drop_succ_cons, List.drop_zero, List.getElem?_cons_succ, List.getElem?_cons_zero] at next ⊢
  k_steps
  refine' next _ _ ?F ?N
  case F => assumption
  case N => (rename News _ _ _ _ => N9); (try simp only [List.push_toArray] at N9); exact fun p hp => N9 p (by repeat (first | exact hp | refine List.Mem.tail _ ?_))
end
section
open PySem PySem.W PySem.Calls PySem.Spec PyProof PyProof.Rows
/-- the ints of the counts -/
noncomputable def CntV : List Value → List Nat → Prop
  | [], [] => True
  | v :: vs, c :: cs => (∃ t, v = Value.int (c : Int) t) ∧ CntV vs cs
  | _, _ => False
theorem CntV.snoc {c : Nat} {t : Tok} : ∀ {vs : List Value} {cs : List Nat}, CntV vs cs → CntV (vs ++ [Value.int (c : Int) t]) (cs ++ [c])
  | [], [], _ => ⟨⟨t, rfl⟩, trivial⟩
  | _ :: _, _ :: _, ⟨a, b⟩ => ⟨a, CntV.snoc b⟩
  | [], _ :: _, h => h.elim
  | _ :: _, [], h => h.elim
theorem CntV.length : ∀ {vs : List Value} {cs : List Nat}, CntV vs cs → vs.length = cs.length
  | [], [], _ => rfl
  | _ :: _, _ :: _, ⟨_, b⟩ => congrArg (· + 1) (CntV.length b)
  | [], _ :: _, h => h.elim
  | _ :: _, [], h => h.elim
theorem alien_ord {ov : List Value} {os : List (List Nat)} {eo : Nat} (h : StrVals ov (os.map S')) (hn : os ≠ []) (he : eo + 1 = os.length) : Alien (listOf ov.toArray eo) := by
  match os, ov, h with
  | [], _, _ => exact absurd rfl hn
  | x :: os, v :: ov, ⟨⟨t, e⟩, h2⟩ =>
    subst e
    have : eo = ov.length := by
      have := h2.length
      rw [List.length_map] at this
      simp at he
      omega
    rw [this]
    exact alien_str
theorem alien_cnt {cv : List Value} {cs : List Nat} {ec : Nat} (h : CntV cv cs) (hn : cs ≠ []) : Alien (listOf cv.toArray ec) := by
  match cs, cv, h with
  | [], _, _ => exact absurd rfl hn
  | c :: cs, v :: cv, ⟨⟨t, e⟩, _⟩ =>
    subst e
    exact alien_int
theorem sq_step (n r : Nat) (h : r ≤ n) : n * n + r ≤ (n + 1) * (n + 1) := by
  have : (n + 1) * (n + 1) = n * n + 2 * n + 1 := by rw [Nat.add_mul, Nat.mul_add]; omega
  omega
/-- what stands at each turn of the while -/
inductive DInv (h₀ : Heap) (s : Shared) (S : List (Addr × Obj)) (ord counts duels : Nat) (os0 : List (List Nat)) (cs0 : List Nat) (ps0 : List (List Nat × List Nat)) (R0 : Rose) (m : Str → Option Value) (n : Nat) (s' : Shared) : Prop
  | mk (R : Rose) (b ed eo ec : Nat) (ps : List (List Nat × List Nat)) (ds ov cv : List Value) (os : List (List Nat)) (cs : List Nat) (S1 : List (Addr × Obj)) (m1 : Str → Option Value) (h1 : Heap) (tk1 : Nat)
      (e : s' = { s with heap := h1, toks := tk1 }) (hn : R.size ≤ n + 1) (hR : RIn S1 R (.ref b)) (hps : PairsAt S1 ps ds) (hsub : ∀ p ∈ S, p ∈ S1) (hy : (∀ p ∈ S1, p.1 ≠ ord) ∧ (∀ p ∈ S1, p.1 ≠ counts) ∧ (∀ p ∈ S1, p.1 ≠ duels))
      (hov : StrVals ov (os.map S') ∧ os ≠ [] ∧ eo + 1 = os.length) (hcv : CntV cv cs ∧ cs ≠ []) (hz : ds.length + R.size * R.size < 80 ∧ os.length + R.size < 80 ∧ cs.length + R.size < 80)
      (ht : os ++ laterO n R = os0 ++ laterO R0.size R0 ∧ cs ++ laterC n ps.length R = cs0 ++ laterC R0.size ps0.length R0 ∧ ps ++ laterP n R = ps0 ++ laterP R0.size R0)
      (hm : m1 (Str.ofString "duels") = some (.ref duels) ∧ m1 (Str.ofString "best") = some (.ref b) ∧ m1 (Str.ofString "counts") = some (.ref counts) ∧ ∀ y, y ≠ Str.ofString "best" → y ≠ Str.ofString "other" → y ≠ Str.ofString "others" → m1 y = m y)
      (hF : Fr h₀ h₀.objs.size h1 m1) (hN : News h₀ h₀.objs.size h1 ((ord, listOf ov.toArray eo) :: (counts, listOf cv.toArray ec) :: (duels, listOf ds.toArray ed) :: S1)) : DInv h₀ s S ord counts duels os0 cs0 ps0 R0 m n s'
theorem law_D (w : World) (loose : List Str) (mean : ExcName → Option Value) (mg mb : Str → Option Value) (h₀ : Heap) (f : Nat) (cdv : Value) (s : Shared) (Q : Flow → Shared → Prop) (E : Value → Shared → Prop)
    (K0 : Below callerA h₀ [] h₀) (X : (KF w.params).In h₀) (T : Top viewQ loose mean mg mb h₀) (m : Str → Option Value)
    (duels counts ord b0 ed0 eo0 ec0 : Nat) (R0 : Rose) (ps0 : List (List Nat × List Nat)) (ds0 ov0 cv0 : List Value) (os0 : List (List Nat)) (cs0 : List Nat) (S : List (Addr × Obj)) (oO : Obj) (d1 : oO.data = .cell (some (.ref ord))) (hoO : (h₀.objs.size + 1 + 1, oO) ∈ S)
    (hR : RIn S R0 (.ref b0)) (hps : PairsAt S ps0 ds0) (x1 : ∀ p ∈ S, p.1 ≠ ord) (x2 : ∀ p ∈ S, p.1 ≠ counts) (x3 : ∀ p ∈ S, p.1 ≠ duels) (x4 : @Ne Nat ord counts) (x5 : @Ne Nat duels ord) (x6 : @Ne Nat duels counts)
    (hov : StrVals ov0 (os0.map S')) (ho1 : os0 ≠ []) (ho2 : eo0 + 1 = os0.length) (hcv : CntV cv0 cs0) (hc1 : cs0 ≠ []) (z1 : ds0.length + R0.size * R0.size < 80) (z2 : os0.length + R0.size < 80) (z3 : cs0.length + R0.size < 80)
    (m1 : m (Str.ofString "duels") = some (.ref duels)) (m2 : m (Str.ofString "best") = some (.ref b0)) (m3 : m (Str.ofString "counts") = some (.ref counts))
    (F : Fr h₀ h₀.objs.size s.heap m) (N : News h₀ h₀.objs.size s.heap ((ord, listOf ov0.toArray eo0) :: (counts, listOf cv0.toArray ec0) :: (duels, listOf ds0.toArray ed0) :: S))
    (hE : PassesOwn (model PySem.Challenge.rw_wa0035_01.row.prog w) (callerA.deeper (lawEnv h₀.objs.size f cdv)) (lawEnv h₀.objs.size f cdv) E)
    (next : ∀ (ed eo ec : Nat) (ds ov cv : List Value) (S1 : List (Addr × Obj)) (m' : Str → Option Value) (h' : Heap) (tk' : Nat), (∀ p ∈ S, p ∈ S1) → (∀ p ∈ S1, p.1 ≠ ord) → (∀ p ∈ S1, p.1 ≠ counts) → (∀ p ∈ S1, p.1 ≠ duels) → PairsAt S1 (ps0 ++ laterP R0.size R0) ds →
      StrVals ov ((os0 ++ laterO R0.size R0).map S') → CntV cv (cs0 ++ laterC R0.size ps0.length R0) → (∀ y, y ≠ Str.ofString "best" → y ≠ Str.ofString "other" → y ≠ Str.ofString "others" → m' y = m y) → Fr h₀ h₀.objs.size h' m' →
      News h₀ h₀.objs.size h' ((ord, listOf ov.toArray eo) :: (counts, listOf cv.toArray ec) :: (duels, listOf ds.toArray ed) :: S1) →
      LawWp w h₀.objs.size f cdv 12 Q E { s with heap := h', toks := tk' }) :
    LawWp w h₀.objs.size f cdv 11 Q E s := by
  have h01 := rest01 w loose mean mg mb h₀ f cdv
  have h2 := rest2 w loose mean mg mb h₀ f cdv
  have h34 := rest34 w loose mean mg mb h₀ f cdv
  have htm := test_more w loose mean mg mb h₀ f cdv
  have htn := test_none w loose mean mg mb h₀ f cdv
  obtain ⟨pos, hb⟩ : ∃ pos, (bodyOf 15).drop 11 = Stmt.While (testOf 11) (partOf 11) [] pos :: (bodyOf 15).drop 12 := ⟨_, by with_unfolding_all rfl⟩
  unfold LawWp
  rw [hb]
  refine wpAny_execs_cons ?_
  refine While_inv (DInv h₀ s S ord counts duels os0 cs0 ps0 R0 m) R0.size ?start ?turn (hE := hE)
  case start => exact ⟨R0, b0, ed0, eo0, ec0, ps0, ds0, ov0, cv0, os0, cs0, S, m, s.heap, s.toks, rfl, Nat.le_succ _, hR, hps, fun _ h => h, ⟨x1, x2, x3⟩, ⟨hov, ho1, ho2⟩, ⟨hcv, hc1⟩, ⟨z1, z2, z3⟩, ⟨rfl, rfl, rfl⟩, ⟨m1, m2, m3, fun _ _ _ _ => rfl⟩, F, N⟩
  case turn =>
    rintro n s' ⟨R, b, ed, eo, ec, ps, ds, ov, cv, os, cs, S1, m1, hh, tk1, rfl, hn, hR1, hps1, hsub, ⟨y1, y2, y3⟩, ⟨q1, q2, q3⟩, ⟨q4, q5⟩, ⟨w1, w2, w3⟩, ⟨t1, t2, t3⟩, ⟨mm1, mm2, mm3, mm4⟩, F1, N1⟩
    cases hR1 with
    | @mk x k _ kl ek ks vs hb hkl hks =>
    have N2 : News h₀ h₀.objs.size hh ((b, tupOf #[.str (S' x) k, .ref kl]) :: (kl, listOf vs.toArray ek) :: (ord, listOf ov.toArray eo) :: (counts, listOf cv.toArray ec) :: (duels, listOf ds.toArray ed) :: S1) := fun p hp => by
      rcases List.mem_cons.mp hp with rfl | hp
      · exact N1 _ (.tail _ (.tail _ (.tail _ hb)))
      rcases List.mem_cons.mp hp with rfl | hp
      · exact N1 _ (.tail _ (.tail _ (.tail _ hkl)))
      · exact N1 p hp
    cases hks with
    | nil =>
      refine htn _ _ _ K0 X T m1 _ b kl ek x k mm2 F1 N2 fun h3 tk3 F3 N3 => ?_
      rw [if_neg (by decide)]
      have u1 : laterO n (.node x []) = [] := by cases n <;> rfl
      have u2 : laterC n ps.length (.node x []) = [] := by cases n <;> rfl
      have u3 : laterP n (.node x []) = [] := by cases n <;> rfl
      rw [u1, List.append_nil] at t1
      rw [u2, List.append_nil] at t2
      rw [u3, List.append_nil] at t3
      exact next ed eo ec ds ov cv S1 m1 h3 tk3 hsub y1 y2 y3 (t3 ▸ hps1) (t1 ▸ q1) (t2 ▸ q4) mm4 F3 (news_sub N3 fun p hp => .tail _ (.tail _ hp))
    | @cons r v rs vr hr hrs =>
      obtain ⟨a1, rfl⟩ := hr.isRef
      simp only [Rose.size, Rose.sizes] at hn w1 w2 w3
      have hp1 := size_pos r
      have hkl2 := kids_le_sizes rs
      have hvr : vr.length = rs.length := hrs.length
      obtain ⟨n, rfl⟩ : ∃ n', n = n' + 1 := ⟨n - 1, by omega⟩
      refine htm _ _ _ K0 X T m1 _ b kl ek x k (.ref a1) vr (by omega) mm2 F1 N2 fun h3 tk3 F3 N3 => ?_
      rw [if_pos rfl]
      refine h01 _ _ _ K0 X T m1 _ b kl a1 ek x k vr (by omega) mm2 F3 N3 fun h4 tk4 F4 N4 => ?_
      have hq : 2 * (r.size + Rose.sizes rs + 1) ≤ (r.size + Rose.sizes rs + 1) * (r.size + Rose.sizes rs + 1) := Nat.mul_le_mul_right _ (by omega)
      have sub1 : ∀ p ∈ S1, p ∈ (ord, listOf ov.toArray eo) :: (counts, listOf cv.toArray ec) :: S1 := fun p hp => .tail _ (.tail _ hp)
      refine h2 _ _ _ K0 X T _ duels kl a1 ed ek r rs vr ds ps ((ord, listOf ov.toArray eo) :: (counts, listOf cv.toArray ec) :: S1) (by omega) ?g1 ?g2 (sub1 _ hkl) (hr.mono sub1) (hrs.mono sub1) (hps1.mono sub1) ((setM_ne _ _ (by decide)).trans (setM_same _ _ _)) (setM_same _ _ _)
        ((setM_ne _ _ (by decide)).trans ((setM_ne _ _ (by decide)).trans mm1)) F4 (news_sub N4 fun p hp => ?g3) hE ?g4
      case g1 => omega
      case g2 =>
        intro p hp
        rcases List.mem_cons.mp hp with rfl | hp
        · exact Ne.symm x5
        rcases List.mem_cons.mp hp with rfl | hp
        · exact Ne.symm x6
        · exact y3 p hp
      case g3 =>
        repeat (rcases List.mem_cons.mp hp with rfl | hp; · (repeat (first | exact List.Mem.head _ | refine List.Mem.tail _ ?_)))
        repeat (first | exact hp | refine List.Mem.tail _ ?_)
      case g4 =>
      intro a' e' ds' SS2 m2' h5 tk5 hs2 hd2 hR2 hps2 mb2 mk2 F5 N5
      have NS := news_sub (n2 := SS2) N5 (fun p hp => .tail _ hp)
      have ao : Alien (listOf ov.toArray eo) := alien_ord q1 q2 q3
      have ac : Alien (listOf cv.toArray ec) := alien_cnt q4 q5
      have io : (ord, listOf ov.toArray eo) ∈ SS2 := hs2 _ (.head _)
      have ic : (counts, listOf cv.toArray ec) ∈ SS2 := hs2 _ (.tail _ (.head _))
      have ic2 : (counts, listOf cv.toArray ec) ∈ off ord SS2 := mem_off ic (Ne.symm x4)
      have NO := news_sub (n2 := off ord SS2) NS (fun p hp => (off_mem hp).1)
      have hR3 := RIn.off NO ic2 ac (RIn.off NS io ao hR2)
      have hps3 := PairsAt.off NO ic2 ac (PairsAt.off NS io ao hps2)
      have keep : ∀ p ∈ S1, p ∈ off counts (off ord SS2) := fun p hp => mem_off (mem_off (hs2 p (sub1 p hp)) (y1 p hp)) (y2 p hp)
      have hcs := champ_size rs r
      generalize hC : champ r rs = C at hR3 hcs
      cases hR3 with
      | @mk y ky _ kl2 ek2 kk vs2 hb2 hkl2' hks2 =>
      have c1 : @Ne Nat a' ord := (off_mem (off_mem hb2).1).2
      have c2 : @Ne Nat a' counts := (off_mem hb2).2
      have c3 := keep _ (hsub _ hoO)
      have hlen2 : ds'.length = (ps ++ champPs r rs).length := hps2.length
      rw [List.length_append, champPs_len] at hlen2
      have hlen3 : ds.length = ps.length := hps1.length
      have hlo := q1.length
      rw [List.length_map] at hlo
      have hlc := q4.length
      refine h34 _ _ _ K0 X T m2' (off counts (off ord SS2)) duels counts ord a' kl2 e' eo ec y ky ds' ov cv (by omega) (by omega) (by omega) oO d1 ((mk2 _ (by decide) (by decide)).trans ((setM_ne _ _ (by decide)).trans ((setM_ne _ _ (by decide)).trans mm1))) mb2
        ((mk2 _ (by decide) (by decide)).trans ((setM_ne _ _ (by decide)).trans ((setM_ne _ _ (by decide)).trans mm3))) F5 ?k1 x4 c1 c2 x5 x6 (y1 _ (hsub _ hoO)) (y2 _ (hsub _ hoO)) ?k2 ?k3 ?k4
      case k1 =>
        intro p hp
        rcases List.mem_cons.mp hp with rfl | hp
        · exact N5 _ (.tail _ io)
        rcases List.mem_cons.mp hp with rfl | hp
        · exact N5 _ (.tail _ ic)
        rcases List.mem_cons.mp hp with rfl | hp
        · exact N5 _ (.tail _ (off_mem (off_mem hb2).1).1)
        rcases List.mem_cons.mp hp with rfl | hp
        · exact N5 _ (.head _)
        rcases List.mem_cons.mp hp with rfl | hp
        · exact N5 _ (.tail _ (off_mem (off_mem c3).1).1)
        · exact N5 _ (.tail _ (off_mem (off_mem hp).1).1)
      case k2 => exact fun p hp => (off_mem (off_mem hp).1).2
      case k3 => exact fun p hp => (off_mem hp).2
      case k4 =>
        intro tc h6 tk6 F6 N6
        refine ⟨rfl, n, Nat.lt_succ_self _, Rose.node y kk, a', e', eo + 1, ec + 1, ps ++ champPs r rs, ds', ov ++ [Value.str (S' y) ky], cv ++ [Value.int ds'.length tc], os ++ [y], cs ++ [ps.length + rs.length], off counts (off ord SS2), m2', h6, tk6, rfl, ?j1,
          RIn.mk hb2 hkl2' hks2, hps3, fun p hp => keep p (hsub p hp), ⟨fun p hp => (off_mem (off_mem hp).1).2, fun p hp => (off_mem hp).2, fun p hp => hd2 p (off_mem (off_mem hp).1).1⟩, ⟨StrVals.snoc1 q1, by simp, by rw [List.length_append, List.length_singleton]; omega⟩, ⟨?j2, by simp⟩, ⟨?j3, ?j4, ?j5⟩, ⟨?j6, ?j7, ?j8⟩,
          ⟨(mk2 _ (by decide) (by decide)).trans ((setM_ne _ _ (by decide)).trans ((setM_ne _ _ (by decide)).trans mm1)), mb2, (mk2 _ (by decide) (by decide)).trans ((setM_ne _ _ (by decide)).trans ((setM_ne _ _ (by decide)).trans mm3)), fun z z1 z2 z3 => (mk2 z z1 z2).trans ((setM_ne _ _ z1).trans ((setM_ne _ _ z3).trans (mm4 z z1 z2 z3)))⟩, F6, news_sub N6 fun p hp => ?j9⟩
        case j1 => omega
        case j2 =>
          have : ps.length + rs.length = ds'.length := by omega
          rw [this]
          exact CntV.snoc q4
        case j3 =>
          rw [hcs]
          have := sq_step (r.size + Rose.sizes rs) rs.length (by omega)
          omega
        case j4 => rw [List.length_append, List.length_singleton, hcs]; omega
        case j5 => rw [List.length_append, List.length_singleton, hcs]; omega
        case j6 =>
          have : laterO (n + 1) (.node x (r :: rs)) = y :: laterO n (.node y kk) := by
            show (champ r rs).name :: laterO n (champ r rs) = _
            rw [hC]; rfl
          rw [this] at t1
          rw [List.append_assoc]
          exact t1
        case j7 =>
          have : laterC (n + 1) ps.length (.node x (r :: rs)) = (ps.length + rs.length) :: laterC n (ps.length + rs.length) (.node y kk) := by
            show _ :: laterC n (ps.length + rs.length) (champ r rs) = _
            rw [hC]
          rw [this] at t2
          rw [List.append_assoc, List.length_append, champPs_len]
          exact t2
        case j8 =>
          have : laterP (n + 1) (.node x (r :: rs)) = champPs r rs ++ laterP n (.node y kk) := by
            show champPs r rs ++ laterP n (champ r rs) = _
            rw [hC]
          rw [this] at t3
          rw [List.append_assoc]
          exact t3
        case j9 =>
          repeat (rcases List.mem_cons.mp hp with rfl | hp; · (repeat (first | exact List.Mem.head _ | refine List.Mem.tail _ ?_)))
          repeat (first | exact hp | refine List.Mem.tail _ ?_)
end
section
open PySem PySem.W PySem.Calls PySem.Spec PyProof PyProof.Rows
open LCg
/-- the tuples that a display over enumerate makes -/
noncomputable def EnumTups (B C D : Nat) (h : Heap) : Nat → List Value → List Value → Prop
  | _, [], [] => True
  | i, v :: vs, y :: ys => (∃ (a : Nat) (t : Tok), y = .ref a ∧ B ≤ a ∧ a ≠ C ∧ a ≠ D ∧ h.get? a = some (tupOf #[v, .int (i : Int) t])) ∧ EnumTups B C D h (i + 1) vs ys
  | _, _, _ => False
theorem EnumTups.mono {B C D : Nat} {h h' : Heap} (hk : ∀ b o, B ≤ b → b ≠ C → b ≠ D → h.get? b = some o → h'.get? b = some o) : ∀ {i : Nat} {vs ys : List Value}, EnumTups B C D h i vs ys → EnumTups B C D h' i vs ys
  | _, [], [], _ => trivial
  | _, _ :: _, _ :: _, ⟨⟨a, t, e, h1, h2, h3, h4⟩, r⟩ => ⟨⟨a, t, e, h1, h2, h3, hk _ _ h1 h2 h3 h4⟩, EnumTups.mono hk r⟩
  | _, [], _ :: _, h => h.elim
  | _, _ :: _, [], h => h.elim
theorem EnumTups.snoc {B C D : Nat} {h : Heap} {v y : Value} : ∀ {i : Nat} {vs ys : List Value}, EnumTups B C D h i vs ys → (∃ (a : Nat) (t : Tok), y = .ref a ∧ B ≤ a ∧ a ≠ C ∧ a ≠ D ∧ h.get? a = some (tupOf #[v, .int ((i + vs.length : Nat) : Int) t])) → EnumTups B C D h i (vs ++ [v]) (ys ++ [y])
  | i, [], [], _, hx => ⟨hx, trivial⟩
  | i, _ :: vs, _ :: ys, ⟨a, r⟩, hx => ⟨a, EnumTups.snoc r (by rw [List.length_cons] at hx; rw [show i + 1 + vs.length = i + (vs.length + 1) by omega]; exact hx)⟩
  | _, [], _ :: _, h, _ => h.elim
  | _, _ :: _, [], h, _ => h.elim
section
variable {prog : Program} {w : World} {A : Around} {E : Value → Shared → Prop} {s : Shared} {env : Env}
theorem tuple_names {a b : Str} {p1 p2 p3 : Pos} {k2 : Nat} {va vb : Value} {m : Str → Option Value} {Q : Value → Shared → Prop} (hk : env.scope.kind = .function) (ha : env.kindOf a = some .local) (hb : env.kindOf b = some .local)
    (hn : s.heap.Ns env.locals m) (hva : m a = some va) (hvb : m b = some vb) (da : (a == ("__debug__" : Str)) = false) (db : (b == ("__debug__" : Str)) = false)
    (h : Q (.ref s.heap.objs.size) { s with heap := s.heap.push (tupOf #[va, vb]) }) : wpAny (model prog w) A (eval (.Tuple [.Name a p1, .Name b p2] k2 p3) env) Q E s := by
  refine wpAny_Tuple ?_
  refine wpAny_items_cons ?_
  refine wpAny_Name (hd := da) ?_
  refine wpAny_loadName_local hk ha hn hva ?_
  refine wpAny_items_cons ?_
  refine wpAny_Name (hd := db) ?_
  refine wpAny_loadName_local hk hb hn hvb ?_
  refine wpAny_items_nil ?_
  exact ⟨by show 2 ≤ sizeLine; exact Nat.le_of_ble_eq_true rfl, h⟩
/-- a display of pairs (b, a) over an enumerate's pairs (a, b) -/
theorem enum_comp {iter : PySem.Expr} {a b : Str} {p1 p2 p3 p4 p5 p6 pos : Pos} {k1 k2 : Nat} {scope : Scope} {cl : List (Str × Addr)} {Q : Value → Shared → Prop} (hh : A.handled = none)
    (hclos : closureFor scope env = pure cl) (hcell : ∀ y ∈ scope.names, y.2 ≠ .cell) (hkind : scope.kind = .function)
    (hnames : ∀ y ∈ scope.names, y.2 = .local → scope.names.lookup y.1 = some .local) (hxa : scope.names.lookup a = some .local) (hxb : scope.names.lookup b = some .local) (hab : ¬ a = b)
    (da : (a == ("__debug__" : Str)) = false) (db : (b == ("__debug__" : Str)) = false)
    (h : wpAny (model prog w) A (eval iter env) (fun xv s₁ => ∃ (e it l : Nat) (items : Array Value), xv = .ref e ∧ IsEnum s₁.heap e it 0 .none ∧ s₁.heap.IsListIter it l 0 ∧ s₁.heap.IsList l items ∧ @Ne Nat e it ∧ @Ne Nat l e ∧ @Ne Nat l it ∧ items.size ≤ sizeLine ∧
      ∀ (D B C : Nat) (h' : Heap) (tk : Nat) (ys : List Value), EnumTups B C D h' 0 items.toList ys → h'.get? D = some (lst ys) → s₁.heap.objs.size ≤ D → s₁.heap.objs.size ≤ B → (∀ b o, b ≠ e → b ≠ it → s₁.heap.get? b = some o → h'.get? b = some o) →
        Q (.ref D) { s₁ with heap := h', toks := tk }) E s)
    (hs : ∀ x, foldedSetIterable iter env x = pure x := by intro _; rfl) :
    wpAny (model prog w) A (eval (.ListComp (.Tuple [.Name b p1, .Name a p2] k1 p3) [⟨.Tuple [.Name a p4, .Name b p5] k2 p6, iter, [], 0⟩] scope pos) env) Q E s := by
  rw [eval_ListComp]
  refine wpAny_comprehension_free (use := none) rfl hs hclos hkind hnames (wpAny_mono h (fun xv s₁ h₁ => ?_) fun _ _ e => e)
  obtain ⟨e, it, l, items, rfl, he, hit, hl, n1, n2, n3, hsz, fin⟩ := h₁
  refine wpAny_pyIter_enum he ?_
  refine wpAny_newObj_type (wpAny_newFunctionEnv hcell (by intro y hy; simp at hy) (fun h₁ hns₁ hsb₁ => ?_) hkind)
  dsimp only at hns₁ hsb₁ ⊢
  have he0 : e < s₁.heap.objs.size := Heap.lt_size he
  have hi0 : it < s₁.heap.objs.size := by obtain ⟨_, x, _⟩ := hit; exact Heap.lt_size x
  have hl0 : l < s₁.heap.objs.size := by obtain ⟨_, x, _⟩ := hl; exact Heap.lt_size x
  generalize hH2 : s₁.heap.push { cls := .type "list", dict := none, data := .seq ([] : List Value).toArray } = H2 at hns₁ hsb₁ ⊢
  have hC : H2.objs.size = s₁.heap.objs.size + 1 := by rw [← hH2, Heap.size_push]
  have old : ∀ b o, s₁.heap.get? b = some o → h₁.get? b = some o := fun b o x => hsb₁.extBut b o (by have h5 : @LT.lt Nat _ b s₁.heap.objs.size := Heap.lt_size x; show @Ne Nat _ _; omega) (Heap.get?_push_of_some _ (hH2 ▸ Heap.get?_push_of_some _ x))
  have hacc : h₁.get? s₁.heap.objs.size = some (lst []) := hsb₁.extBut _ _ (by show @Ne Nat _ _; omega) (Heap.get?_push_of_some _ (hH2 ▸ Heap.get?_push_size _ rfl))
  have W := WalksT.enumerate (prog := prog) (w := w) (A := A) hh e it l n1 n2 n3 items
  have st₁ : (∃ old, IsEnum h₁ e it ((0 : Nat) : Int) old) ∧ h₁.IsListIter it l 0 ∧ h₁.IsList l items := ⟨⟨_, old _ _ he⟩, hit.at fun o x => old _ _ x, hl.at fun o x => old _ _ x⟩
  generalize hB : s₁.heap.objs.size = B at hC hacc he0 hi0 hl0 ⊢
  generalize hCC : H2.objs.size = C at hC hns₁ ⊢
  have loop : ∀ s₃ : Shared, s₃ = { s₁ with heap := h₁, toks := s₁.toks + ([] : List (Str × Value)).length } →
      codeAny (model prog w) A (.compLoop (.ListComp (.Tuple [.Name b p1, .Name a p2] k1 p3) [⟨.Tuple [.Name a p4, .Name b p5] k2 p6, iter, [], 0⟩] scope pos) 0 (.ref e) (.ref B) (compEnvC scope cl C env))
        (compPost (model prog w) A E none Q (.ref B) C) s₃ := by
    rintro s₃ rfl
    refine kcp_loop
      (fun k s' => ∃ (h' : Heap) (tk i : Nat) (ys : List Value) (m' : Str → Option Value), s' = { s₁ with heap := h', toks := tk } ∧ i ≤ items.size ∧ k = items.size - i ∧ ys.length = i ∧
        ((∃ old, IsEnum h' e it (i : Int) old) ∧ h'.IsListIter it l i ∧ h'.IsList l items) ∧ h'.Ns C m' ∧ h'.get? B = some (lst ys) ∧ EnumTups B C B h' 0 (items.toList.take i) ys ∧
        (∀ b o, b ≠ e → b ≠ it → s₁.heap.get? b = some o → h'.get? b = some o)) ?_ items.size
      ⟨h₁, _, 0, [], _, rfl, Nat.zero_le _, rfl, rfl, st₁, hns₁, hacc, trivial, fun b o _ _ x => old b o x⟩
    rintro k s' ⟨h', tk, i, ys, m', rfl, hi, rfl, hyl, hst, hn', hD, ht, hkeep⟩
    by_cases hlt : i < items.size
    · refine W.item i _ _ _ hlt hst fun T vals h₂ tk₂ hPt hTs hT hMid hk₂ => ?_
      obtain ⟨t, x, hx, rfl⟩ := hPt
      have hap := W.apart i T h₂ hMid
      refine W.go _ _ _ i T _ _ _ hMid fun h₃ hst₃ hk₃ => ?_
      have up₃ : ∀ c o, c ≠ e → c ≠ it → h'.get? c = some o → h₃.get? c = some o := fun c o h1 h2 x => hk₃ c o (by simp [h1, h2]) (hk₂ c o (by simp [h1, h2]) x)
      have hT₃ : h₃.IsTuple T #[.int i t, x] := hT.at fun o y => hk₃ T o hap y
      have hCe : @Ne Nat C e := by omega
      have hCi : @Ne Nat C it := by omega
      have hBe : @Ne Nat B e := by omega
      have hBi : @Ne Nat B it := by omega
      refine kcp_assign (env := compEnvC scope cl C env) hh hT₃ (lookup_relabel_local hxa) (lookup_relabel_local hxb) (by simp [compEnvC, relabel, hkind]) (hn'.at' fun o y => up₃ _ o hCe hCi y) fun h₄ tk₄ hn₄ hs₄ => ?_
      have up₄ : ∀ c o, c ≠ e → c ≠ it → c ≠ C → h'.get? c = some o → h₄.get? c = some o := fun c o h1 h2 h3 x => hs₄ c o h3 (up₃ c o h1 h2 x)
      refine tuple_names (env := compEnvC scope cl C env) (by simp [compEnvC, relabel, hkind]) (lookup_relabel_local hxb) (lookup_relabel_local hxa) hn₄ (if_pos rfl) ((if_neg hab).trans (if_pos rfl)) db da ?_
      dsimp only
      have hD₄ := up₄ B _ hBe hBi (by show @Ne Nat _ _; omega) hD
      refine append_at (hsz := by show ys.toArray.size ≤ sizeLine; rw [List.size_toArray, hyl]; omega) (Heap.get?_push_of_some _ hD₄) fun h₆ hs₆ hD₆ => ?_
      have hB4 : B < h₄.objs.size := Heap.lt_size hD₄
      have hC4 : C < h₄.objs.size := hn₄.lt
      have up₆ : ∀ c o, c ≠ B → h₄.get? c = some o → h₆.get? c = some o := fun c o h1 x => hs₆.extBut c o h1 (Heap.get?_push_of_some _ x)
      refine ⟨items.size - (i + 1), by omega, h₆, tk₄, i + 1, ys ++ [.ref h₄.objs.size], _, rfl, hlt, rfl, by rw [List.length_append, List.length_singleton, hyl], ?_, hn₄.at' fun o y => up₆ C o (by show @Ne Nat _ _; omega) y, hD₆.trans (congrArg some (lst_snoc ys _)), ?_, fun b o h1 h2 x => ?_⟩
      · refine W.frame (i + 1) _ _ hst₃ fun c hc o y => up₆ c o ?_ (hs₄ c o ?_ y)
        · simp only [List.mem_cons, List.not_mem_nil, or_false] at hc
          rcases hc with h5 | h5 | h5 <;> rw [h5] <;> (show @Ne Nat _ _) <;> omega
        · simp only [List.mem_cons, List.not_mem_nil, or_false] at hc
          rcases hc with h5 | h5 | h5 <;> rw [h5] <;> (show @Ne Nat _ C) <;> omega
      · have hi' : i < items.toList.length := by rw [Array.length_toList]; exact hlt
        have hxi : items.toList[i] = x := by
          rw [Array.getElem_toList]
          have := Array.getElem?_eq_getElem hlt
          exact Option.some.inj (this.symm.trans hx)
        rw [List.take_succ_eq_append_getElem hi', hxi]
        refine EnumTups.snoc (ht.mono fun c o h1 h2 h3 y => up₆ c o h3 (up₄ c o (by show @Ne Nat _ _; omega) (by show @Ne Nat _ _; omega) h2 y)) ⟨_, t, rfl, by omega, by show @Ne Nat _ _; omega, by show @Ne Nat _ _; omega, ?_⟩
        rw [List.length_take, Nat.min_eq_left (by omega), Nat.zero_add]
        exact hs₆.extBut _ _ (by show @Ne Nat _ _; omega) (Heap.get?_push_size _ rfl)
      · have hb : @LT.lt Nat _ b s₁.heap.objs.size := Heap.lt_size x
        exact up₆ b o (by show @Ne Nat _ _; omega) (up₄ b o h1 h2 (by show @Ne Nat _ _; omega) (hkeep b o h1 h2 x))
    · have hin : i = items.size := Nat.le_antisymm hi (Nat.not_lt.mp hlt)
      subst hin
      rw [List.take_of_length_le (by rw [Array.length_toList]; exact Nat.le_refl _)] at ht
      refine W.done _ _ _ hst fun h₂ tk₂ hk₂ => ?_
      have up₂ : ∀ c o, c ≠ e → c ≠ it → h'.get? c = some o → h₂.get? c = some o := fun c o h1 h2 x => hk₂ c o (by simp [h1, h2]) x
      refine ⟨m', hn'.at' fun o y => up₂ C o (by show @Ne Nat _ _; omega) (by show @Ne Nat _ _; omega) y, fun h'' hs'' => ?_⟩
      refine fin B B C h'' _ ys (ht.mono fun c o h1 h2 h3 y => hs''.extBut c o h2 (up₂ c o (by show @Ne Nat _ _; omega) (by show @Ne Nat _ _; omega) y)) (hs''.extBut _ _ (by show @Ne Nat _ _; omega) (up₂ _ _ (by show @Ne Nat _ _; omega) (by show @Ne Nat _ _; omega) hD)) (by omega) (by omega) fun c o h1 h2 y => ?_
      have hc : @LT.lt Nat _ c s₁.heap.objs.size := Heap.lt_size y
      exact hs''.extBut c o (by show @Ne Nat _ _; omega) (up₂ c o h1 h2 (hkeep c o h1 h2 y))
  exact codeAny_compStart_list (loop _ rfl) (wpAny_pyIter_enum (old := _) st₁.1.choose_spec (loop _ rfl))
end
end
section
open PySem PySem.W PySem.Calls PySem.Spec PyProof PyProof.Rows
/-- the tree of questions, answered by the ranks, ends in R -/
noncomputable def GoodT (n : Nat) (rk : Nat → Nat) {α : Type} : KasT α → (α → Prop) → Prop
  | .ret a, R => R a
  | .ask i j k, R => i < n ∧ j < n ∧ i ≠ j ∧ GoodT n rk (k (decide (rk i < rk j))) R
theorem GoodT.mono {n : Nat} {rk : Nat → Nat} {α : Type} {R R' : α → Prop} (h : ∀ a, R a → R' a) : ∀ {t : KasT α}, GoodT n rk t R → GoodT n rk t R'
  | .ret _, x => h _ x
  | .ask _ _ _, ⟨a, b, c, d⟩ => ⟨a, b, c, GoodT.mono h d⟩
theorem GoodT.bind {n : Nat} {rk : Nat → Nat} {α β : Type} {f : α → KasT β} {R : β → Prop} : ∀ {t : KasT α}, GoodT n rk t (fun a => GoodT n rk (f a) R) → GoodT n rk (t.bind f) R
  | .ret _, x => x
  | .ask _ _ _, ⟨a, b, c, d⟩ => ⟨a, b, c, GoodT.bind d⟩
theorem GoodT.wp {n : Nat} {rk : Nat → Nat} {α : Type} {cmp : Nat → Nat → (Bool → Shared → Prop) → Shared → Prop} {R : α → Prop} {G : α → Shared → Prop} {P : Shared → Prop}
    (hc : ∀ i j C s, P s → i < n → j < n → i ≠ j → (∀ s', P s' → C (decide (rk i < rk j)) s') → cmp i j C s) (hG : ∀ a s, P s → R a → G a s) : ∀ {t : KasT α} {s : Shared}, P s → GoodT n rk t R → t.kasWp cmp G s
  | .ret a, s, hp, x => hG a s hp x
  | .ask i j k, s, hp, ⟨a, b, c, d⟩ => hc i j _ s hp a b c fun _ hp' => GoodT.wp hc hG (t := k _) hp' d
section
variable {n : Nat} {rk : Nat → Nat}
noncomputable def Vk (rk : Nat → Nat) (p : Array Nat) (i : Nat) : Nat := rk (p[i]?.getD 0)
noncomputable def Asc (rk : Nat → Nat) (p : Array Nat) (m : Nat) : Prop := ∀ i j, i < j → j < m → Vk rk p i < Vk rk p j
noncomputable def Desc (rk : Nat → Nat) (p : Array Nat) (m : Nat) : Prop := ∀ i j, i < j → j < m → Vk rk p j < Vk rk p i
noncomputable def Arr (n : Nat) (p : Array Nat) : Prop := p.toList.Perm (List.range n)
theorem Arr.size {p : Array Nat} (h : Arr n p) : p.size = n := by have := h.length_eq; simpa using this
theorem getD_opt (p : Array Nat) (i : Nat) : p.getD i 0 = p[i]?.getD 0 := by rw [Array.getD_eq_getD_getElem?]
theorem Arr.lt {p : Array Nat} (h : Arr n p) {i : Nat} (hi : i < n) : p[i]?.getD 0 < n := by
  have hs := h.size
  have hi' : i < p.size := by omega
  rw [Array.getElem?_eq_getElem hi']
  have : p[i] ∈ p.toList := by rw [Array.mem_toList_iff]; exact Array.getElem_mem hi'
  exact List.mem_range.mp (h.mem_iff.mp this)
theorem Arr.ne {p : Array Nat} (h : Arr n p) {i j : Nat} (hi : i < n) (hj : j < n) (hij : i ≠ j) : p[i]?.getD 0 ≠ p[j]?.getD 0 := by
  have hs := h.size
  have hi' : i < p.size := by omega
  have hj' : j < p.size := by omega
  rw [Array.getElem?_eq_getElem hi', Array.getElem?_eq_getElem hj']
  have nd : p.toList.Nodup := h.nodup_iff.mpr List.nodup_range
  intro e
  have e' : p.toList[i]'(by rw [Array.length_toList]; exact hi') = p.toList[j]'(by rw [Array.length_toList]; exact hj') := by
    rw [Array.getElem_toList, Array.getElem_toList]; exact e
  rcases Nat.lt_or_gt_of_ne hij with h1 | h1
  · exact (List.pairwise_iff_getElem.mp nd i j _ _ h1) e'
  · exact (List.pairwise_iff_getElem.mp nd j i _ _ h1) e'.symm
noncomputable def Inj (n : Nat) (rk : Nat → Nat) : Prop := ∀ i j, i < n → j < n → rk i = rk j → i = j
theorem Arr.vne {p : Array Nat} (hI : Inj n rk) (h : Arr n p) {i j : Nat} (hi : i < n) (hj : j < n) (hij : i ≠ j) : Vk rk p i ≠ Vk rk p j :=
  fun e => h.ne hi hj hij (hI _ _ (h.lt hi) (h.lt hj) e)
theorem GoodT.ask {p : Array Nat} {α : Type} {k : Bool → KasT α} {R : α → Prop} (h : Arr n p) {i j : Nat} (hi : i < n) (hj : j < n) (hij : i ≠ j) (x : GoodT n rk (k (decide (Vk rk p i < Vk rk p j))) R) : GoodT n rk (.ask (p.getD i 0) (p.getD j 0) k) R := by
  rw [getD_opt, getD_opt]
  exact ⟨h.lt hi, h.lt hj, h.ne hi hj hij, x⟩
theorem Asc.step {p : Array Nat} (hI : Inj n rk) (h : Arr n p) {m : Nat} (hm : m < n) (h1 : 1 ≤ m) (a : Asc rk p m) (x : ¬ Vk rk p m < Vk rk p (m - 1)) : Asc rk p (m + 1) := by
  intro i j hij hj
  have hne := h.vne hI hm (show m - 1 < n by omega) (by omega)
  by_cases hjm : j = m
  · subst hjm
    by_cases hi : i = j - 1
    · subst hi; omega
    · have := a i (j - 1) (by omega) (by omega); omega
  · exact a i j hij (by omega)
theorem Desc.step {p : Array Nat} {m : Nat} (h1 : 1 ≤ m) (a : Desc rk p m) (x : Vk rk p m < Vk rk p (m - 1)) : Desc rk p (m + 1) := by
  intro i j hij hj
  by_cases hjm : j = m
  · subst hjm
    by_cases hi : i = j - 1
    · subst hi; omega
    · have := a i (j - 1) (by omega) (by omega); omega
  · exact a i j hij (by omega)
theorem good_asc {p : Array Nat} (hI : Inj n rk) (h : Arr n p) {R : Nat → Prop} : ∀ (f a : Nat), 1 ≤ a → a + f ≤ n → Asc rk p a → (∀ m, a ≤ m → m ≤ a + f → Asc rk p m → (m < a + f → Vk rk p m < Vk rk p (m - 1)) → R m) → GoodT n rk (kas_asc p f a) R
  | 0, a, _, _, hs, hR => hR a (Nat.le_refl _) (Nat.le_refl _) hs (fun q => by omega)
  | f + 1, a, h1, hn, hs, hR => by
    refine GoodT.ask h (show a < n by omega) (by omega) (by omega) ?_
    by_cases hc : Vk rk p a < Vk rk p (a - 1)
    · rw [decide_eq_true hc, if_pos rfl]
      exact hR a (Nat.le_refl _) (by omega) hs fun _ => hc
    · rw [decide_eq_false hc, if_neg (by simp)]
      exact good_asc hI h f (a + 1) (by omega) (by omega) (hs.step hI h (by omega) h1 hc) fun m h2 h3 h4 h5 => hR m (by omega) (by omega) h4 fun q => h5 (by omega)
theorem good_desc {p : Array Nat} (hI : Inj n rk) (h : Arr n p) {R : Array Nat × Nat × Nat → Prop} : ∀ (f a : Nat), 1 ≤ a → a + f ≤ n → Desc rk p a → (∀ m, a ≤ m → m ≤ a + f → Desc rk p m → R (p, m, 0)) → GoodT n rk (kas_desc f p a 0) R
  | 0, a, _, _, hs, hR => hR a (Nat.le_refl _) (Nat.le_refl _) hs
  | f + 1, a, h1, hn, hs, hR => by
    refine GoodT.ask h (show a < n by omega) (by omega) (by omega) ?_
    by_cases hc : Vk rk p a < Vk rk p (a - 1)
    · rw [decide_eq_true hc, if_pos rfl, if_neg (by omega)]
      exact good_desc hI h f (a + 1) (by omega) (by omega) (hs.step h1 hc) fun m h2 h3 h4 => hR m (by omega) (by omega) h4
    · rw [decide_eq_false hc, if_neg (by simp)]
      refine GoodT.ask h (show a - 1 < n by omega) (by omega) (by omega) ?_
      have hne := h.vne hI (show a < n by omega) (show a - 1 < n by omega) (by omega)
      rw [decide_eq_true (show Vk rk p (a - 1) < Vk rk p a by omega), if_pos rfl]
      exact hR a (Nat.le_refl _) (by omega) hs
theorem Arr.rev {p : Array Nat} (h : Arr n p) (i j : Nat) : Arr n (kas_rev p i j) := by
  have : (kas_rev p i j).Perm p := mirror_perm ..
  exact (Array.perm_iff_toList_perm.mp this).trans h
theorem vk_rev {p : Array Nat} {m : Nat} (hm : m ≤ p.size) {i : Nat} (hi : i < m) : Vk rk (kas_rev p 0 m) i = Vk rk p (m - 1 - i) := by
  unfold Vk kas_rev
  rw [getElem?_mirror_all hm, if_pos ⟨Nat.zero_le _, hi⟩, Nat.zero_add]
theorem Desc.rev {p : Array Nat} {m : Nat} (hm : m ≤ p.size) (a : Desc rk p m) : Asc rk (kas_rev p 0 m) m := by
  intro i j hij hj
  rw [vk_rev hm (by omega), vk_rev hm hj]
  exact a _ _ (by omega) (by omega)
theorem good_tail {p : Array Nat} (hI : Inj n rk) (h : Arr n p) {R : Nat × Array Nat → Prop} {m : Nat} (h1 : 1 ≤ m) (hm : m ≤ n) (a : Desc rk p m) (hR : ∀ k q, 1 ≤ k → k ≤ n → Arr n q → Asc rk q k → R (k, q)) : GoodT n rk (kas_tail3 m n p) R := by
  unfold kas_tail3
  refine GoodT.bind ?_
  exact good_asc hI (h.rev 0 m) (n - m) m h1 (by omega) (a.rev (by rw [h.size]; exact hm)) fun k h2 h3 h4 _ => hR k _ (by omega) (by omega) (h.rev 0 m) h4
theorem good_count {p : Array Nat} (hI : Inj n rk) (h : Arr n p) (hn : 2 ≤ n) {R : Nat × Array Nat → Prop} (hR : ∀ k q, 1 ≤ k → k ≤ n → Arr n q → Asc rk q k → R (k, q)) : GoodT n rk (kas_count n p) R := by
  unfold kas_count
  refine GoodT.bind ?_
  refine good_asc hI h (n - 1) 1 (Nat.le_refl _) (by omega) (fun i j h1 h2 => by omega) fun m h1 h2 hs hl => ?_
  by_cases e1 : (m == n) = true
  · rw [if_pos e1]
    exact hR m p h1 (by omega) h hs
  · rw [if_neg e1]
    have hmn : m ≠ n := fun q => e1 (by rw [q]; exact beq_self_eq_true _)
    by_cases e2 : m > 1
    · rw [if_pos e2]
      refine GoodT.ask h (show 0 < n by omega) (show m - 1 < n by omega) (by omega) ?_
      rw [decide_eq_true (hs 0 (m - 1) (by omega) (by omega)), if_pos rfl]
      exact hR m p h1 (by omega) h hs
    · rw [if_neg e2]
      have hm1 : m = 1 := by omega
      subst hm1
      unfold kas_descPart
      refine GoodT.bind ?_
      have hd : Desc rk p 2 := Desc.step (Nat.le_refl 1) (fun i j q1 q2 => by omega) (hl (by omega))
      refine good_desc hI h (n - 2) 2 (by omega) (by omega) hd fun k h3 h4 h5 => ?_
      show GoodT n rk (if 0 > 0 then _ else kas_tail3 k n p) R
      rw [if_neg (by omega)]
      exact good_tail hI h (by omega) (by omega) h5 hR
theorem good_place {p : Array Nat} (hI : Inj n rk) (h : Arr n p) {k : Nat} (hk : k < n) (hs : Asc rk p k) {R : Nat → Prop} : ∀ (f l r : Nat), l ≤ r → r ≤ k → r - l ≤ f → (∀ i, i < l → Vk rk p i < Vk rk p k) → (∀ i, r ≤ i → i < k → Vk rk p k < Vk rk p i) →
    (∀ q, q ≤ k → (∀ i, i < q → Vk rk p i < Vk rk p k) → (∀ i, q ≤ i → i < k → Vk rk p k < Vk rk p i) → R q) → GoodT n rk (kas_place p k f l r) R
  | 0, l, r, h1, h2, h3, hl, hr, hR => by
    obtain rfl : l = r := by omega
    exact hR l h2 hl hr
  | f + 1, l, r, h1, h2, h3, hl, hr, hR => by
    unfold kas_place
    by_cases hlr : l ≥ r
    · rw [if_pos hlr]
      obtain rfl : l = r := by omega
      exact hR l h2 hl hr
    · rw [if_neg hlr]
      refine GoodT.ask h hk (show (l + r) / 2 < n by omega) (by omega) ?_
      have hne := h.vne hI hk (show (l + r) / 2 < n by omega) (by omega)
      by_cases hc : Vk rk p k < Vk rk p ((l + r) / 2)
      · rw [decide_eq_true hc, if_pos rfl]
        refine good_place hI h hk hs f l ((l + r) / 2) (by omega) (by omega) (by omega) hl (fun i q1 q2 => ?_) hR
        by_cases e : i = (l + r) / 2
        · rw [e]; exact hc
        · have := hs ((l + r) / 2) i (by omega) q2; omega
      · rw [decide_eq_false hc, if_neg (by simp)]
        refine good_place hI h hk hs f ((l + r) / 2 + 1) r (by omega) (by omega) (by omega) (fun i q1 => ?_) hr hR
        by_cases e : i = (l + r) / 2
        · rw [e]; omega
        · have := hs i ((l + r) / 2) (by omega) (by omega); omega
theorem vk_bubble {p : Array Nat} {k l : Nat} (hk : k < p.size) (hl : l ≤ k) (i : Nat) : Vk rk (bubble p k (k - l)) i = if i = l then Vk rk p k else if l < i ∧ i ≤ k then Vk rk p (i - 1) else Vk rk p i := by
  unfold Vk
  rw [getElem?_bubble hk _ (by omega), show k - (k - l) = l by omega]
  by_cases h1 : i = l
  · rw [if_pos h1, if_pos h1]
  · rw [if_neg h1, if_neg h1]
    by_cases h2 : l < i ∧ i ≤ k
    · rw [if_pos h2, if_pos h2]
    · rw [if_neg h2, if_neg h2]
theorem good_bin (hI : Inj n rk) {R : Array Nat → Prop} : ∀ (f k : Nat) (p : Array Nat), Arr n p → k + f = n → Asc rk p k → (∀ q, Arr n q → Asc rk q n → R q) → GoodT n rk (kas_bin f p k) R
  | 0, k, p, h, hk, hs, hR => by
    obtain rfl : k = n := by omega
    exact hR p h hs
  | f + 1, k, p, h, hk, hs, hR => by
    unfold kas_bin
    refine GoodT.bind ?_
    refine good_place hI h (by omega) hs k 0 k (Nat.zero_le _) (Nat.le_refl _) (by omega) (fun i q => by omega) (fun i q1 q2 => by omega) fun q hq hl hr => ?_
    refine good_bin hI f (k + 1) _ ?_ (by omega) ?_ hR
    · exact (Array.perm_iff_toList_perm.mp (bubble_perm ..)).trans h
    · have hks : k < p.size := by rw [h.size]; omega
      intro i j hij hj
      rw [vk_bubble hks hq, vk_bubble hks hq]
      by_cases a1 : i = q
      · rw [if_pos a1, if_neg (by omega), if_pos ⟨by omega, by omega⟩]
        exact hr _ (by omega) (by omega)
      · rw [if_neg a1]
        by_cases a2 : q < i ∧ i ≤ k
        · rw [if_pos a2, if_neg (by omega), if_pos ⟨by omega, by omega⟩]
          exact hs _ _ (by omega) (by omega)
        · rw [if_neg a2]
          have hi : i < q := by omega
          by_cases b1 : j = q
          · rw [if_pos b1]; exact hl i hi
          · rw [if_neg b1]
            by_cases b2 : q < j ∧ j ≤ k
            · rw [if_pos b2]; exact hs _ _ (by omega) (by omega)
            · rw [if_neg b2]; exact hs _ _ hij (by omega)
/-- the sort's questions, answered by ranks that differ, put the things in order -/
theorem good_sort (hI : Inj n rk) (hn : 2 ≤ n) : GoodT n rk (kas_sort n) (fun p => Arr n p ∧ Asc rk p n) := by
  unfold kas_sort
  refine GoodT.bind ?_
  refine good_count hI (by unfold Arr; simp) hn fun k q h1 h2 h3 h4 => ?_
  show GoodT n rk (if k < n then kas_bin (n - max k 1) q (max k 1) else .ret q) _
  have hm : max k 1 = k := by omega
  rw [hm]
  by_cases hk : k < n
  · rw [if_pos hk]
    exact good_bin hI (n - k) k q h3 (by omega) h4 fun q a b => ⟨a, b⟩
  · rw [if_neg hk]
    obtain rfl : k = n := by omega
    exact ⟨h3, h4⟩
end
end
section
open PySem PySem.W PySem.Calls PySem.Spec PyProof PyProof.Rows
open LCg
/-- a pair of a name and a place, where it lies -/
structure TupV where
  a : Nat
  x : List Nat
  i : Nat
  t : Tok
  u : Tok
noncomputable def TupV.obj (p : TupV) : Obj := tupOf #[.str (S' p.x) p.t, .int (p.i : Int) p.u]
noncomputable def TupV.val (p : TupV) : Value := .ref p.a
noncomputable def rkL (l : List (List Nat)) (x : List Nat) : Nat := l.countP fun y => decide (y < x)
theorem rkL_le {x y : List Nat} (h : x < y) (l : List (List Nat)) : rkL l x ≤ rkL l y := by
  refine List.countP_mono_left fun z _ hz => ?_
  simp only [decide_eq_true_eq] at hz ⊢
  exact List.lt_trans hz h
theorem rkL_lt {x y : List Nat} (h : x < y) : ∀ (l : List (List Nat)), x ∈ l → rkL l x < rkL l y
  | [], hm => by cases hm
  | z :: l, hm => by
    have h1 := rkL_le h l
    unfold rkL at h1 ⊢
    rw [List.countP_cons, List.countP_cons]
    by_cases e : z = x
    · subst e
      rw [if_neg (by simp [List.lt_irrefl]), if_pos (by simpa using h)]
      omega
    · have ih := rkL_lt h l (by rcases List.mem_cons.mp hm with h' | h'; exact absurd h'.symm e; exact h')
      unfold rkL at ih
      by_cases q : z < x
      · rw [if_pos (by simpa using q), if_pos (by simpa using List.lt_trans q h)]; omega
      · rw [if_neg (by simpa using q)]; omega
theorem lt_tri {x y : List Nat} (h : ¬ x < y) (e : x ≠ y) : y < x := by
  by_cases q : y < x
  · exact q
  · exact absurd (List.le_antisymm (List.not_lt.mp q) (List.not_lt.mp h)) e
theorem rkL_iff {x y : List Nat} {l : List (List Nat)} (hx : x ∈ l) (hy : y ∈ l) : rkL l x < rkL l y ↔ x < y := by
  refine ⟨fun h => ?_, fun h => rkL_lt h l hx⟩
  by_cases q : x < y
  · exact q
  · by_cases e : x = y
    · subst e; omega
    · have : y < x := lt_tri q e
      have := rkL_lt this l hy
      omega
noncomputable def rkP (ps : List TupV) (i : Nat) : Nat := rkL (ps.map (·.x)) ((ps.map (·.x)).getD i [])
theorem rkP_lt {ps : List TupV} {i j : Nat} (hi : i < ps.length) (hj : j < ps.length) : rkP ps i < rkP ps j ↔ ps[i].x < ps[j].x := by
  unfold rkP
  have e : ∀ k (hk : k < ps.length), (ps.map (·.x)).getD k [] = ps[k].x := fun k hk => by simp [hk]
  rw [e i hi, e j hj]
  exact rkL_iff (List.mem_map.mpr ⟨_, List.getElem_mem hi, rfl⟩) (List.mem_map.mpr ⟨_, List.getElem_mem hj, rfl⟩)
theorem inj_rkP {ps : List TupV} (nd : (ps.map (·.x)).Nodup) : Inj ps.length (rkP ps) := by
  intro i j hi hj h
  by_cases hij : i = j
  · exact hij
  · exfalso
    have hne : ps[i].x ≠ ps[j].x := by
      have := List.pairwise_iff_getElem.mp nd
      rcases Nat.lt_or_gt_of_ne hij with q | q
      · have := this i j (by simpa) (by simpa) q; simpa using this
      · have := this j i (by simpa) (by simpa) q; intro e; exact this (by simpa using e.symm)
    by_cases q : ps[i].x < ps[j].x
    · have := (rkP_lt hi hj).mpr q; omega
    · have := (rkP_lt hj hi).mpr (lt_tri q hne); omega
section
variable {prog : Program} {w : World} {A : Around} {E : Value → Shared → Prop} {s : Shared}
theorem tups_kind {ps : List TupV} {Q : SortKind → Shared → Prop} (hp : ∀ p ∈ ps, s.heap.get? p.a = some p.obj) (hne : 0 < ps.length) (h : Q (tuples' true) s) : wpAny (model prog w) A (keyKind' (ps.map TupV.val).toArray) Q E s := by
  refine kat_kind (fs := ps.map fun p => Value.str (S' p.x) p.t) (T := .type "str") ?_ (by rw [List.length_map]; exact hne) ?_ (by decide) h
  · clear hne h
    induction ps with
    | nil => trivial
    | cons p r ih => exact ⟨⟨p.a, p.obj, _, _, rfl, hp p (.head _), rfl, rfl, rfl⟩, ih fun q hq => hp q (.tail _ hq)⟩
  · intro v hv
    obtain ⟨p, _, rfl⟩ := List.mem_map.mp hv
    exact .now
theorem tups_ask {ps : List TupV} {i j : Nat} {C : Bool → Shared → Prop} (hp : ∀ p ∈ ps, s.heap.get? p.a = some p.obj) (nd : (ps.map (·.x)).Nodup) (hi : i < ps.length) (hj : j < ps.length) (hij : i ≠ j) (h : C (decide (rkP ps i < rkP ps j)) s) :
    kas_ask prog w A (tuples' true) (ps.map TupV.val) i j C s := by
  unfold kas_ask
  have e : ∀ k (hk : k < ps.length), (ps.map TupV.val).getD k Value.none = .ref ps[k].a := fun k hk => by simp [hk, TupV.val]
  rw [e i hi, e j hj]
  refine kat_lt (hp _ (List.getElem_mem hi)) rfl (hp _ (List.getElem_mem hj)) rfl ?_
  refine kat_cons (wpAny_eqBool_str ?_)
  have hne : ¬ S' ps[i].x = S' ps[j].x := by
    intro q
    have q' : ps[i].x = ps[j].x := by
      have := congrArg (fun z : Str => z.cps.toList) q
      simpa [S'] using this
    have h1 : ¬ rkP ps i < rkP ps j := fun z => by have := (rkP_lt hi hj).mp z; rw [q'] at this; exact List.lt_irrefl _ this
    have h2 : ¬ rkP ps j < rkP ps i := fun z => by have := (rkP_lt hj hi).mp z; rw [q'] at this; exact List.lt_irrefl _ this
    exact hij (inj_rkP nd i j hi hj (by omega))
  rw [decide_eq_false hne]
  refine kat_no ?_
  refine oneLt_str ?_
  have : decide ((S' ps[i].x).cps.toList < (S' ps[j].x).cps.toList) = decide (rkP ps i < rkP ps j) := by
    apply decide_eq_decide.mpr
    rw [rkP_lt hi hj]
  rw [this]
  exact h
end
end
section
open PySem PySem.W PySem.Calls PySem.Spec PyProof PyProof.Rows
open LCg
/-- what the sort hands back, read off the places -/
theorem out_of {ps : List TupV} {p : Array Nat} (h1 : Arr ps.length p) (h2 : Asc (rkP ps) p ps.length) :
    ∃ qs : List TupV, (p.toList.map fun i => (ps.map TupV.val).getD i Value.none) = qs.map TupV.val ∧ qs.Perm ps ∧ qs.Pairwise (fun a b => a.x < b.x) := by
  have hlt : ∀ i ∈ p.toList, i < ps.length := fun i hi => List.mem_range.mp (h1.mem_iff.mp hi)
  have hl : p.toList.length = ps.length := by have := h1.size; simpa using this
  refine ⟨p.toList.filterMap fun i => ps[i]?, ?_, ?_, ?_⟩
  · clear h1 h2 hl
    generalize p.toList = l at hlt
    induction l with
    | nil => rfl
    | cons i l ih =>
      have hi := hlt i (.head _)
      rw [List.map_cons, List.filterMap_cons, List.getElem?_eq_getElem hi]
      simp only [List.map_cons]
      rw [ih fun k hk => hlt k (.tail _ hk)]
      congr 1
      simp [hi]
  · have : (p.toList.filterMap fun i => ps[i]?).Perm ((List.range ps.length).filterMap fun i => ps[i]?) := h1.filterMap _
    refine this.trans (List.Perm.of_eq ?_)
    clear this h2 h1 hlt hl
    induction ps with
    | nil => rfl
    | cons x r ih =>
      rw [List.length_cons, List.range_succ_eq_map, List.filterMap_cons, List.filterMap_map]
      show x :: (List.range r.length).filterMap (fun i => r[i]?) = x :: r
      rw [ih]
  · rw [List.pairwise_iff_getElem]
    have e : ∀ k (hk : k < (p.toList.filterMap fun i => ps[i]?).length), ∃ (h : k < p.toList.length) (h' : p.toList[k] < ps.length), (p.toList.filterMap fun i => ps[i]?)[k] = ps[p.toList[k]] := by
      clear h1 h2 hl
      generalize p.toList = l at hlt
      induction l with
      | nil => intro k hk; simp at hk
      | cons i l ih =>
        have hi := hlt i (.head _)
        have ec : (i :: l).filterMap (fun i => ps[i]?) = ps[i] :: l.filterMap (fun i => ps[i]?) := by rw [List.filterMap_cons, List.getElem?_eq_getElem hi]
        intro k hk
        match k with
        | 0 => exact ⟨by simp, hi, by simp [ec]⟩
        | k + 1 =>
          obtain ⟨a, b, c⟩ := ih (fun z hz => hlt z (.tail _ hz)) k (by rw [ec] at hk; simpa using hk)
          exact ⟨by simpa using a, b, by simp only [ec, List.getElem_cons_succ]; exact c⟩
    intro i j hi hj hij
    obtain ⟨a1, b1, c1⟩ := e i hi
    obtain ⟨a2, b2, c2⟩ := e j hj
    rw [c1, c2]
    have := h2 i j hij (by rw [← hl]; exact a2)
    unfold Vk at this
    have g : ∀ k (hk : k < p.toList.length), p[k]?.getD 0 = p.toList[k] := fun k hk => by
      have hk' : k < p.size := by simpa using hk
      rw [Array.getElem?_eq_getElem hk', Array.getElem_toList]; rfl
    rw [g i a1, g j a2] at this
    exact (rkP_lt b1 b2).mp this
section
variable {prog : Program} {w : World} {A : Around} {E : Value → Shared → Prop} {s : Shared}
theorem tup_sort_rev {a : Addr} {ps : List TupV} {n : Nat} {P : PySem.Fin → Shared → Prop} (ho : s.heap.get? a = some (seqObj "list" (ps.map TupV.val).toArray n))
    (hp : ∀ p ∈ ps, s.heap.get? p.a = some p.obj) (nd : (ps.map (·.x)).Nodup) (h2 : 2 ≤ ps.length) (h64 : ps.length < 64)
    (h : ∀ qs : List TupV, qs.Perm ps → qs.Pairwise (fun a b => b.x < a.x) → P (.done (.ret .none)) { s with heap := sortedHeap s.heap a (ps.map TupV.val) (qs.map TupV.val).toArray }) :
    wpAny (model prog w) A (Builtin.«list.sort» ⟨[.ref a], [(Str.ofString "reverse", .bool true)]⟩) P E s := by
  rw [list_sort_rev]
  have ha : a < s.heap.objs.size := Heap.lt_size ho
  have hne : ∀ p ∈ ps, p.a ≠ a := fun p hq e => by
    have := hp p hq
    rw [e, ho] at this
    have hc := congrArg (fun o : Option Obj => o.map (·.cls)) this
    simp [TupV.obj, tupOf, seqObj] at hc
  refine wpAny_bind (listItems_at ho rfl ?_)
  refine wpAny_bind (listUpdate_at ho rfl ?_ (by rw [List.size_toArray, List.length_map, sizeLine_eq]; omega) (Nat.zero_le _))
  obtain ⟨e1, ho1⟩ : ∃ e1, (s.heap.update a (Obj.mapSeq fun _ => #[])).get? a = some (seqObj "list" #[] e1) := ⟨_, get?_update_seq ho (fun _ => #[])⟩
  refine wpAny_bind (seqEpoch_at ho1 rfl ?_)
  refine wpAny_bind (wpAny_newTuple ?_ (by show (ps.map TupV.val).length ≤ _; rw [List.length_map, sizeLine_eq]; omega))
  refine wpAny_bind (wpAny_newList ?_ (Nat.zero_le _))
  refine wpAny_holding ?_
  have ho6 : (((s.heap.update a (Obj.mapSeq fun _ => #[])).push (seqObj "tuple" (ps.map TupV.val).toArray 0)).push (seqObj "list" #[] 0)).get? a = some (seqObj "list" #[] e1) := by
    rw [Heap.get?_push_ne _ _ _ (by rw [size_push', Heap.size_update]; exact Nat.ne_of_lt (Nat.lt_succ_of_lt ha)), Heap.get?_push_ne _ _ _ (by rw [Heap.size_update]; exact Nat.ne_of_lt ha)]
    exact ho1
  have hp6 : ∀ p ∈ ps, (((s.heap.update a (Obj.mapSeq fun _ => #[])).push (seqObj "tuple" (ps.map TupV.val).toArray 0)).push (seqObj "list" #[] 0)).get? p.a = some p.obj := fun p hq => by
    refine Heap.get?_push_of_some _ (Heap.get?_push_of_some _ ?_)
    rw [Heap.get?_update_ne _ _ _ _ (hne p hq)]
    exact hp p hq
  show wpAny (model prog w) A _ P E { s with heap := ((s.heap.update a (Obj.mapSeq fun _ => #[])).push (seqObj "tuple" (ps.map TupV.val).toArray 0)).push (seqObj "list" #[] 0) }
  dsimp only
  rw [if_pos rfl]
  refine wpAny_bind (wpAny_rule ?_)
  have hn2 : ¬ (ps.map TupV.val).toArray.size < 2 := by rw [List.size_toArray, List.length_map]; omega
  rw [if_neg hn2, if_neg hn2]
  refine wpAny_bind (tups_kind (s := { s with heap := ((s.heap.update a (Obj.mapSeq fun _ => #[])).push (seqObj "tuple" (ps.map TupV.val).toArray 0)).push (seqObj "list" #[] 0) }) hp6 (by omega) ?_)
  have hrev : (if true = true then ((ps.map TupV.val).toArray.zip (ps.map TupV.val).toArray).reverse else (ps.map TupV.val).toArray.zip (ps.map TupV.val).toArray) = (ps.reverse.map TupV.val).toArray.zip (ps.reverse.map TupV.val).toArray := by
    rw [if_pos rfl]
    apply Array.toList_inj.mp
    rw [Array.toList_reverse, Array.toList_zip, Array.toList_zip]
    simp only [List.map_reverse]
    rw [List.zip_eq_zipWith, List.zip_eq_zipWith, List.reverse_zipWith rfl]
  rw [hrev]
  have hlr : ps.reverse.length = ps.length := List.length_reverse
  have ndr : (ps.reverse.map (·.x)).Nodup := by rw [List.map_reverse]; exact (List.reverse_perm _).nodup_iff.mpr nd
  have hpr : ∀ p ∈ ps.reverse, (((s.heap.update a (Obj.mapSeq fun _ => #[])).push (seqObj "tuple" (ps.map TupV.val).toArray 0)).push (seqObj "list" #[] 0)).get? p.a = some p.obj := fun p hq => hp6 p (List.mem_reverse.mp hq)
  have gs := good_sort (inj_rkP ndr) (show 2 ≤ ps.reverse.length by omega)
  have hask : (kas_sort (ps.reverse.map TupV.val).length).kasWp (kas_ask prog w A (tuples' true) (ps.reverse.map TupV.val)) (fun p s' => s' = { s with heap := ((s.heap.update a (Obj.mapSeq fun _ => #[])).push (seqObj "tuple" (ps.map TupV.val).toArray 0)).push (seqObj "list" #[] 0) } ∧ Arr ps.reverse.length p ∧ Asc (rkP ps.reverse) p ps.reverse.length)
      { s with heap := ((s.heap.update a (Obj.mapSeq fun _ => #[])).push (seqObj "tuple" (ps.map TupV.val).toArray 0)).push (seqObj "list" #[] 0) } := by
    rw [List.length_map]
    refine GoodT.wp (P := fun s' => s' = { s with heap := ((s.heap.update a (Obj.mapSeq fun _ => #[])).push (seqObj "tuple" (ps.map TupV.val).toArray 0)).push (seqObj "list" #[] 0) }) (fun i j C s' hs hi hj hij hC => ?_) (fun q s' hs hq => ⟨hs, hq⟩) rfl gs
    subst hs
    exact tups_ask (s := { s with heap := ((s.heap.update a (Obj.mapSeq fun _ => #[])).push (seqObj "tuple" (ps.map TupV.val).toArray 0)).push (seqObj "list" #[] 0) }) hpr ndr hi hj hij (hC _ rfl)
  refine wpAny_bind (wpAny_mono (kat_run (Q := fun st' s' => ∃ p : Array Nat, arrOf st' = p.map (kas_item ((ps.reverse.map TupV.val).toArray.zip (ps.reverse.map TupV.val).toArray)) ∧ failedOf st' = none ∧ s' = { s with heap := ((s.heap.update a (Obj.mapSeq fun _ => #[])).push (seqObj "tuple" (ps.map TupV.val).toArray 0)).push (seqObj "list" #[] 0) } ∧ Arr ps.reverse.length p ∧ Asc (rkP ps.reverse) p ps.reverse.length)
    rfl (by rw [List.length_map]; omega) (by rw [List.length_map]; omega) (fun p' st' s' a1 a2 a3 a4 => ⟨p', a2, a3, a4.1, a4.2.1, a4.2.2⟩) hask) ?_ fun _ _ e => e)
  rintro ⟨⟨⟩, st'⟩ s' ⟨p, har, hf, rfl, hA, hS⟩
  dsimp only at har hf ⊢
  have hout := kat_snds (vs := ps.reverse.map TupV.val) (ks := ps.reverse.map TupV.val) rfl har
  obtain ⟨qs, hq1, hq2, hq3⟩ := out_of hA hS
  rw [hq1] at hout
  rw [hout]
  refine wpAny_bind (seqEpoch_at ho6 rfl ?_)
  have hlen : qs.length = ps.length := by rw [hq2.length_eq, hlr]
  refine wpAny_bind (listUpdate_at ho6 rfl ?_ (Nat.zero_le _) (by
    rw [if_pos rfl, Array.size_reverse, List.size_toArray, List.length_map, hlen, sizeLine_eq]; omega))
  rw [hf]
  simp only [bne_self_eq_false, Bool.false_eq_true, if_false, if_true]
  refine wpAny_pure ?_
  have := h qs.reverse ((List.reverse_perm _).trans (hq2.trans (List.reverse_perm _))) (List.pairwise_reverse.mpr hq3)
  rw [List.map_reverse, ← List.reverse_toArray] at this
  exact this
theorem sorted_tups_rev {h₀ : Heap} {L : Addr} {m : Str → Option Value} {news : List (Addr × Obj)} {l : Addr} {ps : List TupV} {Q : Value → Shared → Prop}
    (F : Fr h₀ L s.heap m) (N : News h₀ L s.heap news) (hl : s.heap.IsList l (ps.map TupV.val).toArray) (hp : ∀ p ∈ ps, s.heap.get? p.a = some p.obj) (nd : (ps.map (·.x)).Nodup) (h2 : 2 ≤ ps.length) (h64 : ps.length < 64)
    (h : ∀ (D : Nat) (h' : Heap) (qs : List TupV) (e : Nat), qs.Perm ps → qs.Pairwise (fun a b => b.x < a.x) → Fr h₀ L h' m → News h₀ L h' ((D, listOf (qs.map TupV.val).toArray e) :: news) → (∀ p ∈ news, p.1 ≠ D) → Q (.ref D) { s with heap := h' }) :
    wpAny (model prog w) A (call (.builtin "sorted") [.ref l] [(Str.ofString "reverse", .bool true)]) Q E s := by
  refine call_function_entry_kw kind_sorted plain_sorted entry_sorted (args_sorted_rev _ _) ?_
  unfold Builtin.«sorted»
  refine wpAny_bind (m := checkCount "sorted" 1 1 _) (wpAny_pure ?_)
  refine wpAny_bind (collect_list hl ?_ (by rw [List.length_map, sizeLine_eq]; omega))
  refine wpAny_bind (wpAny_newList ?_ (by rw [List.length_map, sizeLine_eq]; omega))
  have hsz : ((s.heap.push (seqObj "list" #[] 0)).update s.heap.objs.size (Obj.mapSeq (· ++ (ps.map TupV.val).toArray))).objs.size = s.heap.objs.size + 1 := by
    rw [Heap.size_update, size_push']
  have hoL : (((s.heap.push (seqObj "list" #[] 0)).update s.heap.objs.size (Obj.mapSeq (· ++ (ps.map TupV.val).toArray))).push (seqObj "list" (ps.map TupV.val).toArray 0)).get? (s.heap.objs.size + 1) = some (seqObj "list" (ps.map TupV.val).toArray 0) := by
    rw [← hsz]; exact Heap.get?_push_size _ rfl
  have keep : ∀ b o, s.heap.get? b = some o → (((s.heap.push (seqObj "list" #[] 0)).update s.heap.objs.size (Obj.mapSeq (· ++ (ps.map TupV.val).toArray))).push (seqObj "list" (ps.map TupV.val).toArray 0)).get? b = some o := fun b o q => by
    have hlt : b < s.heap.objs.size := Heap.lt_size q
    rw [Heap.get?_push_ne _ _ _ (by rw [hsz]; exact Nat.ne_of_lt (Nat.lt_succ_of_lt hlt)), Heap.get?_update_ne _ _ _ _ (Nat.ne_of_lt hlt), Heap.get?_push_ne _ _ _ (Nat.ne_of_lt hlt)]
    exact q
  show wpAny _ _ _ _ _ { s with heap := ((s.heap.push (seqObj "list" #[] 0)).update s.heap.objs.size (Obj.mapSeq (· ++ (ps.map TupV.val).toArray))).push (seqObj "list" (ps.map TupV.val).toArray 0) }
  rw [hsz]
  refine wpAny_bind (wpAny_holding (wpAny_call_entry_kw slot_list_sort ⟨_, hoL, rfl⟩ entry_list_sort (tup_sort_rev hoL (fun p hq => keep _ _ (hp p hq)) nd h2 h64 fun qs a1 a2 => ⟨_, rfl, ?_⟩) (args_list_sort_rev _ _)))
  refine wpAny_pure ⟨_, rfl, ?_⟩
  obtain ⟨e, he⟩ := sortedAll_at s.heap (ps.map TupV.val) (qs.map TupV.val).toArray
  refine h _ _ qs e a1 a2 (F.kept fun _ _ => sortedAll_old) (N.kept_cons F (fun _ _ => sortedAll_old) (Nat.le_succ _) he) fun p hq => ?_
  have : p.1 < s.heap.objs.size := Heap.lt_size (N p hq).1
  exact Nat.ne_of_lt (Nat.lt_succ_of_lt this)
end
end
section
open PySem PySem.W PySem.Calls PySem.Spec PyProof PyProof.Rows
open LCg
noncomputable def TupV.key (p : TupV) : List Nat × Nat := (p.x, p.i)
theorem tups_of {B C D : Nat} {h : Heap} : ∀ {i : Nat} {xs : List (List Nat)} {vs ys : List Value}, StrVals vs (xs.map S') → EnumTups B C D h i vs ys →
    ∃ ps : List TupV, ys = ps.map TupV.val ∧ ps.map TupV.key = xs.zipIdx i ∧ ∀ p ∈ ps, h.get? p.a = some p.obj ∧ B ≤ p.a ∧ p.a ≠ D
  | _, [], [], [], _, _ => ⟨[], rfl, rfl, fun p hp => by cases hp⟩
  | i, x :: xs, v :: vs, y :: ys, ⟨⟨t, e⟩, hv⟩, ⟨⟨a, u, e2, h1, h2, h3, h4⟩, r⟩ => by
    obtain ⟨ps, q1, q2, q3⟩ := tups_of hv r
    subst e e2 q1
    refine ⟨⟨a, x, i, t, u⟩ :: ps, rfl, ?_, fun p hp => ?_⟩
    · rw [List.map_cons, List.zipIdx_cons, q2]; rfl
    · rcases List.mem_cons.mp hp with rfl | hp
      · exact ⟨h4, h1, h3⟩
      · exact q3 p hp
  | _, [], _ :: _, _, h, _ => h.elim
  | _, _ :: _, [], _, h, _ => h.elim
  | _, [], [], _ :: _, _, h => h.elim
  | _, _ :: _, _ :: _, [], _, h => h.elim
/-- the pairs, each at its place -/
noncomputable def TupV.at (p : TupV) : Addr × Obj := (p.a, p.obj)
theorem news_tups {h₀ h h' : Heap} {L : Addr} {m : Str → Option Value} {news : List (Addr × Obj)} {ps : List TupV} {D : Nat} {oD : Obj} (F : Fr h₀ L h m) (N : News h₀ L h news) (hk : ∀ b o, h.get? b = some o → h'.get? b = some o)
    (hp : ∀ p ∈ ps, h'.get? p.a = some p.obj ∧ h.objs.size ≤ p.a) (hD : h'.get? D = some oD) (hD2 : h.objs.size ≤ D) : News h₀ L h' ((D, oD) :: (ps.map TupV.at ++ news)) := by
  have fresh : ∀ a, h.objs.size ≤ a → a ≠ L ∧ h₀.get? a = none := fun a ha => by
    have hL : L < h.objs.size := F.ns.lt
    refine ⟨Nat.ne_of_gt (Nat.lt_of_lt_of_le hL ha), ?_⟩
    cases e : h₀.get? a with
    | none => rfl
    | some o => exact absurd (Heap.lt_size (F.keep a o e)) (Nat.not_lt.mpr ha)
  intro q hq
  rcases List.mem_cons.mp hq with rfl | hq
  · exact ⟨hD, fresh _ hD2⟩
  rcases List.mem_append.mp hq with hq | hq
  · obtain ⟨p, hp', rfl⟩ := List.mem_map.mp hq
    exact ⟨(hp p hp').1, fresh _ (hp p hp').2⟩
  · exact ⟨hk _ _ (N q hq).1, (N q hq).2⟩
theorem zipIdx_fst {α : Type} : ∀ (l : List α) (k : Nat), (l.zipIdx k).map (·.1) = l
  | [], _ => rfl
  | x :: l, k => by rw [List.zipIdx_cons, List.map_cons, zipIdx_fst l]
end
section
open PySem PySem.W PySem.Calls PySem.Spec PyProof PyProof.Rows
local macro_rules | `(tactic| walk_at "execs cons") => `(tactic| (k_here; (with_reducible show wpAny _ _ (execs (Stmt.If _ _ _ _ :: _) _) _ _ _); refine hold_intro ?_))
local macro_rules | `(tactic| walk_at "eval ListComp") => `(tactic| (k_here; k_dflt (refine' enum_comp ?c1 ?c2 ?c3 ?c4 ?c5 ?c6 ?c7 ?c8 ?c9 ?c10 ?_; (case c1 => rfl); (case c2 => rfl); (case c3 => decide); (case c4 => rfl); (case c5 => decide); (case c6 => rfl); (case c7 => rfl); (case c8 => decide); (case c9 => decide); (case c10 => decide))))
local macro_rules | `(tactic| walk_at "call type:enumerate") => `(tactic| (k_here; refine hold_intro ?_))
local macro_rules | `(tactic| walk_at "call builtin:sorted") => `(tactic| (k_here; refine hold_intro ?_))
theorem law_E (w : World) (loose : List Str) (mean : ExcName → Option Value) (mg mb : Str → Option Value) (h₀ : Heap) (f : Nat) (cdv : Value) (s : Shared) (Q : Flow → Shared → Prop) (E : Value → Shared → Prop)
    (K0 : Below callerA h₀ [] h₀) (X : (KF w.params).In h₀) (T : Top viewQ loose mean mg mb h₀) (m : Str → Option Value) (rest : List (Addr × Obj))
    (plain e2 : Nat) (v2 : List Value) (xs : List (List Nat)) (hv : StrVals v2 (xs.map S')) (hx : xs.Nodup) (h2 : 2 ≤ xs.length) (h64 : xs.length < 64)
    (m1 : m (Str.ofString "plain") = some (.ref plain))
    (F : Fr h₀ h₀.objs.size s.heap m) (N : News h₀ h₀.objs.size s.heap ((plain, listOf v2.toArray e2) :: rest))
    (next : ∀ (D e : Nat) (ps qs : List TupV) (h' : Heap) (tk' : Nat), ps.map TupV.key = xs.zipIdx → qs.Perm ps → qs.Pairwise (fun a b => b.x < a.x) → (∀ p ∈ ps.map TupV.at ++ rest, p.1 ≠ D) → (∀ p ∈ ps, ∀ q ∈ rest, p.a ≠ q.1) →
      Fr h₀ h₀.objs.size h' (setM m (Str.ofString "plain") (.ref D)) → News h₀ h₀.objs.size h' ((D, listOf (qs.map TupV.val).toArray e) :: (ps.map TupV.at ++ rest)) →
      LawWp w h₀.objs.size f cdv 13 Q E { s with heap := h', toks := tk' + 1 }) :
    LawWp w h₀.objs.size f cdv 12 Q E s := by
  unfold LawWp lawEnv at *
  revert K0 X
  k_fill
  intro K0 X
  have he := law_eqs (P := w.params) (by k_is)
  obtain ⟨e1, e2, e3⟩ := he
  simp only [e1, e2, e3] at next ⊢
  clear e1 e2 e3
  simp only [List.drop_succ_cons, List.drop_zero] at next ⊢
  k_steps
  unfold Hold
  have hl : s.heap.IsList plain v2.toArray := ⟨_, (N _ (.head _)).1, rfl, _, rfl⟩
  have hlv : v2.length = xs.length := by have := hv.length; rwa [List.length_map] at this
  have hpl : @LT.lt Nat _ plain s.heap.objs.size := Heap.lt_size (N _ (.head _)).1
  refine call_enumerate_list hl fun h1 hE1 hI1 hsz1 hk1 => ?_
  refine ⟨_, _, plain, v2.toArray, rfl, hE1, hI1, ⟨_, hk1 _ _ (N _ (.head _)).1, rfl, _, rfl⟩, by show @Ne Nat _ _; omega, by show @Ne Nat _ _; omega, by show @Ne Nat _ _; omega, by rw [List.size_toArray, sizeLine_eq]; omega, ?_⟩
  intro D B C h2' tk2 ys hET hD hB1 hB2 hkeep
  obtain ⟨ps, rfl, hps, hpp⟩ := tups_of hv hET
  dsimp only at hB1 hB2 hkeep
  have hk2 : ∀ b o, s.heap.get? b = some o → h2'.get? b = some o := fun b o e => hkeep b o (by have h5 : @LT.lt Nat _ b s.heap.objs.size := Heap.lt_size e; show @Ne Nat _ _; omega) (by have h5 : @LT.lt Nat _ b s.heap.objs.size := Heap.lt_size e; show @Ne Nat _ _; omega) (hk1 b o e)
  have F2 := F.keeps hk2
  have N2 := news_tups (D := D) F N hk2 (fun p hp => ⟨(hpp p hp).1, by have := (hpp p hp).2.1; omega⟩) hD (by omega)
  have hle : ∀ p ∈ ps, s.heap.objs.size ≤ p.a := fun p hp => by have := (hpp p hp).2.1; omega
  have hrl : ∀ q ∈ rest, @LT.lt Nat _ q.1 s.heap.objs.size := fun q hq => Heap.lt_size (N q (.tail _ hq)).1
  have hxp : ps.map (·.x) = xs := by
    have := congrArg (List.map (fun q : List Nat × Nat => q.1)) hps
    rw [zipIdx_fst, List.map_map] at this
    exact this
  have hpl2 : ps.length = xs.length := by rw [← hxp, List.length_map]
  clear F N hET hkeep hk1 hE1 hI1
  k_steps
  unfold Hold
  refine sorted_tups_rev F2 N2 ⟨_, hD, rfl, _, rfl⟩ (fun p hp => (hpp p hp).1) (by rw [hxp]; exact hx) (by omega) (by omega) fun D2 h3 qs e3 a1 a2 F3 N3 a3 => ?_
  clear F2 N2
  k_steps
  unfold Hold
  refine next D2 e3 ps qs _ _ hps a1 a2 ?x1 ?x2 ?x3 ?x4
  case x1 =>
    intro p hp
    refine a3 p ?_
    rcases List.mem_append.mp hp with hp | hp
    · exact .tail _ (List.mem_append_left _ hp)
    · exact .tail _ (List.mem_append_right _ (.tail _ hp))
  case x2 =>
    intro p hp q hq
    have u1 := hle p hp
    have u2 := hrl q hq
    show @Ne Nat _ _
    omega
  case x3 => assumption
  case x4 =>
    rename News _ _ _ _ => N8
    refine news_sub N8 fun p hp => ?_
    rcases List.mem_cons.mp hp with rfl | hp
    · exact .head _
    rcases List.mem_append.mp hp with hp | hp
    · exact .tail _ (.tail _ (List.mem_append_left _ hp))
    · exact .tail _ (.tail _ (List.mem_append_right _ (.tail _ hp)))
end
section
open PySem PySem.W PySem.Calls PySem.Spec PyProof PyProof.Rows
open PySem.Builtin PySem.Builtin.Str PySem.StrLaws
/-- the text without each backslash that c follows, and that c -/
noncomputable def del (c : Nat) : List Nat → List Nat
  | [] => []
  | [x] => [x]
  | x :: y :: r => if x = 92 ∧ y = c then del c r else x :: del c (y :: r)
theorem del_len (c : Nat) : ∀ l : List Nat, (del c l).length ≤ l.length
  | [] => Nat.le_refl _
  | [_] => Nat.le_refl _
  | x :: y :: r => by
    unfold del
    split
    · have := del_len c r; simp only [List.length_cons]; omega
    · have := del_len c (y :: r); simp only [List.length_cons] at this ⊢; omega
theorem del_cons {c x : Nat} {l : List Nat} (h : ¬ (x = 92 ∧ l[0]? = some c)) : del c (x :: l) = x :: del c l := by
  cases l with
  | nil => rfl
  | cons y r =>
    show (if x = 92 ∧ y = c then del c r else x :: del c (y :: r)) = _
    rw [if_neg (fun q => h ⟨q.1, by simp [q.2]⟩)]
theorem del_hit (c : Nat) (r : List Nat) : del c (92 :: c :: r) = del c r := if_pos ⟨rfl, rfl⟩
theorem del_pre {c : Nat} : ∀ (n : Nat) (l : List Nat), (∀ k, k < n → ¬ (l[k]? = some 92 ∧ l[k + 1]? = some c)) → del c l = l.take n ++ del c (l.drop n)
  | 0, l, _ => rfl
  | n + 1, [], _ => rfl
  | n + 1, x :: l, h => by
    rw [del_cons (fun q => h 0 (Nat.succ_pos _) ⟨by simp [q.1], by simpa using q.2⟩), List.take_succ_cons, List.drop_succ_cons, List.cons_append]
    rw [← del_pre n l fun k hk q => h (k + 1) (by omega) (by simpa using q)]
theorem at_iff {c : Nat} {X : List Nat} {i : Nat} : At (S' X) (S' [92, c]) X.length i ↔ X[i]? = some 92 ∧ X[i + 1]? = some c := by
  unfold At
  rw [subAt_eq]
  show i + 2 ≤ X.length ∧ ((X.drop i).take 2 == [92, c]) = true ↔ _
  rw [beq_iff_eq]
  constructor
  · rintro ⟨h1, h2⟩
    have a : ((X.drop i).take 2)[0]? = some 92 := by rw [h2]; rfl
    have b : ((X.drop i).take 2)[1]? = some c := by rw [h2]; rfl
    simp only [List.getElem?_take, List.getElem?_drop] at a b
    exact ⟨by simpa using a, by simpa using b⟩
  · rintro ⟨h1, h2⟩
    have l1 := (List.getElem?_eq_some_iff.mp h2).1
    refine ⟨by omega, ?_⟩
    have d : X.drop i = 92 :: c :: X.drop (i + 2) := by
      have g1 := (List.getElem?_eq_some_iff.mp h1)
      have g2 := (List.getElem?_eq_some_iff.mp h2)
      rw [List.drop_eq_getElem_cons g1.1, List.drop_eq_getElem_cons g2.1, g1.2, g2.2]
    rw [d]; rfl
theorem parts_del {c : Nat} {X : List Nat} : ∀ (cuts : List Nat) (a f : Nat), a ≤ X.length → ChainG (S' X) (S' [92, c]) X.length a cuts f → (∀ k, f ≤ k → ¬ At (S' X) (S' [92, c]) X.length k) →
    ((partsFrom (S' X) 2 a cuts).map fun p => p.cps.toList).flatten = del c (X.drop a)
  | [], a, f, ha, h, hn => by
    have e : f = a := h
    subst e
    have := del_pre (c := c) X.length (X.drop f) (fun k _ q => hn (f + k) (by omega) (at_iff.mpr (by simpa [List.getElem?_drop, Nat.add_assoc] using q)))
    have t1 : (X.drop f).take X.length = X.drop f := List.take_of_length_le (by rw [List.length_drop]; omega)
    have t2 : (X.drop f).drop X.length = [] := List.drop_of_length_le (by rw [List.length_drop]; omega)
    rw [this, t1, t2]
    show [(strSub (S' X) f X.length).cps.toList].flatten = _
    rw [strSub_toList]
    show [(X.drop f).take (X.length - f)].flatten = _
    rw [List.take_of_length_le (by rw [List.length_drop]; omega)]
    simp [del]
  | d :: r, a, f, ha, h, hn => by
    obtain ⟨h1, h2, h3, h4⟩ := h
    have g := at_iff.mp h2
    have l2 := (List.getElem?_eq_some_iff.mp g.2).1
    have ih := parts_del r (d + 2) f (by omega) h4 hn
    have p := del_pre (c := c) (d - a) (X.drop a) (fun k hk q => h3 (a + k) (by omega) (by omega) (at_iff.mpr (by simpa [List.getElem?_drop, Nat.add_assoc] using q)))
    rw [p, List.drop_drop, show a + (d - a) = d by omega]
    have dd : X.drop d = 92 :: c :: X.drop (d + 2) := by
      have g1 := (List.getElem?_eq_some_iff.mp g.1)
      have g2 := (List.getElem?_eq_some_iff.mp g.2)
      rw [List.drop_eq_getElem_cons g1.1, List.drop_eq_getElem_cons g2.1, g1.2, g2.2]
    rw [dd, del_hit, ← ih]
    show ((strSub (S' X) a d).cps.toList :: (partsFrom (S' X) 2 (d + 2) r).map fun p => p.cps.toList).flatten = _
    rw [List.flatten_cons, strSub_toList]
theorem glued_nil : ∀ (ps : List Str), (glued (S' []) ps).cps.toList = (ps.map fun p => p.cps.toList).flatten := by
  intro ps
  unfold glued
  cases ps with
  | nil => rfl
  | cons p r =>
    show (r.foldl (fun acc q => acc ++ (S' []).cps ++ q.cps) p.cps).toList = _
    have : ∀ (r : List Str) (acc : Array Nat), (r.foldl (fun acc q => acc ++ (S' []).cps ++ q.cps) acc).toList = acc.toList ++ (r.map fun p => p.cps.toList).flatten := by
      intro r
      induction r with
      | nil => intro acc; simp
      | cons q r ih => intro acc; rw [List.foldl_cons, ih]; simp [S']
    rw [this]; rfl
theorem rep_del (c : Nat) (X : List Nat) : Txt.replace (S' X) (S' [92, c]) (S' []) = S' (del c X) := by
  obtain ⟨f, h1, h2⟩ := occ_tight (S' X) (S' [92, c]) (by show 1 ≤ 2; omega)
  have hp := parts_del _ 0 f (Nat.zero_le _) h1 h2
  have e : (glued (S' []) (partsBetween (S' X) (occurrences (S' X) (S' [92, c]) 0 (S' X).length ((S' X).length + 1)) (S' [92, c]).length)) = S' (del c X) := by
    apply Str.ext'
    apply Array.toList_inj.mp
    rw [glued_nil, partsBetween_eq]
    exact hp
  unfold Txt.replace
  split
  · rename_i hc
    rw [← e]
    have hc' : (occurrences (S' X) (S' [92, c]) 0 (S' X).length ((S' X).length + 1)).isEmpty = true := by simpa [S', Str.length] using hc
    rw [List.isEmpty_iff.mp hc']
    rw [partsBetween_eq]
    apply Str.ext'
    apply Array.toList_inj.mp
    rw [glued_nil]
    show _ = [(strSub (S' X) 0 (S' X).length).cps.toList].flatten
    rw [strSub_toList]
    show X = [(X.drop 0).take (X.length - 0)].flatten
    simp
  · exact e
end
section
open PySem PySem.W PySem.Calls PySem.Spec PyProof PyProof.Rows
open LCg
section
variable {prog : Program} {w : World} {A : Around} {s : Shared} {h₀ : Heap} {L : Addr} {m : Str → Option Value} {env : Env}
theorem comp_end_mono {s₁ s₂ : Shared} {I C D : Addr} {oI oC oD : Obj} {S : List (Addr × Obj) → Prop} {r r' : Value → List (Addr × Obj) → Prop} {y : Value} (h : ∀ y n, r y n → r' y n) (x : CompEnd h₀ L m s₁ I oI C oC D oD S r y s₂) : CompEnd h₀ L m s₁ I oI C oC D oD S r' y s₂ := by
  obtain ⟨h', tk, n, a, b, c, d, e, f⟩ := x
  exact ⟨h', tk, n, a, b, c, d, e, h _ _ f⟩
/-- a display's turns, by a law that each turn keeps -/
theorem comp_ind {elt : PySem.Expr} {x : Str} {scope : Scope} {cl : List (Str × Addr)} {S : List (Addr × Obj) → Prop} {P : Nat → Value → Prop} {Fin : List Value → List (Addr × Obj) → Prop} (Cond : Nat → List Value → List (Addr × Obj) → Prop) (n : Nat)
    (hfin : ∀ ys news, Cond n ys news → Fin ys news)
    (hstep : ∀ i ys news, i < n → Cond i ys news → ∀ v I oI C oC D m₂ h tk (E' : Value → Shared → Prop), P i v → NsObj oC m₂ → m₂ x = some v → Fr h₀ L h m → News h₀ L h ((I, oI) :: (C, oC) :: (D, lst ys) :: news) → Off3 I C D news → ((@Ne Nat I C) ∧ (@Ne Nat I D) ∧ (@Ne Nat C D)) →
      wpAny (model prog w) A (eval elt (compEnvC scope cl C env)) (CompEnd h₀ L m { s with heap := h, toks := tk } I oI C oC D (lst ys) S (fun y news' => Cond (i + 1) (ys ++ [y]) news')) E' { s with heap := h, toks := tk }) :
    ∀ (k i : Nat) (ys : List Value) (news : List (Addr × Obj)), i + k = n → Cond i ys news → CompRest prog w A h₀ L m env elt x scope cl s S P Fin k i ys news
  | 0, i, ys, news, e, hc => by
    have : i = n := by omega
    subst this
    exact hfin ys news hc
  | k + 1, i, ys, news, e, hc => fun v I oI C oC D m₂ h tk E' hv h1 h2 h3 h4 h5 h6 =>
    wpAny_mono (hstep i ys news (by omega) hc v I oI C oC D m₂ h tk E' hv h1 h2 h3 h4 h5 h6)
      (fun y s' q => comp_end_mono (fun y' n' c => comp_ind Cond n hfin hstep k (i + 1) _ n' (by omega) c) q) fun _ _ q => q
end
end
section
open PySem PySem.W PySem.Calls PySem.Spec PyProof PyProof.Rows
open LCg LCt
section
variable {prog : Program} {w : World} {A : Around} {s : Shared} {h₀ : Heap} {L : Addr} {m : Str → Option Value} {env : Env}
/-- a display's turns where no item passes the test -/
theorem comp_none {ct elt : PySem.Expr} {x : Str} {scope : Scope} {cl : List (Str × Addr)} {S : List (Addr × Obj) → Prop} {P : Nat → Value → Prop} {Fin : List Value → List (Addr × Obj) → Prop} (Cond : Nat → List (Addr × Obj) → Prop) (n : Nat)
    (hfin : ∀ news, Cond n news → Fin [] news)
    (hstep : ∀ i news, i < n → Cond i news → ∀ v I oI C oC D m₂ h tk (E' : Value → Shared → Prop), P i v → NsObj oC m₂ → m₂ x = some v → Fr h₀ L h m → News h₀ L h ((I, oI) :: (C, oC) :: (D, lst []) :: news) → Off3 I C D news → ((@Ne Nat I C) ∧ (@Ne Nat I D) ∧ (@Ne Nat C D)) →
      wpAny (model prog w) A (isTrue ct (compEnvC scope cl C env) (eval ct (compEnvC scope cl C env))) (fun ok s' => ok = false ∧ CompEnd h₀ L m { s with heap := h, toks := tk } I oI C oC D (lst []) S (fun _ news' => Cond (i + 1) news') Value.none s') E' { s with heap := h, toks := tk }) :
    ∀ (k i : Nat) (news : List (Addr × Obj)), i + k = n → Cond i news → CompRestT prog w A h₀ L m env ct elt x scope cl s S P Fin k i [] news
  | 0, i, news, e, hc => by
    have : i = n := by omega
    subst this
    exact hfin news hc
  | k + 1, i, news, e, hc => fun v I oI C oC D m₂ h tk E' hv h1 h2 h3 h4 h5 h6 =>
    wpAny_mono (hstep i news (by omega) hc v I oI C oC D m₂ h tk E' hv h1 h2 h3 h4 h5 h6)
      (fun ok s' q => by
        obtain ⟨rfl, q⟩ := q
        rw [if_neg (by simp)]
        exact comp_end_mono (fun y' n' c => comp_none Cond n hfin hstep k (i + 1) n' (by omega) c) q) fun _ _ q => q
end
end
section
open PySem PySem.W PySem.Calls PySem.Spec PyProof PyProof.Rows
open LCg
noncomputable def TupV.str (p : TupV) : Value := .str (S' p.x) p.t
section
variable {prog : Program} {w : World} {A : Around} {E : Value → Shared → Prop} {s : Shared} {env : Env}
/-- the pairs' list -/
noncomputable def FstSrc (Q : Value → Shared → Prop) (xv : Value) (s₁ : Shared) : Prop := ∃ (l : Nat) (qs : List TupV), xv = .ref l ∧ s₁.heap.IsList l (qs.map TupV.val).toArray ∧ (∀ p ∈ qs, s₁.heap.get? p.a = some p.obj) ∧ qs.length ≤ 90 ∧
      ∀ (D : Nat) (h' : Heap) (tk : Nat), h'.get? D = some (lst (qs.map TupV.str)) → s₁.heap.objs.size ≤ D → (∀ b o, s₁.heap.get? b = some o → h'.get? b = some o) →
        Q (.ref D) { s₁ with heap := h', toks := tk }
/-- a display of the first of each pair -/
theorem fst_comp {iter : PySem.Expr} {a b : Str} {p1 p4 p5 p6 pos : Pos} {k2 : Nat} {scope : Scope} {cl : List (Str × Addr)} {Q : Value → Shared → Prop} (hh : A.handled = none)
    (hclos : closureFor scope env = pure cl) (hcell : ∀ y ∈ scope.names, y.2 ≠ .cell) (hkind : scope.kind = .function)
    (hnames : ∀ y ∈ scope.names, y.2 = .local → scope.names.lookup y.1 = some .local) (hxa : scope.names.lookup a = some .local) (hxb : scope.names.lookup b = some .local) (hab : ¬ a = b)
    (da : (a == ("__debug__" : Str)) = false)
    (h : wpAny (model prog w) A (eval iter env) (FstSrc Q) E s)
    (hs : ∀ x, foldedSetIterable iter env x = pure x := by intro _; rfl) :
    wpAny (model prog w) A (eval (.ListComp (.Name a p1) [⟨.Tuple [.Name a p4, .Name b p5] k2 p6, iter, [], 0⟩] scope pos) env) Q E s := by
  rw [eval_ListComp]
  refine wpAny_comprehension_free (use := none) rfl hs hclos hkind hnames (wpAny_mono h (fun xv s₁ h₁ => ?_) fun _ _ e => e)
  obtain ⟨l, qs, rfl, hl, hq, hsz, fin⟩ := h₁
  refine wpAny_pyIter_list hl ?_
  refine wpAny_newObj_type (wpAny_newFunctionEnv hcell (by intro y hy; simp at hy) (fun h₁ hns₁ hsb₁ => ?_) hkind)
  dsimp only at hns₁ hsb₁ ⊢
  have hl0 : l < s₁.heap.objs.size := by obtain ⟨_, x, _⟩ := hl; exact Heap.lt_size x
  generalize hH1 : s₁.heap.push { cls := .type "list_iterator", data := .fields #[.ref l, .int 0 0] } = H1 at hns₁ hsb₁ ⊢
  have hI : H1.objs.size = s₁.heap.objs.size + 1 := by rw [← hH1, Heap.size_push]
  generalize hH2 : H1.push { cls := .type "list", dict := none, data := .seq ([] : List Value).toArray } = H2 at hns₁ hsb₁ ⊢
  have hC : H2.objs.size = s₁.heap.objs.size + 2 := by rw [← hH2, Heap.size_push, hI]
  have old1 : ∀ b o, H1.get? b = some o → h₁.get? b = some o := fun b o x => hsb₁.extBut b o (by have h5 : @LT.lt Nat _ b H1.objs.size := Heap.lt_size x; show @Ne Nat _ _; omega) (Heap.get?_push_of_some _ (hH2 ▸ Heap.get?_push_of_some _ x))
  have old : ∀ b o, s₁.heap.get? b = some o → h₁.get? b = some o := fun b o x => old1 b o (hH1 ▸ Heap.get?_push_of_some _ x)
  have hacc : h₁.get? H1.objs.size = some (lst []) := hsb₁.extBut _ _ (by show @Ne Nat _ _; omega) (Heap.get?_push_of_some _ (hH2 ▸ Heap.get?_push_size _ rfl))
  have hit0 : h₁.IsListIter s₁.heap.objs.size l 0 := ⟨_, old1 _ _ (hH1 ▸ Heap.get?_push_size _ rfl), rfl, rfl⟩
  have W := Walks.list (prog := prog) (w := w) (A := A) hh s₁.heap.objs.size l (by show @Ne Nat _ _; omega) (qs.map TupV.val).toArray
  have st₁ : h₁.IsListIter s₁.heap.objs.size l 0 ∧ h₁.IsList l (qs.map TupV.val).toArray := ⟨hit0, hl.at fun o x => old _ _ x⟩
  generalize hB : s₁.heap.objs.size = B at hC hI hl0 W st₁ ⊢
  generalize hDD : H1.objs.size = D at hI hacc ⊢
  generalize hCC : H2.objs.size = C at hC hns₁ ⊢
  have loop : ∀ s₃ : Shared, s₃ = { s₁ with heap := h₁, toks := s₁.toks + ([] : List (Str × Value)).length } →
      codeAny (model prog w) A (.compLoop (.ListComp (.Name a p1) [⟨.Tuple [.Name a p4, .Name b p5] k2 p6, iter, [], 0⟩] scope pos) 0 (.ref B) (.ref D) (compEnvC scope cl C env))
        (compPost (model prog w) A E none Q (.ref D) C) s₃ := by
    rintro s₃ rfl
    refine kcp_loop
      (fun k s' => ∃ (h' : Heap) (tk i : Nat) (m' : Str → Option Value), s' = { s₁ with heap := h', toks := tk } ∧ i ≤ qs.length ∧ k = qs.length - i ∧
        (h'.IsListIter B l i ∧ h'.IsList l (qs.map TupV.val).toArray) ∧ h'.Ns C m' ∧ h'.get? D = some (lst ((qs.take i).map TupV.str)) ∧
        (∀ b o, s₁.heap.get? b = some o → h'.get? b = some o)) ?_ qs.length
      ⟨h₁, _, 0, _, rfl, Nat.zero_le _, rfl, st₁, hns₁, hacc, old⟩
    rintro k s' ⟨h', tk, i, m', rfl, hi, rfl, hst, hn', hD, hkeep⟩
    have hsl : (qs.map TupV.val).toArray.size = qs.length := by rw [List.size_toArray, List.length_map]
    by_cases hlt : i < qs.length
    · refine W.item i _ _ _ (by rw [hsl]; exact hlt) hst fun v h₂ tk₂ hPt hMid hk₂ => ?_
      have hv : v = .ref qs[i].a := by
        have : (qs.map TupV.val).toArray[i]? = some (.ref qs[i].a) := by simp [hlt, TupV.val]
        exact Option.some.inj (hPt.symm.trans this)
      subst hv
      refine wpAny_letOwnedTupleGo_listiter hMid.1 ?_
      have up₃ : ∀ c o, c ≠ B → h'.get? c = some o → h₂.get? c = some o := fun c o h1 x => hk₂ c o (by simp [h1]) x
      have hqa := hq _ (List.getElem_mem hlt)
      have hqlt : @LT.lt Nat _ qs[i].a s₁.heap.objs.size := Heap.lt_size hqa
      have hT₃ : h₂.IsTuple qs[i].a #[.str (S' qs[i].x) qs[i].t, .int (qs[i].i : Int) qs[i].u] := ⟨_, up₃ _ _ (by show @Ne Nat _ _; omega) (hkeep _ _ hqa), rfl, _, rfl⟩
      refine kcp_assign (env := compEnvC scope cl C env) hh hT₃ (lookup_relabel_local hxa) (lookup_relabel_local hxb) (by simp [compEnvC, relabel, hkind]) (hn'.at' fun o y => up₃ _ o (by show @Ne Nat C _; omega) y) fun h₄ tk₄ hn₄ hs₄ => ?_
      have up₄ : ∀ c o, c ≠ B → c ≠ C → h'.get? c = some o → h₄.get? c = some o := fun c o h1 h3 x => hs₄ c o h3 (up₃ c o h1 x)
      refine wpAny_Name (hd := da) ?_
      refine wpAny_loadName_local (env := compEnvC scope cl C env) (by simp [compEnvC, relabel, hkind]) (lookup_relabel_local hxa) hn₄ ((if_neg hab).trans (if_pos rfl)) ?_
      dsimp only
      have hD₄ := up₄ D _ (by show @Ne Nat _ _; omega) (by show @Ne Nat _ _; omega) hD
      refine append_at (hsz := by show ((qs.take i).map TupV.str).toArray.size ≤ sizeLine; rw [List.size_toArray, List.length_map, List.length_take, sizeLine_eq]; omega) hD₄ fun h₆ hs₆ hD₆ => ?_
      have up₆ : ∀ c o, c ≠ D → h₄.get? c = some o → h₆.get? c = some o := fun c o h1 x => hs₆.extBut c o h1 x
      refine ⟨qs.length - (i + 1), by omega, h₆, tk₄, i + 1, _, rfl, hlt, rfl, ?_, hn₄.at' fun o y => up₆ C o (by show @Ne Nat _ _; omega) y, (hD₆.trans (congrArg some (lst_snoc _ _))).trans ?_, fun b o x => ?_⟩
      · refine W.frame (i + 1) _ _ hMid fun c hc o y => up₆ c o ?_ (hs₄ c o ?_ y)
        · simp only [List.mem_cons, List.not_mem_nil, or_false] at hc
          rcases hc with h5 | h5 <;> rw [h5] <;> (show @Ne Nat _ _) <;> omega
        · simp only [List.mem_cons, List.not_mem_nil, or_false] at hc
          rcases hc with h5 | h5 <;> rw [h5] <;> (show @Ne Nat _ C) <;> omega
      · rw [List.take_succ_eq_append_getElem hlt, List.map_append]
        rfl
      · have hb : @LT.lt Nat _ b s₁.heap.objs.size := Heap.lt_size x
        exact up₆ b o (by show @Ne Nat _ _; omega) (up₄ b o (by show @Ne Nat _ _; omega) (by show @Ne Nat _ _; omega) (hkeep b o x))
    · have hin : i = qs.length := Nat.le_antisymm hi (Nat.not_lt.mp hlt)
      subst hin
      rw [List.take_length] at hD
      refine W.done _ _ _ (by rw [hsl]; exact hst) fun h₂ tk₂ hk₂ => ?_
      have up₂ : ∀ c o, c ≠ B → h'.get? c = some o → h₂.get? c = some o := fun c o h1 x => hk₂ c o (by simp [h1]) x
      refine ⟨m', hn'.at' fun o y => up₂ C o (by show @Ne Nat _ _; omega) y, fun h'' hs'' => ?_⟩
      refine fin D h'' _ (hs''.extBut _ _ (by show @Ne Nat _ _; omega) (up₂ _ _ (by show @Ne Nat _ _; omega) hD)) (by omega) fun c o y => ?_
      have hc : @LT.lt Nat _ c s₁.heap.objs.size := Heap.lt_size y
      exact hs''.extBut c o (by show @Ne Nat _ _; omega) (up₂ c o (by show @Ne Nat _ _; omega) (hkeep c o y))
  exact codeAny_compStart_list (loop _ rfl) (wpAny_pyIter_listiter st₁.1 (loop _ rfl))
end
end
section
open PySem PySem.W PySem.Calls PySem.Spec PyProof PyProof.Rows
open LCg
section
variable {prog : Program} {w : World} {A : Around} {E : Value → Shared → Prop} {s : Shared}
theorem StrVals.getE : ∀ {vs : List Value} {xs : List Str}, StrVals vs xs → ∀ (j : Nat) (h1 : j < vs.length) (h2 : j < xs.length), ∃ t, vs[j] = .str xs[j] t
  | _ :: _, _ :: _, ⟨a, _⟩, 0, _, _ => a
  | _ :: _, _ :: _, ⟨_, b⟩, j + 1, h1, h2 => StrVals.getE b j (Nat.lt_of_succ_lt_succ h1) (Nat.lt_of_succ_lt_succ h2)
  | [], _, _, _, h1, _ => absurd h1 (Nat.not_lt_zero _)
  | _ :: _, [], h, _, _, _ => h.elim
theorem ne_strs {l b : Addr} {us vs : List Value} {xs : List Str} {Q : Value → Shared → Prop} (hl : s.heap.IsList l us.toArray) (hb : s.heap.IsList b vs.toArray) (h1 : StrVals us xs) (h2 : StrVals vs xs) (hu : A.units < cLine) (h : Q (.bool false) s) :
    wpAny (model prog w) A (compareOp .NotEq (.ref l) (.ref b)) Q E s := by
  have l1 := h1.length
  have l2 := h2.length
  have hn : Q (.bool (!(List.range us.toArray.size).all fun _ => true)) s := by
    have : (!(List.range us.toArray.size).all fun _ => true) = false := by simp
    rw [this]; exact h
  refine cmp_ofNotEq (PySem.SeqAt.RcNeAt.lists (e := fun _ => true) hl hb (by simp only [List.size_toArray]; omega) hu (fun j q1 q2 => ?_) prog w E Q hn)
  obtain ⟨t, e⟩ := h1.getE j (by simpa using q1) (by rw [← l1]; simpa using q1)
  obtain ⟨u, f⟩ := h2.getE j (by simpa using q2) (by rw [← l2]; simpa using q2)
  have e' : us.toArray[j] = .str xs[j] t := by simpa using e
  have f' : vs.toArray[j] = .str xs[j] u := by simpa using f
  rw [e', f']
  have := PySem.SeqAt.EqAt.str_str (A := A.in1) (s := s) xs[j] t xs[j] u
  simpa using this
end
theorem strs_str : ∀ (qs : List TupV), StrVals (qs.map TupV.str) ((qs.map (·.x)).map S')
  | [] => trivial
  | p :: r => ⟨⟨p.t, rfl⟩, strs_str r⟩
local macro_rules | `(tactic| walk_at "execs cons") => `(tactic| (k_here; (with_reducible show wpAny _ _ (execs (Stmt.Assign _ _ _ :: _) _) _ _ _); refine hold_intro ?_))
local macro_rules | `(tactic| walk_at "eval ListComp") => `(tactic| (k_here; refine wpAny_with_toks (n := 1) (by assumption) ?_; k_dflt (refine' fst_comp ?c1 ?c2 ?c3 ?c4 ?c5 ?c6 ?c7 ?c8 ?c9 ?_; (case c1 => rfl); (case c2 => rfl); (case c3 => decide); (case c4 => rfl); (case c5 => decide); (case c6 => rfl); (case c7 => rfl); (case c8 => decide); (case c9 => decide))))
local macro_rules | `(tactic| walk_at "compareOp NotEq ref ref") => `(tactic| (k_here; refine hold_intro ?_))
theorem law_F (w : World) (loose : List Str) (mean : ExcName → Option Value) (mg mb : Str → Option Value) (h₀ : Heap) (f : Nat) (cdv : Value) (s : Shared) (Q : Flow → Shared → Prop) (E : Value → Shared → Prop)
    (K0 : Below callerA h₀ [] h₀) (X : (KF w.params).In h₀) (T : Top viewQ loose mean mg mb h₀) (m : Str → Option Value) (rest : List (Addr × Obj))
    (D e ord eo : Nat) (qs : List TupV) (ov : List Value) (oO : Obj) (d1 : oO.data = .cell (some (.ref ord))) (hov : StrVals ov ((qs.map (·.x)).map S')) (hq : ∀ p ∈ qs, p.at ∈ rest) (hlen : qs.length ≤ 90) (htk : 1 ≤ s.toks)
    (m1 : m (Str.ofString "plain") = some (.ref D))
    (F : Fr h₀ h₀.objs.size s.heap m) (N : News h₀ h₀.objs.size s.heap ((D, listOf (qs.map TupV.val).toArray e) :: (ord, listOf ov.toArray eo) :: (h₀.objs.size + 1 + 1, oO) :: rest))
    (next : ∀ (h' : Heap) (tk' : Nat), 1 ≤ tk' → Fr h₀ h₀.objs.size h' m → News h₀ h₀.objs.size h' ((D, listOf (qs.map TupV.val).toArray e) :: (ord, listOf ov.toArray eo) :: (h₀.objs.size + 1 + 1, oO) :: rest) →
      LawWp w h₀.objs.size f cdv 14 Q E { s with heap := h', toks := tk' }) :
    LawWp w h₀.objs.size f cdv 13 Q E s := by
  unfold LawWp lawEnv at *
  revert K0 X
  k_fill
  intro K0 X
  have he := law_eqs (P := w.params) (by k_is)
  obtain ⟨e1, e2, e3⟩ := he
  simp only [e1, e2, e3] at next ⊢
  clear e1 e2 e3
  simp only [List.drop_succ_cons, List.drop_zero] at next ⊢
  k_steps
  refine ⟨D, qs, rfl, ⟨_, (N _ (.head _)).1, rfl, _, rfl⟩, fun p hp => (N _ (.tail _ (.tail _ (.tail _ (hq p hp))))).1, hlen, ?_⟩
  intro D2 h2 tk2 hD2 hs2 hk2 htk2
  have F2 := F.keeps hk2
  have N2 := N.grown hk2
  clear F N
  try dsimp only
  k_steps
  unfold Hold
  refine ne_strs ⟨_, (N2 _ (.tail _ (.head _))).1, rfl, _, rfl⟩ ⟨_, hD2, rfl, _, rfl⟩ hov (strs_str qs) (Nat.le_of_ble_eq_true rfl) ?_
  k_steps
  unfold Hold
  refine' next _ _ htk2 ?F ?N
  case F => assumption
  case N => (rename News _ _ _ _ => N9); exact N9
end
section
open PySem PySem.W PySem.Calls PySem.Spec PyProof PyProof.Rows
local macro_rules | `(tactic| walk_at "execs cons") => `(tactic| (k_here; (with_reducible show wpAny _ _ (execs (Stmt.Assign [Expr.Name (Str.ofString "front") _] _ _ :: _) _) _ _ _); refine hold_intro ?_))
local macro_rules | `(tactic| walk_at "call builtin:str.replace") => `(tactic| (k_here; refine hold_intro ?_))
theorem law_G (w : World) (loose : List Str) (mean : ExcName → Option Value) (mg mb : Str → Option Value) (h₀ : Heap) (f : Nat) (cdv : Value) (s : Shared) (Q : Flow → Shared → Prop) (E : Value → Shared → Prop)
    (K0 : Below callerA h₀ [] h₀) (X : (KF w.params).In h₀) (T : Top viewQ loose mean mg mb h₀) (m : Str → Option Value) (rest : List (Addr × Obj))
    (X' : List Nat) (tt : Tok) (hX : X'.length < 900) (htk : 1 ≤ s.toks)
    (m1 : m (Str.ofString "text") = some (.str (S' X') tt))
    (F : Fr h₀ h₀.objs.size s.heap m) (N : News h₀ h₀.objs.size s.heap rest)
    (next : ∀ (t' : Tok) (h' : Heap) (tk' : Nat), Fr h₀ h₀.objs.size h' (setM m (Str.ofString "bare") (.str (S' (del 41 (del 40 X'))) t')) → News h₀ h₀.objs.size h' rest →
      LawWp w h₀.objs.size f cdv 15 Q E { s with heap := h', toks := tk' }) :
    LawWp w h₀.objs.size f cdv 14 Q E s := by
  unfold LawWp lawEnv at *
  revert K0 X
  k_fill
  intro K0 X
  have he := law_eqs (P := w.params) (by k_is)
  obtain ⟨e1, e2, e3⟩ := he
  simp only [e1, e2, e3] at next ⊢
  clear e1 e2 e3
  simp only [List.drop_succ_cons, List.drop_zero] at next ⊢
  have r1 : Txt.replace (S' X') (Str.ofString "\\(") (Str.ofString "") = S' (del 40 X') := by
    rw [str1 "\\(" [92, 40] (by decide +kernel), str1 "" [] (by decide +kernel)]; exact rep_del 40 X'
  have r2 : Txt.replace (S' (del 40 X')) (Str.ofString "\\)") (Str.ofString "") = S' (del 41 (del 40 X')) := by
    rw [str1 "\\)" [92, 41] (by decide +kernel), str1 "" [] (by decide +kernel)]; exact rep_del 41 _
  k_steps
  unfold Hold
  refine wpAny_with_toks (n := 1) (Nat.le_add_left 1 _) (SC.replaceW (Nat.ne_of_gt htk) (Nat.succ_ne_zero _) (Nat.ne_of_lt (Nat.lt_succ_self _)) (by decide +kernel) (by show X'.toArray.size ≤ _; rw [List.size_toArray]; omega) (by decide +kernel) fun t1 k1 hk1 => ?_)
  rw [r1]
  k_steps
  unfold Hold
  refine SC.replaceW (Nat.ne_of_gt hk1) (Nat.succ_ne_zero _) (Nat.ne_of_lt (Nat.lt_succ_self _)) (by decide +kernel) ?len (by decide +kernel) fun t2 k2 => ?_
  case len =>
    have := del_len 40 X'
    show (del 40 X').toArray.size ≤ _
    rw [List.size_toArray]; omega
  rw [r2]
  k_steps
  unfold Hold
  refine' next t2 _ _ ?F ?N
  case F => assumption
  case N => (rename News _ _ _ _ => N9); exact N9
end
section
open PySem PySem.W PySem.Calls PySem.Spec PyProof PyProof.Rows
local macro_rules | `(tactic| walk_at "idle 0") => `(tactic| fail)
local macro_rules | `(tactic| walk_at "execs cons") => `(tactic| (k_here; (with_reducible show wpAny _ _ (execs (Stmt.Assign [Expr.Name (Str.ofString "depth") _] _ _ :: _) _) _ _ _); refine hold_intro ?_))
local macro_rules | `(tactic| walk_at "call builtin:str.split") => `(tactic| (k_here; refine hold_intro ?_))
local macro_rules | `(tactic| walk_at "call builtin:str.index") => `(tactic| (k_here; refine hold_intro ?_))
/-- the item at a place -/
theorem item_at {prog : Program} {w : World} {A : Around} {E : Value → Shared → Prop} {s : Shared} {value slice : Expr} {l : Addr} {vs : List Value} {j : Int} {u : Tok} {v : Value} {Q : Value → Shared → Prop} (hl : s.heap.IsList l vs.toArray) (h0 : 0 ≤ j) (hv : vs[j.toNat]? = some v) (hz : vs.length < 4000)
    (h : Q v s)
    (hs : subscripted slice false (.ref l) (.int j u) = operate [.ref l, .int j u] (getItem (.ref l) (.int j u)) := by with_unfolding_all rfl) :
    wpAny (model prog w) A (subscriptTail value slice (.ref l) (.int j u)) Q E s := by
  have hlt : j.toNat < vs.length := (List.getElem?_eq_some_iff.mp hv).1
  exact tail_any hl.typeIs slot_list_getitem.lookup (wpAny_getItem_list hl h0 (by omega) (by rw [List.getElem?_toArray]; exact hv) h) hs
theorem tw_append {c : Nat} : ∀ {p : List Nat} (r : List Nat), c ∉ p → (p ++ c :: r).takeWhile (· != c) = p
  | [], r, _ => by rw [List.nil_append, List.takeWhile_cons]; simp
  | x :: p, r, h => by
    have hx : (x != c) = true := by simp only [bne_iff_ne]; exact fun e => h (e ▸ List.mem_cons_self ..)
    rw [List.cons_append, List.takeWhile_cons, if_pos hx, tw_append r fun m => h (.tail _ m)]
theorem tw_all {c : Nat} : ∀ {p : List Nat}, c ∉ p → p.takeWhile (· != c) = p
  | [], _ => rfl
  | x :: p, h => by
    have hx : (x != c) = true := by simp only [bne_iff_ne]; exact fun e => h (e ▸ List.mem_cons_self ..)
    rw [List.takeWhile_cons, if_pos hx, tw_all fun m => h (.tail _ m)]
theorem split_head {raw : List Nat} {l : List (Str × Tok)} (h : l.map (·.1) = Txt.split (S' raw) (Str.ofString "\\")) : (l.map (·.1))[0]? = some (S' (raw.takeWhile (· != 92))) := by
  have e : Str.ofString "\\" = (⟨#[92]⟩ : Str) := by decide +kernel
  rw [e] at h
  have h1 := StrLaws.split_free (S' raw) 92
  have h2 := StrLaws.join_split (S' raw) ⟨#[92]⟩
  have h3 : Txt.split (S' raw) ⟨#[92]⟩ ≠ [] := by
    unfold Txt.split
    split
    · simp
    · split
      · simp
      · rw [StrLaws.partsBetween_eq]
        obtain ⟨p, r, e⟩ := StrLaws.partsFrom_ne (S' raw) (⟨#[92]⟩ : Str).length 0 (Builtin.Str.occurrences (S' raw) ⟨#[92]⟩ 0 (S' raw).length ((S' raw).length + 1))
        rw [e]; simp
  rw [← h] at h1 h2 h3
  generalize l.map (·.1) = ps at h1 h2 h3 ⊢
  have hr : raw = (Str.join ⟨#[92]⟩ ps).cps.toList := by rw [h2]
  match ps with
  | [] => exact absurd rfl h3
  | [p] =>
    have hp : raw = p.cps.toList := hr
    rw [hp, tw_all (h1 p (.head _))]
    rfl
  | p :: q :: r =>
    have hp : raw = p.cps.toList ++ 92 :: (Str.join ⟨#[92]⟩ (q :: r)).cps.toList := by
      rw [hr]
      show (p ++ ⟨#[92]⟩ ++ Str.join ⟨#[92]⟩ (q :: r)).cps.toList = _
      simp only [Str.cps_append, Array.toList_append, List.append_assoc]
      rfl
    rw [hp, tw_append _ (h1 p (.head _))]
    rfl
theorem law_H (w : World) (loose : List Str) (mean : ExcName → Option Value) (mg mb : Str → Option Value) (h₀ : Heap) (f : Nat) (cdv : Value) (s : Shared) (Q : Flow → Shared → Prop) (E : Value → Shared → Prop)
    (K0 : Below callerA h₀ [] h₀) (X : (KF w.params).In h₀) (T : Top viewQ loose mean mg mb h₀) (m : Str → Option Value) (rest : List (Addr × Obj))
    (D e names e1 qa qi : Nat) (qx : List Nat) (qt qu tb : Tok) (vr v1 : List Value) (raws : List (List Nat)) (B : List Nat) (k : Nat) (rs : List Nat) (hB : B.length < 900) (hvr : vr.length < 90) (hv1 : StrVals v1 (raws.map S')) (hr : raws.length < 90) (raw : List Nat) (hraw : raws[qi]? = some raw) (hrl : raw.length < 90) (hk : k ≤ B.length)
    (ho : Builtin.Str.occurrences (S' B) (S' (raw.takeWhile (· != 92))) 0 B.length 1 = k :: rs)
    (m1 : m (Str.ofString "plain") = some (.ref D)) (m2 : m (Str.ofString "names") = some (.ref names)) (m3 : m (Str.ofString "bare") = some (.str (S' B) tb))
    (F : Fr h₀ h₀.objs.size s.heap m) (N : News h₀ h₀.objs.size s.heap ((D, listOf (Value.ref qa :: vr).toArray e) :: (qa, tupOf #[.str (S' qx) qt, .int (qi : Int) qu]) :: (names, listOf v1.toArray e1) :: rest))
    (next : ∀ (t' : Tok) (h' : Heap) (tk' : Nat), Fr h₀ h₀.objs.size h' (setM m (Str.ofString "front") (.str (S' (B.take k)) t')) → News h₀ h₀.objs.size h' ((D, listOf (Value.ref qa :: vr).toArray e) :: (qa, tupOf #[.str (S' qx) qt, .int (qi : Int) qu]) :: (names, listOf v1.toArray e1) :: rest) →
      LawWp w h₀.objs.size f cdv 16 Q E { s with heap := h', toks := tk' }) :
    LawWp w h₀.objs.size f cdv 15 Q E s := by
  unfold LawWp lawEnv at *
  revert K0 X
  k_fill
  intro K0 X
  have he := law_eqs (P := w.params) (by k_is)
  obtain ⟨e1, e2, e3⟩ := he
  simp only [e1, e2, e3] at next ⊢
  clear e1 e2 e3
  simp only [List.drop_succ_cons, List.drop_zero] at next ⊢
  obtain ⟨x9, t9, hx9, hy⟩ := hv1.get qi (by have := hv1.length; rw [List.length_map] at this; have := (List.getElem?_eq_some_iff.mp hraw).1; omega)
  have hx : x9 = raw := Option.some.inj (hx9.symm.trans hraw)
  subst hx
  have hl1 : v1.length < 4000 := by have := hv1.length; rw [List.length_map] at this; omega
  k_steps
  rename News _ _ _ _ => N8
  refine item_at ⟨_, (N8 _ (.tail _ (.tail _ (.head _)))).1, rfl, _, rfl⟩ (Int.natCast_nonneg _) (by rw [Int.toNat_natCast]; exact hy) hl1 ?_ (by with_unfolding_all rfl)
  k_steps
  unfold Hold
  rename News _ _ _ _ => N8
  rename Fr _ _ _ _ => F8
  refine KSpl.split1 F8 N8 (by rfl) (fun D2 l2 h2 k2 e2 _ F2 N2 lt2 => ?_) (by show x9.toArray.size + 2 ≤ sizeLine; rw [List.size_toArray, sizeLine_eq]; omega)
  have g2 := split_head e2
  clear F8 N8
  k_steps
  rename ((List.map (fun x => x.1) l2)[_]? = some _) => a9
  have hy9 := Option.some.inj (a9.symm.trans g2)
  subst hy9
  unfold Hold
  refine SC.index ho ?_
  have hsl : Txt.slice (S' B) none (some (k : Int)) = S' (B.take k) := sl_to B k (Int.natCast_nonneg _) (by omega)
  k_steps
  unfold Hold
  rename Fr _ _ _ _ => F9
  rename News _ _ _ _ => N9
  rw [hsl] at F9
  refine' next _ _ _ F9 (news_sub N9 fun p hp => .tail _ hp)
end
section
open PySem PySem.W PySem.Calls PySem.Spec PyProof PyProof.Rows
local macro_rules | `(tactic| walk_at "idle 0") => `(tactic| fail)
local macro_rules | `(tactic| walk_at "execs cons") => `(tactic| (k_here; (with_reducible show wpAny _ _ (execs (Stmt.If _ _ _ _ :: _) _) _ _ _); refine hold_intro ?_))
local macro_rules | `(tactic| walk_at "call builtin:str.count") => `(tactic| (k_here; refine hold_intro ?_))
theorem cnt_count (c : Nat) : ∀ l : List Nat, cnt c l = (l.count c : Int)
  | [] => rfl
  | n :: r => by
    rw [cnt_cons, cnt_count c r, List.count_cons]
    by_cases h : n = c
    · subst h; simp; omega
    · rw [if_neg h, if_neg (by simpa using h)]; simp
theorem txt_count (c : Nat) (l : List Nat) : Txt.count (S' l) (S' [c]) = (l.count c : Int) := (count_is (S' l) c).trans (cnt_count c l)
theorem law_I (w : World) (loose : List Str) (mean : ExcName → Option Value) (mg mb : Str → Option Value) (h₀ : Heap) (f : Nat) (cdv : Value) (s : Shared) (Q : Flow → Shared → Prop) (E : Value → Shared → Prop)
    (K0 : Below callerA h₀ [] h₀) (X : (KF w.params).In h₀) (T : Top viewQ loose mean mg mb h₀) (m : Str → Option Value) (rest : List (Addr × Obj))
    (B : List Nat) (tb : Tok) (hB : B.length < 900)
    (m3 : m (Str.ofString "front") = some (.str (S' B) tb))
    (F : Fr h₀ h₀.objs.size s.heap m) (N : News h₀ h₀.objs.size s.heap rest)
    (next : ∀ (t' : Tok) (h' : Heap) (tk' : Nat), Fr h₀ h₀.objs.size h' (setM m (Str.ofString "depth") (.int ((B.count 40 : Int) - (B.count 41 : Int) - 1) t')) → News h₀ h₀.objs.size h' rest →
      LawWp w h₀.objs.size f cdv 17 Q E { s with heap := h', toks := tk' }) :
    LawWp w h₀.objs.size f cdv 16 Q E s := by
  unfold LawWp lawEnv at *
  revert K0 X
  k_fill
  intro K0 X
  have he := law_eqs (P := w.params) (by k_is)
  obtain ⟨e1, e2, e3⟩ := he
  simp only [e1, e2, e3] at next ⊢
  clear e1 e2 e3
  simp only [List.drop_succ_cons, List.drop_zero] at next ⊢
  k_steps
  unfold Hold
  refine SC.count ?_
  k_steps
  unfold Hold
  refine SC.count ?_
  have q1 : Txt.count (S' B) (Str.ofString "(") = (B.count 40 : Int) := by rw [str1 "(" [40] (by decide +kernel)]; exact txt_count 40 B
  have q2 : Txt.count (S' B) (Str.ofString ")") = (B.count 41 : Int) := by rw [str1 ")" [41] (by decide +kernel)]; exact txt_count 41 B
  k_steps
  unfold Hold
  rename Fr _ _ _ _ => F9
  rename News _ _ _ _ => N9
  rw [q1, q2] at F9
  refine' next _ _ _ F9 N9
end
section
open PySem PySem.W PySem.Calls PySem.Spec PyProof PyProof.Rows
local macro_rules | `(tactic| walk_at "execs cons") => `(tactic| (k_here; (with_reducible show wpAny _ _ (execs (Stmt.Assign [Expr.Name (Str.ofString "met") _] _ _ :: _) _) _ _ _); refine hold_intro ?_))
theorem law_J (w : World) (loose : List Str) (mean : ExcName → Option Value) (mg mb : Str → Option Value) (h₀ : Heap) (f : Nat) (cdv : Value) (s : Shared) (Q : Flow → Shared → Prop) (E : Value → Shared → Prop)
    (K0 : Below callerA h₀ [] h₀) (X : (KF w.params).In h₀) (T : Top viewQ loose mean mg mb h₀) (m : Str → Option Value) (rest : List (Addr × Obj))
    (counts ec : Nat) (c0 c1 many dp : Int) (t0 t1 tm td : Tok) (cvr : List Value) (hcvr : cvr.length < 90) (h0 : c0 = many - 1) (h1 : c1 - c0 = dp - 1)
    (m1 : m (Str.ofString "counts") = some (.ref counts)) (m2 : m (Str.ofString "many") = some (.int many tm)) (m3 : m (Str.ofString "depth") = some (.int dp td))
    (F : Fr h₀ h₀.objs.size s.heap m) (N : News h₀ h₀.objs.size s.heap ((counts, listOf (Value.int c0 t0 :: Value.int c1 t1 :: cvr).toArray ec) :: rest))
    (next : ∀ (h' : Heap) (tk' : Nat), Fr h₀ h₀.objs.size h' m → News h₀ h₀.objs.size h' ((counts, listOf (Value.int c0 t0 :: Value.int c1 t1 :: cvr).toArray ec) :: rest) →
      LawWp w h₀.objs.size f cdv 18 Q E { s with heap := h', toks := tk' }) :
    LawWp w h₀.objs.size f cdv 17 Q E s := by
  unfold LawWp lawEnv at *
  revert K0 X
  k_fill
  intro K0 X
  have he := law_eqs (P := w.params) (by k_is)
  obtain ⟨e1, e2, e3⟩ := he
  simp only [e1, e2, e3] at next ⊢
  clear e1 e2 e3
  simp only [List.drop_succ_cons, List.drop_zero] at next ⊢
  k_steps
  all_goals (try w_report)
  unfold Hold
  rename Fr _ _ _ _ => F9
  rename News _ _ _ _ => N9
  refine' next _ _ F9 N9
end
section
open PySem PySem.W PySem.Calls PySem.Spec PyProof PyProof.Rows
local macro_rules | `(tactic| walk_at "idle 0") => `(tactic| fail)
open LCg
/-- the two names in order -/
noncomputable def mk2 (p : List Nat × List Nat) : List (List Nat) := if p.2 < p.1 then [p.2, p.1] else [p.1, p.2]
noncomputable def MetAt1 (S : List (Addr × Obj)) (p : List Nat × List Nat) (v : Value) : Prop := ∃ (a e : Nat) (vs : List Value), v = .ref a ∧ (a, listOf vs.toArray e) ∈ S ∧ StrVals vs ((mk2 p).map S')
noncomputable def MetAt (S : List (Addr × Obj)) : List (List Nat × List Nat) → List Value → Prop
  | [], [] => True
  | p :: ps, v :: vs => MetAt1 S p v ∧ MetAt S ps vs
  | _, _ => False
theorem MetAt1.mono {S R : List (Addr × Obj)} (h : ∀ p ∈ S, p ∈ R) {p : List Nat × List Nat} {v : Value} : MetAt1 S p v → MetAt1 R p v
  | ⟨a, e, vs, h1, h2, h3⟩ => ⟨a, e, vs, h1, h _ h2, h3⟩
theorem MetAt.mono {S R : List (Addr × Obj)} (h : ∀ p ∈ S, p ∈ R) : ∀ {ps : List (List Nat × List Nat)} {vs : List Value}, MetAt S ps vs → MetAt R ps vs
  | [], [], _ => trivial
  | _ :: _, _ :: _, ⟨a, b⟩ => ⟨a.mono h, MetAt.mono h b⟩
  | [], _ :: _, x => x.elim
  | _ :: _, [], x => x.elim
theorem MetAt.snoc {S : List (Addr × Obj)} {p : List Nat × List Nat} {v : Value} (x : MetAt1 S p v) : ∀ {ps : List (List Nat × List Nat)} {vs : List Value}, MetAt S ps vs → MetAt S (ps ++ [p]) (vs ++ [v])
  | [], [], _ => ⟨x, trivial⟩
  | _ :: _, _ :: _, ⟨a, b⟩ => ⟨a, MetAt.snoc x b⟩
  | [], _ :: _, h => h.elim
  | _ :: _, [], h => h.elim
theorem PairsAt.get {S : List (Addr × Obj)} : ∀ {ps : List (List Nat × List Nat)} {vs : List Value}, PairsAt S ps vs → ∀ {i : Nat} {v : Value}, vs[i]? = some v → ∃ p, ps[i]? = some p ∧ PairAt S p v
  | _ :: _, _ :: _, ⟨a, _⟩, 0, _, e => ⟨_, rfl, by cases e; exact a⟩
  | _ :: _, _ :: _, ⟨_, b⟩, i + 1, _, e => PairsAt.get b (i := i) (by simpa using e)
  | [], [], _, _, _, e => by simp at e
  | [], _ :: _, h, _, _, _ => h.elim
  | _ :: _, [], h, _, _, _ => h.elim
theorem perm_two {a b x y : Str} (h : [a, b].Perm [x, y]) : (a = x ∧ b = y) ∨ (a = y ∧ b = x) := by
  have ha : a ∈ [x, y] := h.mem_iff.mp (.head _)
  simp only [List.mem_cons, List.not_mem_nil, or_false] at ha
  rcases ha with rfl | rfl
  · exact .inl ⟨rfl, by simpa using h.cons_inv⟩
  · have h2 : [a, b].Perm [a, x] := h.trans (.swap ..)
    exact .inr ⟨rfl, by simpa using h2.cons_inv⟩
theorem strsAre_vals : ∀ {vs : List Value} {ss : List Str}, StrsAre vs ss → StrVals vs ss
  | _, _, .nil => trivial
  | _, _, .cons _ t r => ⟨⟨t, rfl⟩, strsAre_vals r⟩
theorem sorted2 {vs : List Value} {ss : List Str} {x y : List Nat} (h1 : StrsAre vs ss) (h2 : ss.Perm [S' x, S' y]) (h3 : sortedS ss = true) : StrVals vs ((mk2 (x, y)).map S') := by
  have hv := strsAre_vals h1
  have hl := h2.length_eq
  match ss, hl with
  | [a, b], _ =>
    have h4 : ltCps b.cps.toList a.cps.toList = false := by simpa [sortedS, risingS] using h3
    unfold mk2
    rcases perm_two h2 with ⟨rfl, rfl⟩ | ⟨rfl, rfl⟩
    · have h5 : ¬ y < x := by
        rw [ltCps_eq] at h4; exact of_decide_eq_false h4
      rw [if_neg h5]; exact hv
    · by_cases h5 : y < x
      · rw [if_pos h5]; exact hv
      · have h6 : ¬ x < y := by
          rw [ltCps_eq] at h4; exact of_decide_eq_false h4
        have h7 : x = y := List.le_antisymm (List.not_lt.mp h5) (List.not_lt.mp h6)
        subst h7
        rw [if_neg h5]; exact hv
local macro_rules | `(tactic| walk_at "execs cons") => `(tactic| (k_here; (with_reducible show wpAny _ _ (execs (Stmt.If _ _ _ _ :: _) _) _ _ _); refine hold_intro ?_))
local macro_rules | `(tactic| k_all) => `(tactic| assumption)
local macro_rules | `(tactic| walk_at "call builtin:sorted") => `(tactic| (k_here; refine hold_intro ?_))
local macro_rules | `(tactic| walk_at "eval ListComp") => `(tactic| (k_here; k_dflt (refine' ListComp_U ?f0 ?c1 ?c2 ?c3 ?c4 ?c5 ?_; (case f0 => k_asm); (case c1 => rfl); (case c2 => decide); (case c3 => rfl); (case c4 => decide); (case c5 => rfl))))
theorem law_K (w : World) (loose : List Str) (mean : ExcName → Option Value) (mg mb : Str → Option Value) (h₀ : Heap) (f : Nat) (cdv : Value) (s : Shared) (Q : Flow → Shared → Prop) (E : Value → Shared → Prop)
    (K0 : Below callerA h₀ [] h₀) (X : (KF w.params).In h₀) (T : Top viewQ loose mean mg mb h₀) (m : Str → Option Value) (rest : List (Addr × Obj))
    (duels ed : Nat) (ds : List Value) (ps : List (List Nat × List Nat)) (hps : PairsAt rest ps ds) (hn : ds.length < 90) (oM : Obj) (d1 : oM.data = .cell none)
    (m1 : m (Str.ofString "duels") = some (.ref duels)) (r1 : ∀ p ∈ rest, p.1 ≠ duels) (r2 : ∀ p ∈ rest, p.1 ≠ h₀.objs.size + 1 + 1 + 1) (r3 : @Ne Nat duels (h₀.objs.size + 1 + 1 + 1))
    (F : Fr h₀ h₀.objs.size s.heap m) (N : News h₀ h₀.objs.size s.heap ((h₀.objs.size + 1 + 1 + 1, oM) :: (duels, listOf ds.toArray ed) :: rest))
    (next : ∀ (met : Nat) (ms : List Value) (oM' : Obj) (S1 : List (Addr × Obj)) (h' : Heap) (tk' : Nat), oM'.data = .cell (some (.ref met)) → MetAt S1 ps ms → (∀ p ∈ rest, p ∈ S1) → Fr h₀ h₀.objs.size h' m → News h₀ h₀.objs.size h' ((h₀.objs.size + 1 + 1 + 1, oM') :: (met, lst ms) :: S1) →
      LawWp w h₀.objs.size f cdv 19 Q E { s with heap := h', toks := tk' }) :
    LawWp w h₀.objs.size f cdv 18 Q E s := by
  unfold LawWp lawEnv at *
  revert K0 X
  k_fill
  intro K0 X
  have he := law_eqs (P := w.params) (by k_is)
  obtain ⟨e1, e2, e3⟩ := he
  simp only [e1, e2, e3] at next ⊢
  clear e1 e2 e3
  simp only [List.drop_succ_cons, List.drop_zero] at next ⊢
  k_steps
  refine CompSrc.ledger rfl F N (.tail _ (.head _)) (by rw [List.size_toArray, sizeLine_eq]; omega) fun g => ?_
  clear F N
  refine comp_ind (fun i ys news => ∃ S1, news = (h₀.objs.size + 1 + 1 + 1, oM) :: (duels, listOf ds.toArray ed) :: S1 ∧ (∀ p ∈ rest, p ∈ S1) ∧ (∀ p ∈ S1, p.1 ≠ h₀.objs.size + 1 + 1 + 1) ∧ MetAt S1 (ps.take i) ys) ds.toArray.size ?fin ?step _ 0 [] _ (Nat.zero_add _) ⟨rest, rfl, fun _ h => h, r2, trivial⟩
  case step =>
    rintro i ys news hi ⟨S1, rfl, sub, ne3, hm⟩ v I oI C oC D m₂ h tk E' hv hC hx F N off nn
    obtain ⟨p, hpi, q, kx, ky, rfl, hq⟩ := PairsAt.get hps (i := i) (v := v) (by simpa using hv)
    k_steps
    unfold Hold
    have hq2 := (N _ (.tail _ (.tail _ (.tail _ (.tail _ (.tail _ (sub _ hq))))))).1
    have hlt : ∀ z ∈ (I, oI) :: (C, oC) :: (D, lst ys) :: (h₀.objs.size + 1 + 1 + 1, oM) :: (duels, listOf ds.toArray ed) :: S1, @LT.lt Nat _ z.1 h.objs.size := fun z hz => Heap.lt_size (N z hz).1
    refine sorted_N_str F N ⟨_, hq2, rfl, _, rfl⟩ (.cons _ _ (.cons _ _ .nil)) (by show 2 < 64; omega) fun h' vs' ss' e F' N' a1 a2 a3 => ?_
    have a4 := sorted2 a1 a2 a3
    refine CompEnd.intro F' N' ((h₀.objs.size + 1 + 1 + 1, oM) :: (duels, listOf ds.toArray ed) :: (h.objs.size + 1, listOf vs'.toArray e) :: S1) ?u1 ?u2 ?u3 ⟨_, rfl, fun z hz => .tail _ (sub z hz), ?u4, ?u5⟩
    case u1 =>
      intro z hz
      repeat (rcases List.mem_cons.mp hz with rfl | hz; · (repeat (first | exact List.Mem.head _ | refine List.Mem.tail _ ?_)))
      repeat (first | exact hz | refine List.Mem.tail _ ?_)
    case u2 =>
      have o3 := off.mem
      refine Off3.of fun z hz => ?_
      simp only [List.mem_cons] at hz
      rcases hz with h5 | h5 | h5 | h5
      · exact o3 z (by rw [h5]; exact .head _)
      · exact o3 z (by rw [h5]; exact .tail _ (.head _))
      · rw [h5]
        have b1 := hlt _ (.head _)
        have b2 := hlt _ (.tail _ (.head _))
        have b3 := hlt _ (.tail _ (.tail _ (.head _)))
        refine ⟨?_, ?_, ?_⟩ <;> (show @Ne Nat _ _) <;> dsimp only at b1 b2 b3 ⊢ <;> omega
      · exact o3 z (.tail _ (.tail _ h5))
    case u3 => exact .inr ⟨_, .tail _ (.head _), rfl, _, rfl⟩
    case u4 =>
      intro z hz
      rcases List.mem_cons.mp hz with rfl | hz
      · have b1 := hlt _ (.tail _ (.tail _ (.tail _ (.head _))))
        show @Ne Nat _ _
        dsimp only at b1 ⊢
        omega
      · exact ne3 z hz
    case u5 =>
      have hi' : i < ps.length := by have := hps.length; rw [List.size_toArray] at hi; omega
      have hpe : ps[i] = p := Option.some.inj ((List.getElem?_eq_getElem hi').symm.trans hpi)
      rw [List.take_succ_eq_append_getElem hi', hpe]
      exact MetAt.snoc ⟨_, e, vs', rfl, .head _, a4⟩ (hm.mono fun z hz => .tail _ hz)
  case fin =>
    rintro ys news ⟨S1, rfl, sub, ne3, hm⟩
    intro D2 h2 tk2 F N off
    obtain ⟨o1, o2, o3⟩ := off
    have o4 : @Ne Nat D2 (h₀.objs.size + 1 + 1 + 1) := Ne.symm o1
    dsimp only at o2
    have o5 : @Ne Nat (h₀.objs.size + 1 + 1 + 1) D2 := o1
    k_steps
    all_goals (try w_report)
    unfold Hold
    rename Fr _ _ _ _ => F9
    rename News _ _ _ _ => N9
    rename _ = Data.cell (some _) => d9
    have hms : MetAt S1 ps ys := by
      have : ps.take ds.toArray.size = ps := List.take_of_length_le (by rw [List.size_toArray, hps.length]; exact Nat.le_refl _)
      rw [this] at hm; exact hm
    refine next D2 ys _ S1 _ _ d9 hms sub F9 (news_sub N9 fun p hp => ?_)
    repeat (rcases List.mem_cons.mp hp with rfl | hp; · (repeat (first | exact List.Mem.head _ | refine List.Mem.tail _ ?_)))
    repeat (first | exact hp | refine List.Mem.tail _ ?_)
end
section
open PySem PySem.W PySem.Calls PySem.Spec PyProof PyProof.Rows
open LCg PySem.SeqAt
theorem S'_inj {x y : List Nat} (h : S' x = S' y) : x = y := by
  have := congrArg (fun z : Str => z.cps.toList) h
  simpa [S'] using this
theorem mapS_inj : ∀ {xs ys : List (List Nat)}, xs.map S' = ys.map S' → xs = ys
  | [], [], _ => rfl
  | x :: xs, y :: ys, h => by
    rw [List.map_cons, List.map_cons] at h
    injection h with h1 h2
    rw [S'_inj h1, mapS_inj h2]
  | [], _ :: _, h => by simp at h
  | _ :: _, [], h => by simp at h
theorem vals_same : ∀ {vs : List Value} {xs ys : List Str}, StrVals vs xs → StrVals vs ys → xs = ys
  | [], [], [], _, _ => rfl
  | _ :: _, _ :: _, _ :: _, ⟨⟨t, e⟩, a⟩, ⟨⟨u, f⟩, b⟩ => by
    rw [e] at f
    injection f with f1 _
    rw [f1, vals_same a b]
  | [], _ :: _, _, h, _ => h.elim
  | [], [], _ :: _, _, h => h.elim
  | _ :: _, [], _, h, _ => h.elim
  | _ :: _, _ :: _, [], _, h => h.elim
theorem isList_same {h : Heap} {l : Addr} {us vs : List Value} (h1 : h.IsList l us.toArray) (h2 : h.IsList l vs.toArray) : us = vs := by
  obtain ⟨o, e, _, n, d⟩ := h1
  obtain ⟨o2, e2, _, n2, d2⟩ := h2
  rw [e] at e2
  cases e2
  rw [d] at d2
  injection d2 with q
  simpa using q
theorem eq_strs {A : Around} {s : Shared} {l b : Addr} {us vs : List Value} {xs ys : List (List Nat)} (hl : s.heap.IsList l us.toArray) (hb : s.heap.IsList b vs.toArray) (h1 : StrVals us (xs.map S')) (h2 : StrVals vs (ys.map S')) (hn : xs.length = ys.length) (hu : A.units < cLine) :
    EqAt A s (.ref l) (.ref b) (decide (xs = ys)) := by
  by_cases hlb : l = b
  · subst hlb
    have e := isList_same hl hb
    subst e
    have : xs = ys := mapS_inj (vals_same h1 h2)
    rw [decide_eq_true this]
    exact EqAt.same _
  · have l1 := h1.length
    have l2 := h2.length
    rw [List.length_map] at l1 l2
    have r := RcAt.lists (A := A) (s := s) (e := fun j => decide (xs.getD j [] = ys.getD j [])) hl hb (by simp only [List.size_toArray]; omega) hu (fun j q1 q2 => by
      have j1 : j < us.length := by simpa using q1
      have j2 : j < vs.length := by simpa using q2
      obtain ⟨t, e⟩ := h1.getE j j1 (by rw [List.length_map]; omega)
      obtain ⟨u, f⟩ := h2.getE j j2 (by rw [List.length_map]; omega)
      have e' : us.toArray[j] = .str (S' (xs.getD j [])) t := by
        have : j < xs.length := by omega
        simpa [this] using e
      have f' : vs.toArray[j] = .str (S' (ys.getD j [])) u := by
        have : j < ys.length := by omega
        simpa [this] using f
      rw [e', f']
      have g := EqAt.str_str (A := A.in1) (s := s) (S' (xs.getD j [])) t (S' (ys.getD j [])) u
      have gg : (S' (xs.getD j []) == S' (ys.getD j [])) = decide (xs.getD j [] = ys.getD j []) := by
        rw [Bool.eq_iff_iff, beq_iff_eq, decide_eq_true_eq]
        exact ⟨S'_inj, fun q => by rw [q]⟩
      rw [gg] at g
      exact g)
    have hall : ((List.range us.toArray.size).all fun j => decide (xs.getD j [] = ys.getD j [])) = decide (xs = ys) := by
      rw [Bool.eq_iff_iff, List.all_eq_true, decide_eq_true_eq]
      constructor
      · intro q
        apply List.ext_getElem hn
        intro j j1 j2
        have := q j (List.mem_range.mpr (by rw [List.size_toArray]; omega))
        simpa [j1, j2] using this
      · rintro rfl j _
        simp
    rw [hall] at r
    exact EqAt.of_refs hlb r
theorem mk2_len (p : List Nat × List Nat) : (mk2 p).length = 2 := by unfold mk2; split <;> rfl
open Classical in
/-- does the value lie as the list of these names -/
noncomputable def liesAs (h : Heap) (q : List (List Nat)) (y : Value) : Bool := decide (∃ (a : Addr) (vs : List Value), y = .ref a ∧ h.IsList a vs.toArray ∧ StrVals vs (q.map S'))
theorem liesAs_met {h₀ h : Heap} {L : Addr} {S : List (Addr × Obj)} (N : News h₀ L h S) {p : List Nat × List Nat} {y : Value} (x : MetAt1 S p y) (q : List (List Nat)) : liesAs h q y = decide (mk2 p = q) := by
  obtain ⟨a, e, vs, rfl, hm, hv⟩ := x
  have hl : h.IsList a vs.toArray := ⟨_, (N _ hm).1, rfl, _, rfl⟩
  unfold liesAs
  apply decide_eq_decide.mpr
  constructor
  · rintro ⟨a', vs', e1, h1, h2⟩
    cases e1
    have := isList_same hl h1
    subst this
    exact mapS_inj (vals_same hv h2)
  · rintro rfl
    exact ⟨a, vs, rfl, hl, hv⟩
theorem count_met {h₀ h : Heap} {L : Addr} {S : List (Addr × Obj)} (N : News h₀ L h S) (q : List (List Nat)) : ∀ {ps : List (List Nat × List Nat)} {ys : List Value}, MetAt S ps ys → ys.countP (liesAs h q) = ps.countP (fun p => decide (mk2 p = q)) ∧ ys.any (liesAs h q) = ps.any (fun p => decide (mk2 p = q))
  | [], [], _ => ⟨rfl, rfl⟩
  | p :: ps, y :: ys, ⟨a, b⟩ => by
    have ih := count_met N q b
    rw [List.countP_cons, List.countP_cons, List.any_cons, List.any_cons, liesAs_met N a, ih.1, ih.2]
    exact ⟨rfl, rfl⟩
  | [], _ :: _, x => x.elim
  | _ :: _, [], x => x.elim
theorem MetAt.mem {S : List (Addr × Obj)} : ∀ {ps : List (List Nat × List Nat)} {ys : List Value}, MetAt S ps ys → ∀ {y : Value}, y ∈ ys → ∃ p, p ∈ ps ∧ MetAt1 S p y
  | _ :: _, _ :: _, ⟨a, b⟩, y, hy => by
    rcases List.mem_cons.mp hy with rfl | hy
    · exact ⟨_, .head _, a⟩
    · obtain ⟨p, h1, h2⟩ := MetAt.mem b hy
      exact ⟨p, .tail _ h1, h2⟩
  | [], [], _, _, hy => by cases hy
  | [], _ :: _, h, _, _ => h.elim
  | _ :: _, [], h, _, _ => h.elim
theorem eq_met {h₀ : Heap} {L : Addr} {A : Around} {s : Shared} {S : List (Addr × Obj)} (N : News h₀ L s.heap S) {ps : List (List Nat × List Nat)} {ys : List Value} (hm : MetAt S ps ys) {b : Addr} {vs : List Value} {q : List Nat × List Nat} (hb : s.heap.IsList b vs.toArray) (hv : StrVals vs ((mk2 q).map S')) (hu : A.units < cLine) :
    ∀ y ∈ ys, EqAt A s y (.ref b) (liesAs s.heap (mk2 q) y) := by
  intro y hy
  obtain ⟨p, _, x⟩ := hm.mem hy
  rw [liesAs_met N x]
  obtain ⟨a, e, us, rfl, hm', hu'⟩ := x
  exact eq_strs ⟨_, (N _ hm').1, rfl, _, rfl⟩ hb hu' hv (by rw [mk2_len, mk2_len]) hu
end
section
open PySem PySem.W PySem.Calls PySem.Spec PyProof PyProof.Rows
open LCg LCt PySem.SeqAt
local macro_rules | `(tactic| walk_at "execs cons") => `(tactic| (k_here; (with_reducible show wpAny _ _ (execs (Stmt.Return _ _ :: _) _) _ _ _); refine hold_intro ?_))
local macro_rules | `(tactic| k_all) => `(tactic| assumption)
local macro_rules | `(tactic| walk_at "CompSrcT") => `(tactic| (k_here; refine hold_intro ?_))
local macro_rules | `(tactic| walk_at "call builtin:list.count") => `(tactic| (k_here; refine hold_intro ?_))
local macro_rules | `(tactic| walk_at "CompEnd") => `(tactic| (k_here; refine hold_intro ?_))
local macro_rules | `(tactic| walk_at "eval ListComp") => `(tactic| (k_here; k_dflt (refine' ListComp_T ?f0 ?c1 ?c2 ?c3 ?c4 ?c5 ?_; (case f0 => k_asm); (case c1 => with_unfolding_all rfl); (case c2 => decide); (case c3 => rfl); (case c4 => decide); (case c5 => rfl))))
theorem law_L (w : World) (loose : List Str) (mean : ExcName → Option Value) (mg mb : Str → Option Value) (h₀ : Heap) (f : Nat) (cdv : Value) (s : Shared) (Q : Flow → Shared → Prop) (E : Value → Shared → Prop)
    (K0 : Below callerA h₀ [] h₀) (X : (KF w.params).In h₀) (T : Top viewQ loose mean mg mb h₀) (m : Str → Option Value) (rest : List (Addr × Obj))
    (met : Nat) (ms : List Value) (ps : List (List Nat × List Nat)) (hms : MetAt rest ps ms) (hn : ms.length < 90) (oM : Obj) (d1 : oM.data = .cell (some (.ref met))) (hc1 : ∀ p ∈ ps, ps.countP (fun q => decide (mk2 q = mk2 p)) = 1)
    (F : Fr h₀ h₀.objs.size s.heap m) (N : News h₀ h₀.objs.size s.heap ((h₀.objs.size + 1 + 1 + 1, oM) :: (met, lst ms) :: rest))
    (next : ∀ (h' : Heap) (tk' : Nat), Fr h₀ h₀.objs.size h' m → News h₀ h₀.objs.size h' ((h₀.objs.size + 1 + 1 + 1, oM) :: (met, lst ms) :: rest) →
      LawWp w h₀.objs.size f cdv 20 Q E { s with heap := h', toks := tk' }) :
    LawWp w h₀.objs.size f cdv 19 Q E s := by
  unfold LawWp lawEnv at *
  revert K0 X
  k_fill
  intro K0 X
  have he := law_eqs (P := w.params) (by k_is)
  obtain ⟨e1, e2, e3⟩ := he
  simp only [e1, e2, e3] at next ⊢
  clear e1 e2 e3
  simp only [List.drop_succ_cons, List.drop_zero] at next ⊢
  k_steps
  unfold Hold
  refine CompSrcT.ledger rfl F N (.tail _ (.head _)) (by rw [List.size_toArray, sizeLine_eq]; omega) fun g => ?_
  clear F N
  refine comp_none (fun i news => news = (h₀.objs.size + 1 + 1 + 1, oM) :: (met, lst ms) :: rest) ms.toArray.size ?fin ?step _ 0 _ (Nat.zero_add _) rfl
  case step =>
    rintro i news hi rfl v I oI C oC D m₂ h tk E' hv hC hx F N off nn
    have hvm : v ∈ ms := List.mem_of_getElem? (by simpa using hv : ms[i]? = some v)
    obtain ⟨p, hp, a, e, vs, rfl, hma, hva⟩ := hms.mem hvm
    k_steps
    unfold Hold
    have NR : News h₀ h₀.objs.size h rest := fun p hp => N p (by repeat (first | exact hp | refine List.Mem.tail _ ?_))
    have hcnt : ms.countP (liesAs h (mk2 p)) = 1 := (count_met NR (mk2 p) hms).1.trans (hc1 p hp)
    have hget : h.get? met = some (lst ms) := (N _ (.tail _ (.tail _ (.tail _ (.tail _ (.head _)))))).1
    have hla : h.IsList a vs.toArray := ⟨_, (NR _ hma).1, rfl, _, rfl⟩
    refine call_meets PySem.F.slot_list_count ⟨_, hget, rfl⟩ PySem.F.entry_list_count (PySem.F.args_list_count_2 _ _) (list_countAt met ms.toArray ms.length none #[] (.ref a) (liesAs h (mk2 p))) ⟨hget, fun y hy => ?_, ?_⟩
    · exact eq_met NR hms hla hva (Nat.le_of_ble_eq_true rfl) y (by simpa using hy)
    · rw [show ms.toArray.toList = ms from rfl, hcnt]
      k_steps
      unfold Hold
      exact ⟨_, _, _, rfl, F, N, off, .inr ⟨_, .tail _ (.head _), rfl, _, rfl⟩, rfl⟩
  case fin =>
    rintro news rfl
    intro D2 h2 tk2 F N off
    k_steps
    unfold Hold
    rename Fr _ _ _ _ => F9
    rename News _ _ _ _ => N9
    refine next _ _ F9 (news_sub N9 fun p hp => ?_)
    repeat (rcases List.mem_cons.mp hp with rfl | hp; · (repeat (first | exact List.Mem.head _ | refine List.Mem.tail _ ?_)))
    repeat (first | exact hp | refine List.Mem.tail _ ?_)
end
section
open PySem PySem.W PySem.Calls PySem.Spec PyProof PyProof.Rows
open LCg LCt PySem.SeqAt
local macro_rules | `(tactic| k_all) => `(tactic| assumption)
local macro_rules | `(tactic| walk_at "CompSrcT") => `(tactic| (k_here; refine hold_intro ?_))
local macro_rules | `(tactic| walk_at "call builtin:sorted") => `(tactic| (k_here; refine hold_intro ?_))
local macro_rules | `(tactic| walk_at "CompEnd") => `(tactic| (k_here; refine hold_intro ?_))
local macro_rules | `(tactic| walk_at "subscriptTail Name Slice ref ref") => `(tactic| (k_here; refine hold_intro ?_))
local macro_rules | `(tactic| walk_at "compareOp NotIn ref ref") => `(tactic| (k_here; refine hold_intro ?_))
local macro_rules | `(tactic| walk_at "eval ListComp") => `(tactic| (k_here; k_dflt (refine' ListComp_T ?f0 ?c1 ?c2 ?c3 ?c4 ?c5 ?_; (case f0 => k_asm); (case c1 => with_unfolding_all rfl); (case c2 => decide); (case c3 => rfl); (case c4 => decide); (case c5 => rfl))))
theorem pick_two {vs : List Value} {i : Nat} {x y : Value} (h1 : vs[i]? = some x) (h2 : vs[i + 1]? = some y) : (slicePick vs.toArray (some (1 + (i : Int) - 1)) (some (1 + (i : Int) + 1)) none).toList = [x, y] := by
  have l2 := (List.getElem?_eq_some_iff.mp h2).1
  have e : sliceBounds (some (1 + (i : Int) - 1)) (some (1 + (i : Int) + 1)) none vs.toArray.size = ((i : Int), ((i + 2 : Nat) : Int), 1) := by
    simp only [sliceBounds, Option.getD_none, show (1 : Int) > 0 by decide, if_true, if_neg (show ¬ (1 + (i : Int) - 1 < 0) by omega), if_neg (show ¬ (1 + (i : Int) + 1 < 0) by omega), List.size_toArray]
    refine Prod.ext ?_ (Prod.ext ?_ rfl)
    · dsimp only; omega
    · dsimp only; omega
  rw [kmk_pick_nat _ e]
  show (vs.drop i).take (i + 2 - i) = _
  have g1 := List.getElem?_eq_some_iff.mp h1
  have g2 := List.getElem?_eq_some_iff.mp h2
  rw [List.drop_eq_getElem_cons g1.1, List.drop_eq_getElem_cons g2.1, g1.2, g2.2, show i + 2 - i = 2 by omega]
  rfl
theorem law_M (w : World) (loose : List Str) (mean : ExcName → Option Value) (mg mb : Str → Option Value) (h₀ : Heap) (f : Nat) (cdv : Value) (s : Shared) (Q : Flow → Shared → Prop) (E : Value → Shared → Prop)
    (K0 : Below callerA h₀ [] h₀) (X : (KF w.params).In h₀) (T : Top viewQ loose mean mg mb h₀) (m : Str → Option Value) (rest : List (Addr × Obj))
    (met ord eo : Nat) (ms ov : List Value) (os : List (List Nat)) (ps : List (List Nat × List Nat)) (hms : MetAt rest ps ms) (hn : ms.length < 90) (hov : StrVals ov (os.map S')) (many : Int) (tm : Tok) (hmany : (os.length : Int) = many) (hm2 : many = 5 ∨ many = 6)
    (oM oO : Obj) (d1 : oM.data = .cell (some (.ref met))) (d2 : oO.data = .cell (some (.ref ord))) (hmet : ∀ i x y, os[i]? = some x → os[i + 1]? = some y → ∃ p ∈ ps, mk2 p = mk2 (x, y))
    (m1 : m (Str.ofString "many") = some (.int many tm))
    (F : Fr h₀ h₀.objs.size s.heap m) (N : News h₀ h₀.objs.size s.heap ((h₀.objs.size + 1 + 1, oO) :: (ord, listOf ov.toArray eo) :: (h₀.objs.size + 1 + 1 + 1, oM) :: (met, lst ms) :: rest))
    (next : ∀ (h' : Heap) (tk' : Nat), Fr h₀ h₀.objs.size h' m → Q (.ret (.bool true)) { s with heap := h', toks := tk' }) :
    LawWp w h₀.objs.size f cdv 20 Q E s := by
  unfold LawWp lawEnv at *
  revert K0 X
  k_fill
  intro K0 X
  have he := law_eqs (P := w.params) (by k_is)
  obtain ⟨e1, e2, e3⟩ := he
  simp only [e1, e2, e3] at next ⊢
  clear e1 e2 e3
  simp only [List.drop_succ_cons, List.drop_zero] at next ⊢
  k_steps
  unfold Hold
  rename IsRange _ _ _ _ _ _ _ _ => R9
  rename Fr _ _ _ _ => F8
  rename News _ _ _ _ => N8
  have hsm : Builtin.Range.small 1 many 1 = true := by rcases hm2 with rfl | rfl <;> decide +kernel
  have hrs : Builtin.Range.rangeSize 1 many 1 = ((os.length - 1 : Nat) : Int) := by
    have : ((os.length - 1 : Nat) : Int) = many - 1 := by omega
    rw [this]
    rcases hm2 with rfl | rfl <;> decide +kernel
  refine CompSrcT.range rfl F8 N8 R9 hsm hrs (by rw [sizeLine_eq]; omega) fun g => ?_
  clear F8 N8
  refine comp_none (fun i news => ∃ S1, news = (h₀.objs.size + 1 + 1, oO) :: (ord, listOf ov.toArray eo) :: (h₀.objs.size + 1 + 1 + 1, oM) :: (met, lst ms) :: S1 ∧ ∀ p ∈ rest, p ∈ S1) (os.length - 1) ?fin ?step _ 0 _ (Nat.zero_add _) ⟨rest, rfl, fun _ h => h⟩
  case step =>
    rintro i news hi ⟨S1, rfl, sub⟩ v I oI C oC D m₂ h tk E' ⟨tv, rfl⟩ hC hx F N off nn
    have hi0 : (0 : Int) ≤ 1 + (i : Int) := by omega
    have hov1 := hov.length
    rw [List.length_map] at hov1
    obtain ⟨x, tx, hx1, hx2⟩ := hov.get i (by omega)
    obtain ⟨y, ty, hy1, hy2⟩ := hov.get (i + 1) (by omega)
    obtain ⟨p, hp, hpe⟩ := hmet i x y hx1 hy1
    k_steps
    unfold Hold
    refine' kmk_slice_lit ?F ?N ⟨_, (N _ (.tail _ (.tail _ (.tail _ (.tail _ (.head _)))))).1, rfl, _, rfl⟩ ?part1 ?part2 (pick_two hx2 hy2) ?_ ?sub ?tmp ?siz
    case F => exact F
    case N => exact N
    case part1 => kmk_part
    case part2 => kmk_part
    case sub => with_unfolding_all rfl
    case tmp => kmk_pure
    case siz => (rw [List.size_toArray, PySem.sizeLine_eq]; omega)
    intro D3 h3 F3 N3 l3
    have hq3 := (N3 _ (.head _)).1
    k_steps
    unfold Hold
    refine sorted_N_str F3 N3 ⟨_, hq3, rfl, _, rfl⟩ (.cons _ _ (.cons _ _ .nil)) (by show 2 < 64; omega) fun h4 vs4 ss4 e4 F4 N4 a1 a2 a3 => ?_
    have a4 := sorted2 a1 a2 a3
    k_steps
    unfold Hold
    have hms2 := hms.mono sub
    have NR : News h₀ h₀.objs.size h4 S1 := fun z hz => N4 z (by repeat (first | exact hz | refine List.Mem.tail _ ?_))
    have hget4 := (N4 _ (.tail _ (.tail _ (.tail _ (.tail _ (.tail _ (.tail _ (.tail _ (.tail _ (.head _)))))))))).1
    have hany : ms.toArray.any (liesAs h4 (mk2 (x, y))) = true := by
      rw [List.any_toArray, (count_met NR (mk2 (x, y)) hms2).2, List.any_eq_true]
      exact ⟨p, hp, decide_eq_true hpe⟩
    refine notIn_listAt (liesAs h4 (mk2 (x, y))) ⟨_, hget4, rfl, _, rfl⟩ (fun z hz => eq_met NR hms2 ⟨_, (N4 _ (.head _)).1, rfl, _, rfl⟩ a4 (Nat.le_of_ble_eq_true rfl) z (by simpa using hz)) ?_
    rw [hany]
    k_steps
    unfold Hold
    exact ⟨_, _, _, rfl, F4, fun z hz => N4 z (.tail _ (.tail _ hz)), off, trivial, ⟨S1, rfl, sub⟩⟩
  case fin =>
    rintro news ⟨S1, rfl, sub⟩
    intro D2 h2 tk2 F N off
    k_steps
    exact next _ _ (by assumption)
end
end Mine
end
section
open PySem PySem.W PySem.Calls PySem.Spec PyProof PyProof.Rows
namespace Mine
-- the plain law of the roses: no program in sight
theorem mk2_swap (a b : List Nat) : mk2 (a, b) = mk2 (b, a) := by
  unfold mk2
  by_cases h1 : b < a
  · rw [if_pos h1, if_neg (List.lt_asymm h1)]
  · by_cases h2 : a < b
    · rw [if_neg h1, if_pos h2]
    · have : a = b := List.le_antisymm (List.not_lt.mp h1) (List.not_lt.mp h2)
      subst this; rfl
theorem mk2_mem (a b z : List Nat) : z ∈ mk2 (a, b) ↔ z = a ∨ z = b := by
  unfold mk2
  split
  · simp only [List.mem_cons, List.not_mem_nil, or_false]; exact Or.comm
  · simp only [List.mem_cons, List.not_mem_nil, or_false]
theorem mk2_gt {a b : List Nat} (h : b < a) : mk2 (a, b) = [b, a] := if_pos h
mutual
noncomputable def Rose.names : Rose → List (List Nat)
  | .node x ks => x :: Rose.namess ks
noncomputable def Rose.namess : List Rose → List (List Nat)
  | [] => []
  | r :: rs => r.names ++ Rose.namess rs
end
mutual
noncomputable def Rose.edges : Rose → List (List Nat × List Nat)
  | .node x ks => ks.map (fun k => (x, k.name)) ++ Rose.edgess ks
noncomputable def Rose.edgess : List Rose → List (List Nat × List Nat)
  | [] => []
  | r :: rs => r.edges ++ Rose.edgess rs
end
mutual
noncomputable def Rose.HeapO : Rose → Prop
  | .node x ks => (∀ k ∈ ks, k.name < x) ∧ Rose.HeapOs ks
noncomputable def Rose.HeapOs : List Rose → Prop
  | [] => True
  | r :: rs => r.HeapO ∧ Rose.HeapOs rs
end
theorem namess_append (a b : List Rose) : Rose.namess (a ++ b) = Rose.namess a ++ Rose.namess b := by
  induction a with
  | nil => rfl
  | cons x r ih => simp only [List.cons_append, Rose.namess, ih, List.append_assoc]
theorem edgess_append (a b : List Rose) : Rose.edgess (a ++ b) = Rose.edgess a ++ Rose.edgess b := by
  induction a with
  | nil => rfl
  | cons x r ih => simp only [List.cons_append, Rose.edgess, ih, List.append_assoc]
theorem heapOs_append {a b : List Rose} (h1 : Rose.HeapOs a) (h2 : Rose.HeapOs b) : Rose.HeapOs (a ++ b) := by
  induction a with
  | nil => exact h2
  | cons x r ih => exact ⟨h1.1, ih h1.2⟩
theorem name_mem (r : Rose) : r.name ∈ r.names := by
  obtain ⟨x, ks⟩ := r
  exact .head _
theorem mem_namess {k : Rose} {y : List Nat} (hy : y ∈ k.names) : ∀ {ks : List Rose}, k ∈ ks → y ∈ Rose.namess ks
  | _ :: _, h => by
    rcases List.mem_cons.mp h with rfl | h
    · exact List.mem_append_left _ hy
    · exact List.mem_append_right _ (mem_namess hy h)
theorem kidnames_sub : ∀ ks : List Rose, (ks.map Rose.name).Sublist (Rose.namess ks)
  | [] => .slnil
  | .node x ks :: rs => by
    show (x :: rs.map Rose.name).Sublist ((x :: Rose.namess ks) ++ Rose.namess rs)
    exact .cons_cons _ ((kidnames_sub rs).trans (List.sublist_append_right _ _))
mutual
theorem heap_le : ∀ (R : Rose), R.HeapO → ∀ y ∈ R.names, y = R.name ∨ y < R.name
  | .node x ks, h, y, hy => by
    rcases List.mem_cons.mp hy with rfl | hy
    · exact .inl rfl
    · obtain ⟨k, hk, q⟩ := heap_les ks h.2 y hy
      have := h.1 k hk
      rcases q with rfl | q
      · exact .inr this
      · exact .inr (List.lt_trans q this)
theorem heap_les : ∀ (ks : List Rose), Rose.HeapOs ks → ∀ y ∈ Rose.namess ks, ∃ k ∈ ks, y = k.name ∨ y < k.name
  | r :: rs, h, y, hy => by
    rcases List.mem_append.mp hy with hy | hy
    · exact ⟨r, .head _, heap_le r h.1 y hy⟩
    · obtain ⟨k, hk, q⟩ := heap_les rs h.2 y hy
      exact ⟨k, .tail _ hk, q⟩
end
theorem duelR_cases (a b : Rose) : (a.name < b.name ∧ duelR a b = .node b.name (b.kids ++ [a])) ∨ (¬ a.name < b.name ∧ duelR a b = .node a.name (a.kids ++ [b])) := by
  unfold duelR
  by_cases h : a.name < b.name
  · exact .inl ⟨h, if_pos h⟩
  · exact .inr ⟨h, if_neg h⟩
theorem duelR_names (a b : Rose) : (duelR a b).names.Perm (a.names ++ b.names) := by
  obtain ⟨x, ka⟩ := a
  obtain ⟨y, kb⟩ := b
  rcases duelR_cases (.node x ka) (.node y kb) with ⟨_, e⟩ | ⟨_, e⟩
  · rw [e, List.perm_iff_count]
    intro z
    simp only [Rose.names, Rose.name, Rose.kids, namess_append, Rose.namess, List.count_append, List.count_cons, List.append_nil, List.count_nil]
    omega
  · rw [e, List.perm_iff_count]
    intro z
    simp only [Rose.names, Rose.name, Rose.kids, namess_append, Rose.namess, List.count_append, List.count_cons, List.append_nil, List.count_nil]
    omega
theorem duelR_edges (a b : Rose) : ((duelR a b).edges.map mk2).Perm ((a.edges ++ b.edges ++ [(a.name, b.name)]).map mk2) := by
  obtain ⟨x, ka⟩ := a
  obtain ⟨y, kb⟩ := b
  rcases duelR_cases (.node x ka) (.node y kb) with ⟨_, e⟩ | ⟨_, e⟩
  · rw [e, List.perm_iff_count]
    intro z
    simp only [Rose.edges, Rose.name, Rose.kids, edgess_append, Rose.edgess, List.map_append, List.map_cons, List.map_nil, List.count_append, List.count_cons, List.append_nil, List.count_nil, mk2_swap y x]
    omega
  · rw [e, List.perm_iff_count]
    intro z
    simp only [Rose.edges, Rose.name, Rose.kids, edgess_append, Rose.edgess, List.map_append, List.map_cons, List.map_nil, List.count_append, List.count_cons, List.append_nil, List.count_nil]
    omega
theorem duelR_heap {a b : Rose} (ha : a.HeapO) (hb : b.HeapO) (hne : a.name ≠ b.name) : (duelR a b).HeapO := by
  obtain ⟨x, ka⟩ := a
  obtain ⟨y, kb⟩ := b
  rcases duelR_cases (.node x ka) (.node y kb) with ⟨h, e⟩ | ⟨h, e⟩
  · rw [e]
    refine ⟨fun k hk => ?_, heapOs_append hb.2 ⟨ha, trivial⟩⟩
    rcases List.mem_append.mp hk with hk | hk
    · exact hb.1 k hk
    · rw [List.mem_singleton.mp hk]; exact h
  · rw [e]
    refine ⟨fun k hk => ?_, heapOs_append ha.2 ⟨hb, trivial⟩⟩
    rcases List.mem_append.mp hk with hk | hk
    · exact ha.1 k hk
    · rw [List.mem_singleton.mp hk]
      by_cases h2 : y < x
      · exact h2
      · exact absurd (List.le_antisymm (List.not_lt.mp h2) (List.not_lt.mp h)) hne
theorem champ_names : ∀ (rs : List Rose) (a : Rose), (champ a rs).names.Perm (a.names ++ Rose.namess rs)
  | [], a => by simp [champ, Rose.namess]
  | b :: r, a => by
    show (champ (duelR a b) r).names.Perm _
    refine (champ_names r (duelR a b)).trans ?_
    show List.Perm _ (a.names ++ (b.names ++ Rose.namess r))
    rw [← List.append_assoc]
    exact (duelR_names a b).append_right _
theorem champ_edges : ∀ (rs : List Rose) (a : Rose), ((champ a rs).edges.map mk2).Perm ((a.edges ++ Rose.edgess rs ++ champPs a rs).map mk2)
  | [], a => by simp [champ, Rose.edgess, champPs]
  | b :: r, a => by
    show ((champ (duelR a b) r).edges.map mk2).Perm _
    refine (champ_edges r (duelR a b)).trans ?_
    have h := duelR_edges a b
    rw [List.perm_iff_count] at h ⊢
    intro z
    have := h z
    simp only [Rose.edgess, champPs, List.map_append, List.map_cons, List.map_nil, List.count_append, List.count_cons, List.count_nil] at this ⊢
    omega
theorem champ_heap : ∀ (rs : List Rose) (a : Rose), a.HeapO → Rose.HeapOs rs → (a.names ++ Rose.namess rs).Nodup → (champ a rs).HeapO
  | [], _, h, _, _ => h
  | b :: r, a, ha, hr, hn => by
    have hn2 : ((a.names ++ b.names) ++ Rose.namess r).Nodup := by rw [List.append_assoc]; exact hn
    refine champ_heap r (duelR a b) (duelR_heap ha hr.1 fun e => ?_) hr.2 ?_
    · have := (List.nodup_append.mp (List.nodup_append.mp hn2).1).2.2
      exact this _ (name_mem a) _ (name_mem b) e
    · exact ((duelR_names a b).append_right _).nodup_iff.mpr hn2
theorem champ_name : ∀ (rs : List Rose) (a : Rose), (champ a rs).name = a.name ∨ ∃ b ∈ rs, (champ a rs).name = b.name
  | [], _ => .inl rfl
  | b :: r, a => by
    have e : champ a (b :: r) = champ (duelR a b) r := rfl
    rw [e]
    rcases champ_name r (duelR a b) with h | ⟨c, hc, h⟩
    · rcases duelR_cases a b with ⟨_, q⟩ | ⟨_, q⟩
      · exact .inr ⟨b, .head _, by rw [h, q]; rfl⟩
      · exact .inl (by rw [h, q]; rfl)
    · exact .inr ⟨c, .tail _ hc, h⟩
/-- the pairs of a rose and of the later duels -/
noncomputable def allP (n : Nat) (R : Rose) : List (List (List Nat)) := (R.edges ++ laterP n R).map mk2
structure Law (n : Nat) (R : Rose) : Prop where
  down : (R.name :: laterO n R).Pairwise (fun a b => b < a)
  perm : (R.name :: laterO n R).Perm R.names
  nodup : (allP n R).Nodup
  inn : ∀ q ∈ allP n R, ∀ z ∈ q, z ∈ R.names
  near : ∀ i x y, (R.name :: laterO n R)[i]? = some x → (R.name :: laterO n R)[i + 1]? = some y → mk2 (x, y) ∈ allP n R
theorem nodup_map_on {α β : Type} {f : α → β} : ∀ {l : List α}, (∀ x ∈ l, ∀ y ∈ l, f x = f y → x = y) → l.Nodup → (l.map f).Nodup
  | [], _, _ => List.nodup_nil
  | a :: l, h, hn => by
    rw [List.nodup_cons] at hn
    rw [List.map_cons, List.nodup_cons]
    refine ⟨fun hm => ?_, nodup_map_on (fun x hx y hy => h x (.tail _ hx) y (.tail _ hy)) hn.2⟩
    obtain ⟨b, hb, e⟩ := List.mem_map.mp hm
    have := h a (.head _) b (.tail _ hb) e.symm
    exact hn.1 (this ▸ hb)
theorem later_law : ∀ (n : Nat) (R : Rose), R.size ≤ n + 1 → R.HeapO → R.names.Nodup → Law n R := by
  intro n
  induction n with
  | zero =>
    rintro ⟨x, ks⟩ hs hh hn
    match ks with
    | [] => exact ⟨by simp [laterO], by simp [laterO, Rose.names, Rose.namess, Rose.name], by simp [allP, laterP, Rose.edges, Rose.edgess], by simp [allP, laterP, Rose.edges, Rose.edgess], by intro i x y _ h; simp [laterO] at h⟩
    | k :: r =>
      have := size_pos k
      simp only [Rose.size, Rose.sizes] at hs
      omega
  | succ n ih =>
    rintro ⟨x, ks⟩ hs hh hn
    match ks with
    | [] => exact ⟨by simp [laterO], by simp [laterO, Rose.names, Rose.namess, Rose.name], by simp [allP, laterP, Rose.edges, Rose.edgess], by simp [allP, laterP, Rose.edges, Rose.edgess], by intro i x y _ h; simp [laterO] at h⟩
    | k :: r =>
      have hsz : (champ k r).size ≤ n + 1 := by
        rw [champ_size]
        simp only [Rose.size, Rose.sizes] at hs
        omega
      have hn1 : x ∉ k.names ++ Rose.namess r ∧ (k.names ++ Rose.namess r).Nodup := List.nodup_cons.mp hn
      have hpn := champ_names r k
      have hc := ih (champ k r) hsz (champ_heap r k hh.2.1 hh.2.2 hn1.2) (hpn.nodup_iff.mpr hn1.2)
      have hO : laterO (n + 1) (.node x (k :: r)) = (champ k r).name :: laterO n (champ k r) := rfl
      have hP : laterP (n + 1) (.node x (k :: r)) = champPs k r ++ laterP n (champ k r) := rfl
      have hA : (allP (n + 1) (.node x (k :: r))).Perm (((k :: r).map fun c => mk2 (x, c.name)) ++ allP n (champ k r)) := by
        have h := champ_edges r k
        rw [List.perm_iff_count] at h ⊢
        intro z
        have := h z
        unfold allP
        rw [hP]
        simp only [Rose.edges, Rose.edgess, List.map_append, List.map_cons, List.map_nil, List.count_append, List.count_cons, List.count_nil, List.map_map, Function.comp_def] at this ⊢
        omega
      have hlt : ∀ y ∈ k.names ++ Rose.namess r, y < x := by
        intro y hy
        rcases heap_le (.node x (k :: r)) hh y (.tail _ hy) with q | q
        · have q' : y = x := q
          subst q'
          exact absurd hy hn1.1
        · exact q
      have hmem : ∀ y ∈ (champ k r).names, y ∈ k.names ++ Rose.namess r := fun y hy => hpn.mem_iff.mp hy
      have hx : x ∉ (champ k r).names := fun h => hn1.1 (hmem x h)
      refine ⟨?_, ?_, ?_, ?_, ?_⟩
      · rw [hO]
        exact List.Pairwise.cons (fun b hb => hlt b (hmem b (hc.perm.mem_iff.mp hb))) hc.down
      · rw [hO]
        exact (hc.perm.trans hpn).cons x
      · refine hA.nodup_iff.mpr (List.nodup_append.mpr ⟨?_, hc.nodup, ?_⟩)
        · have e : ((k :: r).map fun c => mk2 (x, c.name)) = ((k :: r).map Rose.name).map fun y => mk2 (x, y) := by rw [List.map_map]; rfl
          rw [e]
          refine nodup_map_on (fun a ha b hb q => ?_) ((kidnames_sub (k :: r)).nodup hn1.2)
          have h1 := hlt a ((kidnames_sub (k :: r)).subset ha)
          have h2 := hlt b ((kidnames_sub (k :: r)).subset hb)
          rw [mk2_gt h1, mk2_gt h2] at q
          injection q
        · intro a ha b hb q
          obtain ⟨c, hc1, rfl⟩ := List.mem_map.mp ha
          exact hx (hc.inn _ hb x (q ▸ (mk2_mem _ _ _).mpr (.inl rfl)))
      · intro q hq z hz
        rcases List.mem_append.mp (hA.mem_iff.mp hq) with h | h
        · obtain ⟨c, hc1, rfl⟩ := List.mem_map.mp h
          rcases (mk2_mem _ _ _).mp hz with rfl | rfl
          · exact .head _
          · exact .tail _ (mem_namess (name_mem c) hc1)
        · exact .tail _ (hmem z (hc.inn q h z hz))
      · intro i a b h1 h2
        rw [hO] at h1 h2
        refine hA.mem_iff.mpr ?_
        cases i with
        | zero =>
          have e1 : x = a := by injection h1
          have e2 : (champ k r).name = b := by simpa using h2
          subst e1 e2
          refine List.mem_append_left _ (List.mem_map.mpr ?_)
          rcases champ_name r k with h | ⟨c, hc1, h⟩
          · exact ⟨k, .head _, by rw [h]⟩
          · exact ⟨c, .tail _ hc1, by rw [h]⟩
        | succ i =>
          exact List.mem_append_right _ (hc.near i a b (by simpa using h1) (by simpa using h2))
end Mine
end
section
open PySem PySem.W PySem.Calls PySem.Spec PyProof PyProof.Rows
namespace Mine
-- the knock-out's tree
noncomputable def Tr.us : Tr → List (List Nat)
  | .leaf u => [u]
  | .node l r => l.us ++ r.us
inductive LeafAt : Tr → List Nat → Nat → Prop
  | here {u : List Nat} : LeafAt (.leaf u) u 0
  | left {l r : Tr} {u : List Nat} {d : Nat} : LeafAt l u d → LeafAt (.node l r) u (d + 1)
  | right {l r : Tr} {u : List Nat} {d : Nat} : LeafAt r u d → LeafAt (.node l r) u (d + 1)
theorem LeafAt.mem {t : Tr} {u : List Nat} {d : Nat} (h : LeafAt t u d) : u ∈ t.us := by
  induction h with
  | here => exact .head _
  | left _ ih => exact List.mem_append_left _ ih
  | right _ ih => exact List.mem_append_right _ ih
theorem play_size (g : Nat → Nat) : ∀ t : Tr, (playR g t).1.size = t.leaves
  | .leaf _ => rfl
  | .node l r => by
    show (duelR (playR g l).1 (playR g r).1).size = l.leaves + r.leaves
    rw [duelR_size, play_size g l, play_size g r]
theorem us_len : ∀ t : Tr, t.us.length = t.leaves
  | .leaf _ => rfl
  | .node l r => by
    show (l.us ++ r.us).length = l.leaves + r.leaves
    rw [List.length_append, us_len l, us_len r]
theorem play_names (g : Nat → Nat) : ∀ t : Tr, (playR g t).1.names.Perm (t.us.map (prep g))
  | .leaf _ => by simp [playR, Rose.names, Rose.namess, Tr.us]
  | .node l r => by
    show (duelR (playR g l).1 (playR g r).1).names.Perm ((l.us ++ r.us).map (prep g))
    rw [List.map_append]
    exact (duelR_names _ _).trans ((play_names g l).append (play_names g r))
theorem play_name_mem (g : Nat → Nat) (t : Tr) : (playR g t).1.name ∈ t.us.map (prep g) := (play_names g t).mem_iff.mp (name_mem _)
theorem play_heap (g : Nat → Nat) : ∀ t : Tr, (t.us.map (prep g)).Nodup → (playR g t).1.HeapO
  | .leaf _, _ => by
    show Rose.HeapO (.node _ [])
    exact ⟨(fun _ h => nomatch h), trivial⟩
  | .node l r, h => by
    have h' : (l.us.map (prep g) ++ r.us.map (prep g)).Nodup := by rw [← List.map_append]; exact h
    obtain ⟨h1, h2, h3⟩ := List.nodup_append.mp h'
    exact duelR_heap (play_heap g l h1) (play_heap g r h2) fun e => h3 _ (play_name_mem g l) _ (play_name_mem g r) e
theorem play_pairs (g : Nat → Nat) : ∀ t : Tr, ((playR g t).2.map mk2).Perm ((playR g t).1.edges.map mk2)
  | .leaf _ => by simp [playR, Rose.edges, Rose.edgess]
  | .node l r => by
    show (((playR g l).2 ++ (playR g r).2 ++ [((playR g l).1.name, (playR g r).1.name)]).map mk2).Perm ((duelR (playR g l).1 (playR g r).1).edges.map mk2)
    refine List.Perm.trans ?_ (duelR_edges _ _).symm
    simp only [List.map_append]
    exact ((play_pairs g l).append (play_pairs g r)).append_right _
theorem play_depth (g : Nat → Nat) : ∀ (t : Tr) (u : List Nat) (d : Nat), (t.us.map (prep g)).Nodup → LeafAt t u d → prep g u = (playR g t).1.name → (playR g t).1.kids.length = d
  | .leaf _, _, _, _, .here, _ => rfl
  | .node l r, u, _, h, .left (d := d) q, e => by
    have h' : (l.us.map (prep g) ++ r.us.map (prep g)).Nodup := by rw [← List.map_append]; exact h
    obtain ⟨h1, h2, h3⟩ := List.nodup_append.mp h'
    have e0 : (playR g (.node l r)).1 = duelR (playR g l).1 (playR g r).1 := rfl
    rw [e0] at e ⊢
    rcases duelR_cases (playR g l).1 (playR g r).1 with ⟨_, f⟩ | ⟨_, f⟩
    · rw [f] at e
      exact absurd e (h3 _ (List.mem_map_of_mem q.mem) _ (play_name_mem g r))
    · rw [f] at e ⊢
      have := play_depth g l u d h1 q e
      show (_ ++ [_]).length = d + 1
      rw [List.length_append, this]; rfl
  | .node l r, u, _, h, .right (d := d) q, e => by
    have h' : (l.us.map (prep g) ++ r.us.map (prep g)).Nodup := by rw [← List.map_append]; exact h
    obtain ⟨h1, h2, h3⟩ := List.nodup_append.mp h'
    have e0 : (playR g (.node l r)).1 = duelR (playR g l).1 (playR g r).1 := rfl
    rw [e0] at e ⊢
    rcases duelR_cases (playR g l).1 (playR g r).1 with ⟨_, f⟩ | ⟨_, f⟩
    · rw [f] at e ⊢
      have := play_depth g r u d h2 q e
      show (_ ++ [_]).length = d + 1
      rw [List.length_append, this]; rfl
    · rw [f] at e
      exact absurd e.symm (h3 _ (play_name_mem g l) _ (List.mem_map_of_mem q.mem))
theorem br_us : ∀ (n : Nat) (ns : List (List Nat)) (v : Int), 1 ≤ ns.length → ns.length ≤ n + 1 → (brT n ns v).us = ns
  | 0, [], _, h, _ => by simp at h
  | 0, [x], _, _, _ => rfl
  | 0, x :: y :: r, _, _, h => by simp at h
  | n + 1, ns, v, h, h' => by
    unfold brT
    split
    · rename_i q
      match ns, q with
      | [x], _ => rfl
    · rename_i q
      obtain ⟨c1, c2, c3⟩ := cut_len ns v (by omega)
      have i1 := br_us n _ (v.fdiv 3) c1 (by omega)
      have i2 := br_us n _ (v.fdiv 5) c2 (by omega)
      show Tr.us _ ++ Tr.us _ = ns
      rw [i1, i2, List.take_append_drop]
theorem good_of {g : Nat → Nat} : ∀ {t : Tr}, (∀ u ∈ t.us, Good g u) → t.Good g
  | .leaf _, h => h _ (.head _)
  | .node _ _, h => ⟨good_of fun u hu => h u (List.mem_append_left _ hu), good_of fun u hu => h u (List.mem_append_right _ hu)⟩
/-- the tree with other leaves -/
noncomputable def Tr.mapL (f : List Nat → List Nat) : Tr → Tr
  | .leaf u => .leaf (f u)
  | .node l r => .node (l.mapL f) (r.mapL f)
theorem mapL_us (f : List Nat → List Nat) : ∀ t : Tr, (t.mapL f).us = t.us.map f
  | .leaf _ => rfl
  | .node l r => by
    show (l.mapL f).us ++ (r.mapL f).us = (l.us ++ r.us).map f
    rw [List.map_append, mapL_us f l, mapL_us f r]
theorem mapL_at {f : List Nat → List Nat} : ∀ {t : Tr} {u : List Nat} {d : Nat}, LeafAt (t.mapL f) u d → ∃ u0, LeafAt t u0 d ∧ f u0 = u
  | .leaf u0, _, _, .here => ⟨u0, .here, rfl⟩
  | .node _ _, _, _, .left q => by
    obtain ⟨u0, a, b⟩ := mapL_at q
    exact ⟨u0, .left a, b⟩
  | .node _ _, _, _, .right q => by
    obtain ⟨u0, a, b⟩ := mapL_at q
    exact ⟨u0, .right a, b⟩
theorem mapL_eq {f g : List Nat → List Nat} : ∀ {t : Tr}, (∀ u ∈ t.us, f u = g u) → t.mapL f = t.mapL g
  | .leaf u, h => congrArg Tr.leaf (h u (.head _))
  | .node l r, h => by
    show Tr.node _ _ = Tr.node _ _
    rw [mapL_eq (t := l) fun u hu => h u (List.mem_append_left _ hu), mapL_eq (t := r) fun u hu => h u (List.mem_append_right _ hu)]
theorem mapL_mapL (f g : List Nat → List Nat) : ∀ t : Tr, (t.mapL g).mapL f = t.mapL (fun u => f (g u))
  | .leaf _ => rfl
  | .node l r => by
    show Tr.node _ _ = Tr.node _ _
    rw [mapL_mapL f g l, mapL_mapL f g r]
-- the text without the backslashes
theorem del_app {c : Nat} : ∀ (x y : List Nat), x.getLast? ≠ some 92 → del c (x ++ y) = del c x ++ del c y
  | [], _, _ => rfl
  | [a], y, h => by
    have ha : a ≠ 92 := fun e => h (by rw [e]; rfl)
    show del c (a :: y) = [a] ++ del c y
    rw [del_cons fun q => ha q.1]; rfl
  | a :: b :: r, y, h => by
    show (if a = 92 ∧ b = c then del c (r ++ y) else a :: del c (b :: (r ++ y))) = (if a = 92 ∧ b = c then del c r else a :: del c (b :: r)) ++ del c y
    split
    · refine del_app r y fun e => ?_
      cases r with
      | nil => cases e
      | cons d r => exact h (by rw [List.getLast?_cons_cons, List.getLast?_cons_cons]; exact e)
    · rw [List.cons_append]
      congr 1
      exact del_app (b :: r) y fun e => h (by rw [List.getLast?_cons_cons]; exact e)
theorem del_calm {c : Nat} : ∀ (x : List Nat), 92 ∉ x → del c x = x
  | [], _ => rfl
  | a :: r, h => by
    rw [del_cons fun q => h (q.1 ▸ .head _), del_calm r fun q => h (.tail _ q)]
theorem txt_last (t : Tr) : t.txt.getLast? = some 41 := by
  show (40 :: (t.body ++ [41])).getLast? = some 41
  rw [← List.cons_append, List.getLast?_append]; rfl
theorem body_last : ∀ {t : Tr}, (∀ u ∈ t.us, u.getLast? ≠ some 92) → t.body.getLast? ≠ some 92
  | .leaf u, h => h u (.head _)
  | .node l r, _ => by
    show (l.txt ++ r.txt).getLast? ≠ some 92
    rw [List.getLast?_append, txt_last r]
    intro e
    cases e
theorem del_txt {c : Nat} : ∀ {t : Tr}, (∀ u ∈ t.us, u.getLast? ≠ some 92) → del c t.txt = (t.mapL (del c)).txt := by
  have wrap : ∀ (t : Tr), t.body.getLast? ≠ some 92 → del c t.txt = 40 :: (del c t.body ++ [41]) := by
    intro t h
    show del c (40 :: (t.body ++ [41])) = _
    rw [del_cons (fun q => absurd q.1 (by decide)), del_app _ _ h]; rfl
  intro t
  induction t with
  | leaf u =>
    intro h
    exact wrap _ (h u (.head _))
  | node l r il ir =>
    intro h
    have e : (Tr.node l r).body = l.txt ++ r.txt := rfl
    rw [wrap _ (body_last h), e, del_app _ _ (by rw [txt_last]; decide), il fun u hu => h u (List.mem_append_left _ hu), ir fun u hu => h u (List.mem_append_right _ hu)]
    rfl
/-- how many brackets stand open -/
noncomputable def cb (X : List Nat) : Int := (X.count 40 : Int) - (X.count 41 : Int)
theorem cb_app (X Y : List Nat) : cb (X ++ Y) = cb X + cb Y := by
  unfold cb
  rw [List.count_append, List.count_append]
  omega
theorem cb_calm {X : List Nat} (h1 : 40 ∉ X) (h2 : 41 ∉ X) : cb X = 0 := by
  unfold cb
  rw [List.count_eq_zero_of_not_mem h1, List.count_eq_zero_of_not_mem h2]; rfl
theorem cb_txt : ∀ {t : Tr}, (∀ u ∈ t.us, 40 ∉ u ∧ 41 ∉ u) → cb t.txt = 0
  | .leaf u, h => by
    show cb ([40] ++ (u ++ [41])) = 0
    rw [cb_app, cb_app, cb_calm (h u (.head _)).1 (h u (.head _)).2]; decide
  | .node l r, h => by
    show cb ([40] ++ ((l.txt ++ r.txt) ++ [41])) = 0
    rw [cb_app, cb_app, cb_app, cb_txt (t := l) fun u hu => h u (List.mem_append_left _ hu), cb_txt (t := r) fun u hu => h u (List.mem_append_right _ hu)]; decide
theorem txt_has : ∀ {t : Tr} {u : List Nat}, u ∈ t.us → ∃ a b, t.txt = a ++ (u ++ b)
  | .leaf v, u, h => by
    rw [List.mem_singleton.mp h]
    exact ⟨[40], [41], rfl⟩
  | .node l r, u, h => by
    have e : (Tr.node l r).txt = [40] ++ ((l.txt ++ r.txt) ++ [41]) := rfl
    rcases List.mem_append.mp h with h | h
    · obtain ⟨a, b, q⟩ := txt_has h
      exact ⟨[40] ++ a, b ++ (r.txt ++ [41]), by rw [e, q]; simp⟩
    · obtain ⟨a, b, q⟩ := txt_has h
      exact ⟨[40] ++ (l.txt ++ a), b ++ [41], by rw [e, q]; simp⟩
/-- where a word without brackets stands: in a leaf -/
theorem occ_tree {N : List Nat} (hN : N ≠ []) (n40 : 40 ∉ N) (n41 : 41 ∉ N) : ∀ (t : Tr), (∀ u ∈ t.us, 40 ∉ u ∧ 41 ∉ u) → ∀ (i : Nat) (rest post : List Nat), i < t.txt.length → (t.txt ++ post).drop i = N ++ rest →
    ∃ u d, LeafAt t u d ∧ (∃ a b, u = a ++ (N ++ b)) ∧ cb ((t.txt ++ post).take i) = (d : Int) + 1 := by
  have hd : ∀ (x : Nat) (tl rest : List Nat), x :: tl = N ++ rest → x ∈ N := by
    intro x tl rest e
    cases N with
    | nil => exact absurd rfl hN
    | cons y r => injection e with e1 e2; rw [e1]; exact .head _
  intro t
  induction t with
  | leaf u =>
    intro h i rest post hi e
    obtain ⟨h1, h2⟩ := h u (.head _)
    have eT : (Tr.leaf u).txt ++ post = 40 :: (u ++ 41 :: post) := by simp [Tr.txt, Tr.body]
    have hl : i < u.length + 2 := by simpa [Tr.txt, Tr.body] using hi
    rw [eT] at e ⊢
    cases i with
    | zero => exact absurd (hd _ _ _ e) n40
    | succ i =>
      rw [List.drop_succ_cons] at e
      rw [List.take_succ_cons]
      have hi2 : i ≤ u.length := by omega
      rw [List.drop_append_of_le_length hi2] at e
      rw [List.take_append_of_le_length hi2]
      refine ⟨u, 0, .here, ?_, ?_⟩
      · rcases List.append_eq_append_iff.mp e with ⟨a, q1, q2⟩ | ⟨a, q1, q2⟩
        · cases a with
          | nil => exact ⟨u.take i, [], by rw [List.append_nil] at q1 ⊢; rw [q1, List.take_append_drop]⟩
          | cons y a =>
            rw [List.cons_append] at q2
            injection q2 with q2 _
            exact absurd (by rw [q1, ← q2]; exact List.mem_append_right _ (.head _)) n41
        · exact ⟨u.take i, a, by rw [← q1, List.take_append_drop]⟩
      · show cb ([40] ++ u.take i) = _
        rw [cb_app, cb_calm (fun q => h1 (List.mem_of_mem_take q)) (fun q => h2 (List.mem_of_mem_take q))]; decide
  | node l r il ir =>
    intro h i rest post hi e
    have hl : ∀ u ∈ l.us, 40 ∉ u ∧ 41 ∉ u := fun u hu => h u (List.mem_append_left _ hu)
    have hr : ∀ u ∈ r.us, 40 ∉ u ∧ 41 ∉ u := fun u hu => h u (List.mem_append_right _ hu)
    have eT : (Tr.node l r).txt ++ post = 40 :: (l.txt ++ (r.txt ++ 41 :: post)) := by
      show 40 :: ((l.txt ++ r.txt) ++ [41]) ++ post = _
      simp
    have hlen : (Tr.node l r).txt.length = l.txt.length + r.txt.length + 2 := by
      show (40 :: ((l.txt ++ r.txt) ++ [41])).length = _
      simp
      omega
    rw [hlen] at hi
    rw [eT] at e ⊢
    cases i with
    | zero => exact absurd (hd _ _ _ e) n40
    | succ i =>
      rw [List.drop_succ_cons] at e
      rw [List.take_succ_cons]
      by_cases q : i < l.txt.length
      · obtain ⟨u, d, a1, a2, a3⟩ := il hl i rest _ q e
        refine ⟨u, d + 1, .left a1, a2, ?_⟩
        show cb ([40] ++ _) = _
        rw [cb_app, a3]
        have : cb [40] = 1 := by decide
        omega
      · have e2 : i = l.txt.length + (i - l.txt.length) := by omega
        rw [e2, List.drop_length_add_append] at e
        by_cases q2 : i - l.txt.length < r.txt.length
        · obtain ⟨u, d, a1, a2, a3⟩ := ir hr (i - l.txt.length) rest _ q2 e
          refine ⟨u, d + 1, .right a1, a2, ?_⟩
          rw [e2, List.take_length_add_append]
          show cb ([40] ++ (l.txt ++ _)) = _
          rw [cb_app, cb_app, a3, cb_txt hl]
          have : cb [40] = 1 := by decide
          omega
        · have e3 : i - l.txt.length = r.txt.length + 0 := by omega
          rw [e3, List.drop_length_add_append] at e
          exact absurd (hd _ _ _ e) n41
end Mine
end
section
open PySem PySem.W PySem.Calls PySem.Spec PyProof PyProof.Rows
namespace Mine
-- the players
noncomputable def foldG (c : Nat) : Nat := (foldTab.lookup c).getD 0
theorem foldG_tab : ∀ p ∈ foldTab, foldG p.1 = p.2 := by decide +kernel
noncomputable def LETS : List Nat := [65, 66, 67, 97, 98, 99, 119808, 119809, 119810, 120224, 120225, 120226]
theorem lets_of : ∀ nm ∈ POOL, ∀ f ∈ FORMS, ∀ c ∈ nm, ((c : Int) + (f - 97)).toNat ∈ LETS := by decide +kernel
theorem lets_tab : ∀ c ∈ LETS, ∃ p ∈ foldTab, p.1 = c := by decide +kernel
theorem lets_calm : ∀ c ∈ LETS, c ≠ 92 ∧ c ≠ 40 ∧ c ≠ 41 ∧ c ≠ 34 ∧ c ∉ ([173, 8203, 65039] : List Nat) := by decide +kernel
theorem sign_calm : ∀ c ∈ ([173, 8203, 65039] : List Nat), c ≠ 92 ∧ c ≠ 40 ∧ c ≠ 41 ∧ c ≠ 34 := by decide +kernel
theorem sign_of : ∀ sg ∈ SIGNS, ∀ c ∈ sg, c ∈ ([173, 8203, 65039] : List Nat) := by decide +kernel
theorem sign_len : ∀ sg ∈ SIGNS, sg.length ≤ 1 := by decide +kernel
theorem pool_len : ∀ nm ∈ POOL, nm.length = 2 := by decide +kernel
theorem behind_of : ∀ bh ∈ BEHIND, bh = [] ∨ bh = [92, 40] ∨ bh = [92, 41] := by decide +kernel
theorem behind_tab : ∀ bh ∈ BEHIND, ∀ c ∈ bh, c ≠ 34 ∧ ∃ p ∈ foldTab, p.1 = c := by decide +kernel
theorem prep_app (g : Nat → Nat) (a b : List Nat) : prep g (a ++ b) = prep g a ++ prep g b := by
  unfold prep
  rw [List.filter_append, List.map_append]
theorem prep_sign : ∀ sg ∈ SIGNS, prep foldG sg = [] := by decide +kernel
theorem prep_let : ∀ nm ∈ POOL, ∀ f ∈ FORMS, prep foldG (nm.map fun (c : Nat) => ((c : Int) + (f - 97)).toNat) = nm := by decide +kernel
theorem prep_behind : ∀ bh ∈ BEHIND, prep foldG bh = bh := by decide +kernel
noncomputable def Pl.lets (p : Pl) : List Nat := p.nm.map (fun (c : Nat) => ((c : Int) + p.fm).toNat)
noncomputable def Pl.core (p : Pl) : List Nat := p.sg ++ p.lets
theorem Pl.raw_eq (p : Pl) : p.raw = p.core ++ p.bh := rfl
theorem fm_back (f : Int) : f + 97 - 97 = f := by omega
theorem Pl.Ok.lets_in {p : Pl} (h : p.Ok) : ∀ c ∈ p.lets, c ∈ LETS := by
  intro c hc
  obtain ⟨d, hd, rfl⟩ := List.mem_map.mp hc
  have := lets_of p.nm h.nm (p.fm + 97) h.fm d hd
  rwa [fm_back] at this
theorem Pl.Ok.prep_lets {p : Pl} (h : p.Ok) : prep foldG p.lets = p.nm := by
  have := prep_let p.nm h.nm (p.fm + 97) h.fm
  rw [fm_back] at this
  exact this
theorem Pl.Ok.prep_raw {p : Pl} (h : p.Ok) : prep foldG p.raw = p.plain := by
  rw [p.raw_eq, Pl.core, prep_app, prep_app, prep_sign _ h.sg, h.prep_lets, prep_behind _ h.bh]; rfl
theorem Pl.Ok.core_calm {p : Pl} (h : p.Ok) : ∀ c ∈ p.core, c ≠ 92 ∧ c ≠ 40 ∧ c ≠ 41 ∧ c ≠ 34 := by
  intro c hc
  rcases List.mem_append.mp hc with hc | hc
  · exact sign_calm c (sign_of _ h.sg c hc)
  · have := lets_calm c (h.lets_in c hc)
    exact ⟨this.1, this.2.1, this.2.2.1, this.2.2.2.1⟩
theorem Pl.Ok.len_lets {p : Pl} (h : p.Ok) : p.lets.length = 2 := by
  rw [Pl.lets, List.length_map, pool_len _ h.nm]
theorem Pl.Ok.core_len {p : Pl} (h : p.Ok) : 2 ≤ p.core.length ∧ p.core.length ≤ 3 := by
  have := sign_len _ h.sg
  rw [Pl.core, List.length_append, h.len_lets]
  omega
theorem Pl.Ok.raw_len {p : Pl} (h : p.Ok) : p.raw.length ≤ 5 := by
  have := h.core_len
  rw [p.raw_eq, List.length_append]
  rcases behind_of _ h.bh with q | q | q <;> rw [q] <;> simp <;> omega
theorem Pl.Ok.good {p : Pl} (h : p.Ok) : Good foldG p.raw := by
  refine ⟨?_, ?_, ?_, ?_, ⟨p.core, p.bh, rfl, fun c hc => ?_, behind_of _ h.bh⟩⟩
  · have := h.core_len
    rw [p.raw_eq, List.length_append]; omega
  · intro e
    have h1 := h.core_len
    match hcr : p.core, h1 with
    | c :: r, _ =>
      rw [p.raw_eq, hcr] at e
      have e' : [c] = [40] := e
      injection e' with e'
      exact (h.core_calm c (hcr ▸ List.mem_cons_self ..)).2.1 e'
    | [], h1 => simp at h1
  · intro c hc hb
    have key : ∀ c, (∃ p ∈ foldTab, p.1 = c) → foldIs c (foldG c) = true := by
      rintro c ⟨q, hq, rfl⟩
      rw [foldG_tab q hq]
      exact foldTab_ok q hq
    rw [p.raw_eq] at hc
    rcases List.mem_append.mp hc with hc | hc
    · rcases List.mem_append.mp hc with hc | hc
      · have := signs_b1 c (sign_of _ h.sg c hc)
        rw [this] at hb
        cases hb
      · exact key c (lets_tab c (h.lets_in c hc))
    · exact key c (behind_tab _ h.bh c hc).2
  · intro hc
    rw [p.raw_eq] at hc
    rcases List.mem_append.mp hc with hc | hc
    · exact (h.core_calm 34 hc).2.2.2 rfl
    · exact (behind_tab _ h.bh 34 hc).1 rfl
  · have := h.core_calm c hc
    exact ⟨this.1, this.2.1, this.2.2.1⟩
theorem Pl.Ok.core_last {p : Pl} (h : p.Ok) : p.core.getLast? ≠ some 92 := fun e => (h.core_calm 92 (List.mem_of_getLast? e)).1 rfl
theorem Pl.Ok.no92 {p : Pl} (h : p.Ok) : 92 ∉ p.core := fun e => (h.core_calm 92 e).1 rfl
theorem Pl.Ok.raw_last {p : Pl} (h : p.Ok) : p.raw.getLast? ≠ some 92 := by
  rw [p.raw_eq, List.getLast?_append]
  have := h.core_last
  rcases behind_of _ h.bh with q | q | q <;> rw [q]
  · simpa using this
  · simp
  · simp
theorem Pl.Ok.del1 {p : Pl} (h : p.Ok) : del 40 p.raw = p.core ++ del 40 p.bh := by
  rw [p.raw_eq, del_app _ _ h.core_last, del_calm _ h.no92]
theorem Pl.Ok.del1_last {p : Pl} (h : p.Ok) : (del 40 p.raw).getLast? ≠ some 92 := by
  rw [h.del1, List.getLast?_append]
  have := h.core_last
  rcases behind_of _ h.bh with q | q | q <;> rw [q]
  · simpa [del] using this
  · simpa [del] using this
  · simp [del]
theorem Pl.Ok.del2 {p : Pl} (h : p.Ok) : del 41 (del 40 p.raw) = p.core := by
  rw [h.del1, del_app _ _ h.core_last, del_calm _ h.no92]
  rcases behind_of _ h.bh with q | q | q <;> rw [q] <;> simp [del]
theorem Pl.Ok.head {p : Pl} (h : p.Ok) : p.raw.takeWhile (· != 92) = p.core := by
  rw [p.raw_eq]
  rcases behind_of _ h.bh with q | q | q <;> rw [q]
  · rw [List.append_nil]; exact tw_all h.no92
  · exact tw_append _ h.no92
  · exact tw_append _ h.no92
/-- a bare name stands in no other player's bare name -/
theorem core_in {p q : Pl} (hp : p.Ok) (hq : q.Ok) (h : ∃ a b, q.core = a ++ (p.core ++ b)) : q.nm = p.nm := by
  have e : q.lets = p.lets := by
    obtain ⟨a, b, e⟩ := h
    have l1 := hp.len_lets
    have l2 := hq.len_lets
    have s1 := sign_len _ hp.sg
    have s2 := sign_len _ hq.sg
    have e2 : q.sg ++ q.lets = (a ++ p.sg) ++ (p.lets ++ b) := by
      rw [List.append_assoc, ← List.append_assoc p.sg]
      exact e
    have hl := congrArg List.length e2
    simp only [List.length_append] at hl
    have : (a ++ p.sg).length = q.sg.length := by
      rw [List.length_append]
      by_cases z : a.length + p.sg.length = q.sg.length
      · exact z
      · -- then the sign ahead of q's letters is a letter of p's
        exfalso
        have hz : a.length + p.sg.length = 0 ∧ q.sg.length = 1 := by omega
        match hqs : q.sg, hz.2 with
        | [c], _ =>
          have ha : a = [] := List.length_eq_zero_iff.mp (by omega)
          have hs : p.sg = [] := List.length_eq_zero_iff.mp (by omega)
          rw [ha, hs, hqs] at e2
          match hpl : p.lets, l1 with
          | [x, y], _ =>
            rw [hpl] at e2
            have e3 : c :: q.lets = x :: (y :: b) := e2
            injection e3 with e3 _
            have h1 := sign_of _ hq.sg c (by rw [hqs]; exact .head _)
            have h2 := (lets_calm x (hp.lets_in x (by rw [hpl]; exact .head _))).2.2.2.2
            exact h2 (e3 ▸ h1)
    obtain ⟨e3, e4⟩ := List.append_inj e2 this.symm
    have hb : b = [] := List.length_eq_zero_iff.mp (by
      have := congrArg List.length e4
      rw [List.length_append] at this
      omega)
    rw [hb, List.append_nil] at e4
    exact e4
  rw [← hp.prep_lets, ← hq.prep_lets, e]
theorem map_inj_on {α β : Type} {f : α → β} : ∀ {l : List α}, (l.map f).Nodup → ∀ x ∈ l, ∀ y ∈ l, f x = f y → x = y
  | [], _, _, hx, _, _, _ => nomatch hx
  | a :: l, h, x, hx, y, hy, e => by
    rw [List.map_cons, List.nodup_cons] at h
    rcases List.mem_cons.mp hx with q1 | hx1
    · rcases List.mem_cons.mp hy with q2 | hy1
      · rw [q1, q2]
      · exact absurd (List.mem_map.mpr ⟨y, hy1, by rw [← e, q1]⟩) h.1
    · rcases List.mem_cons.mp hy with q2 | hy1
      · exact absurd (List.mem_map.mpr ⟨x, hx1, by rw [e, q2]⟩) h.1
      · exact map_inj_on h.2 x hx1 y hy1 e
theorem plain_nm {p q : Pl} (hp : p.Ok) (hq : q.Ok) (e : p.plain = q.plain) : p.nm = q.nm := by
  have := congrArg (List.take 2) e
  unfold Pl.plain at this
  rw [List.take_left' (pool_len _ hp.nm), List.take_left' (pool_len _ hq.nm)] at this
  exact this
theorem plains_nodup : ∀ {pls : List Pl}, (∀ p ∈ pls, p.Ok) → (pls.map (·.nm)).Nodup → (pls.map Pl.plain).Nodup := by
  intro pls hok hn
  have h0 : pls.Nodup := by
    refine List.Pairwise.of_map (·.nm) (fun a b h q => h (by rw [q])) hn
  exact nodup_map_on (fun x hx y hy e => map_inj_on hn x hx y hy (plain_nm (hok x hx) (hok y hy) e)) h0
end Mine
end
section
open PySem PySem.W PySem.Calls PySem.Spec PyProof PyProof.Rows
namespace Mine
-- the plain law, as the walk asks it
theorem count_one : ∀ {l : List (List (List Nat))}, l.Nodup → ∀ {a}, a ∈ l → l.count a = 1
  | x :: l, h, a, ha => by
    rw [List.nodup_cons] at h
    rw [List.count_cons]
    by_cases q : x = a
    · subst q
      rw [List.count_eq_zero_of_not_mem h.1, if_pos (by simp)]
    · rw [if_neg (by simpa using q)]
      rcases List.mem_cons.mp ha with e | hm
      · exact absurd e.symm q
      · exact count_one h.2 hm
theorem desc_eq : ∀ {l m : List (List Nat)}, l.Pairwise (fun a b => b < a) → m.Pairwise (fun a b => b < a) → l.Perm m → l = m
  | [], m, _, _, h => by rw [List.nil_perm.mp h]
  | x :: l, [], _, _, h => by simpa using h.length_eq
  | x :: l, y :: m, h1, h2, h => by
    rw [List.pairwise_cons] at h1 h2
    have e : x = y := by
      rcases List.mem_cons.mp (h.mem_iff.mp (.head _)) with e | hx
      · exact e
      · rcases List.mem_cons.mp (h.mem_iff.mpr (List.Mem.head _)) with e | hy
        · exact e.symm
        · exact absurd (h2.1 x hx) (List.lt_asymm (h1.1 y hy))
    subst e
    rw [desc_eq h1.2 h2.2 h.cons_inv]
theorem laterO_len : ∀ (n : Nat) (R : Rose), (laterO n R).length ≤ n
  | 0, _ => by simp [laterO]
  | n + 1, .node _ [] => by simp [laterO]
  | n + 1, .node _ (k :: r) => by
    have := laterO_len n (champ k r)
    simp only [laterO, List.length_cons]; omega
theorem laterC_len : ∀ (n c : Nat) (R : Rose), (laterC n c R).length ≤ n
  | 0, _, _ => by simp [laterC]
  | n + 1, _, .node _ [] => by simp [laterC]
  | n + 1, c, .node _ (k :: r) => by
    have := laterC_len n (c + r.length) (champ k r)
    simp only [laterC, List.length_cons]; omega
theorem laterP_len : ∀ (n : Nat) (R : Rose), (laterP n R).length ≤ n * R.size
  | 0, _ => by simp [laterP]
  | n + 1, .node _ [] => by simp [laterP]
  | n + 1, .node x (k :: r) => by
    have := laterP_len n (champ k r)
    have h1 := champ_size r k
    have h2 := kids_le_sizes r
    have h3 : (Rose.node x (k :: r)).size = (champ k r).size + 1 := by rw [h1]; rfl
    simp only [laterP, List.length_append, champPs_len]
    rw [h3, Nat.add_mul, Nat.mul_add]
    omega
theorem laterC_head (n c : Nat) (R : Rose) (h : 1 ≤ R.kids.length) : ∃ tl, laterC (n + 1) c R = (c + (R.kids.length - 1)) :: tl := by
  obtain ⟨x, ks⟩ := R
  match ks, h with
  | k :: r, _ => exact ⟨_, rfl⟩
  | [], h => simp [Rose.kids] at h
/-- the knock-out of these players -/
structure Cup (pls : List Pl) (t : Tr) : Prop where
  ok : ∀ p ∈ pls, p.Ok
  nd : (pls.map (·.nm)).Nodup
  us : t.us = pls.map Pl.raw
section
variable {pls : List Pl} {t : Tr}
theorem Cup.good (c : Cup pls t) : t.Good foldG := good_of fun u hu => by
  rw [c.us] at hu
  obtain ⟨p, hp, rfl⟩ := List.mem_map.mp hu
  exact (c.ok p hp).good
theorem Cup.leaves (c : Cup pls t) : t.leaves = pls.length := by rw [← us_len, c.us, List.length_map]
theorem Cup.preps (c : Cup pls t) : t.us.map (prep foldG) = pls.map Pl.plain := by
  rw [c.us, List.map_map]
  exact List.map_congr_left fun p hp => (c.ok p hp).prep_raw
theorem Cup.nodup (c : Cup pls t) : (t.us.map (prep foldG)).Nodup := by
  rw [c.preps]
  exact plains_nodup c.ok c.nd
theorem Cup.size (c : Cup pls t) : (playR foldG t).1.size = pls.length := by rw [play_size, c.leaves]
theorem Cup.duels (c : Cup pls t) : (playR foldG t).2.length + 1 = pls.length := by rw [duels_len, c.leaves]
theorem Cup.law (c : Cup pls t) : Law (playR foldG t).1.size (playR foldG t).1 :=
  later_law _ _ (Nat.le_succ _) (play_heap foldG t c.nodup) ((play_names foldG t).nodup_iff.mpr c.nodup)
theorem Cup.perm (c : Cup pls t) : ((playR foldG t).1.name :: laterO (playR foldG t).1.size (playR foldG t).1).Perm (pls.map Pl.plain) := by
  rw [← c.preps]
  exact c.law.perm.trans (play_names foldG t)
theorem Cup.olen (c : Cup pls t) : ((playR foldG t).1.name :: laterO (playR foldG t).1.size (playR foldG t).1).length = pls.length := by
  rw [c.perm.length_eq, List.length_map]
theorem Cup.pairs (_c : Cup pls t) : (((playR foldG t).2 ++ laterP (playR foldG t).1.size (playR foldG t).1).map mk2).Perm (allP (playR foldG t).1.size (playR foldG t).1) := by
  unfold allP
  rw [List.map_append, List.map_append]
  exact (play_pairs foldG t).append_right _
theorem Cup.once (c : Cup pls t) : ∀ p ∈ (playR foldG t).2 ++ laterP (playR foldG t).1.size (playR foldG t).1,
    ((playR foldG t).2 ++ laterP (playR foldG t).1.size (playR foldG t).1).countP (fun q => decide (mk2 q = mk2 p)) = 1 := by
  intro p hp
  have h := count_one (c.pairs.nodup_iff.mpr c.law.nodup) (List.mem_map_of_mem (f := mk2) hp)
  rw [List.count_eq_countP, List.countP_map] at h
  rw [← h]
  refine List.countP_congr fun q _ => ?_
  show decide (mk2 q = mk2 p) = true ↔ (mk2 q == mk2 p) = true
  rw [decide_eq_true_iff, beq_iff_eq]
theorem Cup.near (c : Cup pls t) : ∀ i x y, ((playR foldG t).1.name :: laterO (playR foldG t).1.size (playR foldG t).1)[i]? = some x → ((playR foldG t).1.name :: laterO (playR foldG t).1.size (playR foldG t).1)[i + 1]? = some y →
    ∃ p ∈ (playR foldG t).2 ++ laterP (playR foldG t).1.size (playR foldG t).1, mk2 p = mk2 (x, y) := by
  intro i x y h1 h2
  exact List.mem_map.mp (c.pairs.mem_iff.mpr (c.law.near i x y h1 h2))
theorem Cup.kids (c : Cup pls t) (h : 2 ≤ pls.length) : 1 ≤ (playR foldG t).1.kids.length := by
  have hs := c.size
  generalize (playR foldG t).1 = R at hs ⊢
  obtain ⟨x, ks⟩ := R
  match ks, hs with
  | [], hs =>
    have : (Rose.node x []).size = 1 := rfl
    omega
  | k :: r, _ => exact Nat.succ_le_succ (Nat.zero_le _)
theorem Cup.bare (c : Cup pls t) : del 41 (del 40 t.txt) = (t.mapL fun u => del 41 (del 40 u)).txt := by
  rw [del_txt (c := 40) (t := t) fun u hu => by
    rw [c.us] at hu
    obtain ⟨p, hp, rfl⟩ := List.mem_map.mp hu
    exact (c.ok p hp).raw_last]
  rw [del_txt (c := 41) (t := t.mapL (del 40)) fun u hu => by
    rw [mapL_us, c.us, List.map_map] at hu
    obtain ⟨p, hp, rfl⟩ := List.mem_map.mp hu
    exact (c.ok p hp).del1_last]
  rw [mapL_mapL]
theorem Cup.bare_us (c : Cup pls t) : (t.mapL fun u => del 41 (del 40 u)).us = pls.map Pl.core := by
  rw [mapL_us, c.us, List.map_map]
  exact List.map_congr_left fun p hp => (c.ok p hp).del2
theorem S'_list (l : List Nat) : (S' l).cps.toList = l := rfl
theorem Cup.first (c : Cup pls t) {p : Pl} (hp : p ∈ pls) (e : p.plain = (playR foldG t).1.name) :
    ∃ k rs, Builtin.Str.occurrences (S' (del 41 (del 40 t.txt))) (S' (p.raw.takeWhile (· != 92))) 0 (del 41 (del 40 t.txt)).length 1 = k :: rs ∧ k ≤ (del 41 (del 40 t.txt)).length ∧
      (((del 41 (del 40 t.txt)).take k).count 40 : Int) - (((del 41 (del 40 t.txt)).take k).count 41 : Int) - 1 = ((playR foldG t).1.kids.length : Int) := by
  have ok := c.ok p hp
  rw [ok.head, c.bare]
  have hus := c.bare_us
  generalize hb : (t.mapL fun u => del 41 (del 40 u)) = bare at hus ⊢
  have hmem : p.core ∈ bare.us := by rw [hus]; exact List.mem_map_of_mem hp
  obtain ⟨a, b, hT⟩ := txt_has hmem
  have hlen := ok.core_len
  have hnn : ∀ u ∈ bare.us, 40 ∉ u ∧ 41 ∉ u := by
    intro u hu
    rw [hus] at hu
    obtain ⟨q, hq, rfl⟩ := List.mem_map.mp hu
    exact ⟨fun z => ((c.ok q hq).core_calm 40 z).2.1 rfl, fun z => ((c.ok q hq).core_calm 41 z).2.2.1 rfl⟩
  have hf : (!(Builtin.Str.occurrences (S' bare.txt) (S' p.core) 0 (S' bare.txt).length 1).isEmpty) = true := by
    rw [StrLaws.found_iff]
    refine ⟨a.length, ?_, ?_⟩
    · rw [len_S, len_S, hT]
      simp only [List.length_append]; omega
    · rw [StrLaws.subAt_eq, len_S, S'_list, S'_list, hT, List.drop_left' rfl, List.take_left' rfl]
      exact beq_self_eq_true _
  have hs := StrLaws.occ_spec (S' bare.txt) (S' p.core) 0 (S' bare.txt).length 1
  rw [len_S] at hf hs
  match ho : Builtin.Str.occurrences (S' bare.txt) (S' p.core) 0 bare.txt.length 1 with
  | [] => rw [ho] at hf; cases hf
  | k :: rs =>
    obtain ⟨s1, s2⟩ := hs k (by rw [ho]; exact .head _)
    rw [len_S] at s1
    rw [StrLaws.subAt_eq, len_S, S'_list, S'_list, beq_iff_eq] at s2
    refine ⟨k, rs, rfl, by omega, ?_⟩
    have hd : (bare.txt ++ []).drop k = p.core ++ (bare.txt.drop k).drop p.core.length := by
      rw [List.append_nil]
      conv => lhs; rw [← List.take_append_drop p.core.length (bare.txt.drop k), s2]
    obtain ⟨u, d, h1, h2, h3⟩ := occ_tree (N := p.core) (fun z => by rw [z] at hlen; simp at hlen) (fun z => (ok.core_calm 40 z).2.1 rfl) (fun z => (ok.core_calm 41 z).2.2.1 rfl) bare hnn k _ [] (by omega) hd
    rw [List.append_nil] at h3
    unfold cb at h3
    rw [h3]
    rw [← hb] at h1
    obtain ⟨u0, g1, g2⟩ := mapL_at h1
    have hm := g1.mem
    rw [c.us] at hm
    obtain ⟨q, hq, rfl⟩ := List.mem_map.mp hm
    rw [(c.ok q hq).del2] at g2
    subst g2
    have hqp : q = p := map_inj_on c.nd q hq p hp (core_in ok (c.ok q hq) h2)
    subst hqp
    have := play_depth foldG t _ d c.nodup g1 (by rw [ok.prep_raw, e])
    rw [this]
    omega
end
end Mine
end
section
open PySem PySem.W PySem.Calls PySem.Spec PyProof PyProof.Rows
namespace Mine
theorem MetAt.length {S : List (Addr × Obj)} : ∀ {ps : List (List Nat × List Nat)} {vs : List Value}, MetAt S ps vs → vs.length = ps.length
  | [], [], _ => rfl
  | _ :: _, _ :: _, ⟨_, b⟩ => congrArg (· + 1) (MetAt.length b)
  | [], _ :: _, x => x.elim
  | _ :: _, [], x => x.elim
theorem CntV.two {a b : Nat} {tl : List Nat} : ∀ {cv : List Value}, CntV cv (a :: b :: tl) → ∃ t0 t1 cvr, cv = Value.int (a : Int) t0 :: Value.int (b : Int) t1 :: cvr ∧ CntV cvr tl
  | _ :: _ :: cvr, ⟨⟨t0, h0⟩, ⟨t1, h1⟩, h⟩ => ⟨t0, t1, cvr, by rw [h0, h1], h⟩
theorem sum_le (c : Nat) : ∀ l : List Nat, (∀ x ∈ l, x ≤ c) → l.sum ≤ l.length * c
  | [], _ => Nat.zero_le _
  | x :: l, h => by
    have h1 := h x (.head _)
    have h2 := sum_le c l fun y hy => h y (.tail _ hy)
    rw [List.sum_cons, List.length_cons, Nat.add_mul]
    omega
theorem frA_script (l row pool names plain : Nat) (many : Int) (tm : Tok) : frA l row pool names plain many tm (Str.ofString "script") = some (.ref l) := by
  unfold frA
  rw [if_neg (by decide), if_neg (by decide), if_neg (by decide), if_neg (by decide), if_neg (by decide), if_pos rfl]
theorem frA_row (l row pool names plain : Nat) (many : Int) (tm : Tok) : frA l row pool names plain many tm (Str.ofString "row") = some (.ref row) := by
  unfold frA
  rw [if_neg (by decide), if_neg (by decide), if_neg (by decide), if_neg (by decide), if_pos rfl]
theorem frA_many (l row pool names plain : Nat) (many : Int) (tm : Tok) : frA l row pool names plain many tm (Str.ofString "many") = some (.int many tm) := by
  unfold frA
  rw [if_neg (by decide), if_neg (by decide), if_neg (by decide), if_pos rfl]
theorem frA_pool (l row pool names plain : Nat) (many : Int) (tm : Tok) : frA l row pool names plain many tm (Str.ofString "pool") = some (.ref pool) := by
  unfold frA
  rw [if_neg (by decide), if_neg (by decide), if_pos rfl]
theorem frA_names (l row pool names plain : Nat) (many : Int) (tm : Tok) : frA l row pool names plain many tm (Str.ofString "names") = some (.ref names) := by
  unfold frA
  rw [if_neg (by decide), if_pos rfl]
theorem frA_plain (l row pool names plain : Nat) (many : Int) (tm : Tok) : frA l row pool names plain many tm (Str.ofString "plain") = some (.ref plain) := by
  unfold frA
  rw [if_pos rfl]
/-- the statements behind the sorting -/
theorem law_tail (w : World) (loose : List Str) (mean : ExcName → Option Value) (mg mb : Str → Option Value) (h₀ : Heap) (f : Nat) (cdv : Value) (s : Shared) (Q : Flow → Shared → Prop) (E : Value → Shared → Prop)
    (K0 : Below callerA h₀ [] h₀) (X : (KF w.params).In h₀) (T : Top viewQ loose mean mg mb h₀) (m : Str → Option Value)
    (pls : List Pl) (t : Tr) (C : Cup pls t) (hl2 : 2 ≤ pls.length) (hl6 : pls.length ≤ 6) (htl : t.txt.length < 900) (many : Int) (tm tt : Tok) (hmany : (pls.length : Int) = many) (hm2 : many = 5 ∨ many = 6)
    (names plain ord counts duels e1 e2 eo ec ed : Nat) (v1 v2 ov cv ds : List Value) (S1 : List (Addr × Obj)) (oO oM : Obj) (d2 : oO.data = .cell (some (.ref ord))) (d3 : oM.data = .cell none)
    (hv1 : StrVals v1 ((pls.map Pl.raw).map S')) (hv2 : StrVals v2 ((pls.map Pl.plain).map S'))
    (hps : PairsAt S1 ((playR foldG t).2 ++ laterP (playR foldG t).1.size (playR foldG t).1) ds) (hov : StrVals ov (((playR foldG t).1.name :: laterO (playR foldG t).1.size (playR foldG t).1).map S'))
    (hcv : CntV cv ((playR foldG t).2.length :: laterC (playR foldG t).1.size (playR foldG t).2.length (playR foldG t).1))
    (i1 : (names, listOf v1.toArray e1) ∈ S1) (i2 : (plain, listOf v2.toArray e2) ∈ S1) (i3 : (h₀.objs.size + 1 + 1, oO) ∈ S1) (i4 : (h₀.objs.size + 1 + 1 + 1, oM) ∈ S1)
    (x1 : ∀ p ∈ S1, p.1 ≠ duels) (x2 : @Ne Nat ord duels) (x3 : ∀ p ∈ S1, p.1 ≠ ord)
    (m1 : m (Str.ofString "many") = some (.int many tm)) (m2 : m (Str.ofString "names") = some (.ref names)) (m3 : m (Str.ofString "plain") = some (.ref plain)) (m4 : m (Str.ofString "text") = some (.str (S' t.txt) tt)) (m5 : m (Str.ofString "duels") = some (.ref duels)) (m6 : m (Str.ofString "counts") = some (.ref counts))
    (F : Fr h₀ h₀.objs.size s.heap m) (N : News h₀ h₀.objs.size s.heap ((ord, listOf ov.toArray eo) :: (counts, listOf cv.toArray ec) :: (duels, listOf ds.toArray ed) :: S1))
    (next : ∀ (m' : Str → Option Value) (h' : Heap) (tk' : Nat), Fr h₀ h₀.objs.size h' m' → Q (.ret (.bool true)) { s with heap := h', toks := tk' }) :
    LawWp w h₀.objs.size f cdv 12 Q E s := by
  have hnd := plains_nodup C.ok C.nd
  have hpl : (pls.map Pl.plain).length = pls.length := List.length_map _
  refine law_E w loose mean mg mb h₀ f cdv s Q E K0 X T m ((ord, listOf ov.toArray eo) :: (counts, listOf cv.toArray ec) :: (duels, listOf ds.toArray ed) :: S1) plain e2 v2 (pls.map Pl.plain) hv2 hnd (by omega) (by omega) m3 F (fun p hp => ?n1) ?next1
  case n1 =>
    rcases List.mem_cons.mp hp with rfl | hp
    · exact N _ (.tail _ (.tail _ (.tail _ i2)))
    · exact N p hp
  intro D e ps qs h' tk' hkey hperm hdown hD hpr F1 N1
  clear F N
  have hkx : ps.map (·.x) = pls.map Pl.plain := by
    have := congrArg (List.map (fun q : List Nat × Nat => q.1)) hkey
    rw [zipIdx_fst, List.map_map] at this
    exact this
  have hqx : qs.map (·.x) = (playR foldG t).1.name :: laterO (playR foldG t).1.size (playR foldG t).1 := by
    refine desc_eq (List.pairwise_map.mpr hdown) C.law.down ?_
    refine (hperm.map _).trans ?_
    rw [hkx]
    exact C.perm.symm
  have hql : qs.length = pls.length := by rw [hperm.length_eq, ← List.length_map (f := (·.x)), hkx, hpl]
  refine law_F w loose mean mg mb h₀ f cdv _ Q E K0 X T _ (ps.map TupV.at ++ ((counts, listOf cv.toArray ec) :: (duels, listOf ds.toArray ed) :: S1)) D e ord eo qs ov oO d2 (by rw [hqx]; exact hov) (fun p hp => List.mem_append_left _ (List.mem_map_of_mem (hperm.mem_iff.mp hp))) (by omega) (Nat.le_add_left 1 _) (setM_same _ _ _) F1 (news_sub N1 fun p hp => ?n2) ?next2
  case n2 =>
    rcases List.mem_cons.mp hp with rfl | hp
    · exact .head _
    rcases List.mem_cons.mp hp with rfl | hp
    · exact .tail _ (List.mem_append_right _ (.head _))
    rcases List.mem_cons.mp hp with rfl | hp
    · exact .tail _ (List.mem_append_right _ (.tail _ (.tail _ (.tail _ i3))))
    rcases List.mem_append.mp hp with hp | hp
    · exact .tail _ (List.mem_append_left _ hp)
    · exact .tail _ (List.mem_append_right _ (.tail _ hp))
  intro h3 tk3 htk3 F3 N3
  clear F1 N1
  refine law_G w loose mean mg mb h₀ f cdv _ Q E K0 X T _ _ t.txt tt htl htk3 ((setM_ne _ _ (by decide)).trans m4) F3 N3 ?next3
  intro t4 h4 tk4 F4 N4
  clear F3 N3
  obtain ⟨q0, qr, rfl⟩ : ∃ q0 qr, qs = q0 :: qr := by
    cases qs with
    | nil => simp at hql; omega
    | cons a b => exact ⟨a, b, rfl⟩
  have hq0 : q0 ∈ ps := hperm.mem_iff.mp (.head _)
  have hx0 : q0.x = (playR foldG t).1.name := by
    rw [List.map_cons] at hqx
    injection hqx
  obtain ⟨p, hp, hpp⟩ : ∃ p, pls[q0.i]? = some p ∧ p.plain = q0.x := by
    have h1 : q0.key ∈ (pls.map Pl.plain).zipIdx := by rw [← hkey]; exact List.mem_map_of_mem hq0
    have h2 := List.mem_zipIdx_iff_getElem?.mp h1
    have h3 : (pls.map Pl.plain)[q0.i]? = some q0.x := h2
    rw [List.getElem?_map] at h3
    cases hp : pls[q0.i]? with
    | none => rw [hp] at h3; cases h3
    | some p => rw [hp] at h3; exact ⟨p, rfl, by injection h3⟩
  have hpm : p ∈ pls := List.mem_of_getElem? hp
  obtain ⟨k, rs, ho, hk, hdep⟩ := C.first hpm (hpp.trans hx0)
  have hdl : (del 41 (del 40 t.txt)).length < 900 := Nat.lt_of_le_of_lt (Nat.le_trans (del_len 41 _) (del_len 40 _)) htl
  have hr5 := (C.ok p hpm).raw_len
  refine law_H w loose mean mg mb h₀ f cdv _ Q E K0 X T _ (ps.map TupV.at ++ ((ord, listOf ov.toArray eo) :: (h₀.objs.size + 1 + 1, oO) :: (counts, listOf cv.toArray ec) :: (duels, listOf ds.toArray ed) :: S1)) D e names e1 q0.a q0.i q0.x q0.t q0.u t4 (qr.map TupV.val) v1 (pls.map Pl.raw) (del 41 (del 40 t.txt)) k rs hdl (by rw [List.length_map]; simp at hql; omega) hv1 (by rw [List.length_map]; omega) p.raw
    (by rw [List.getElem?_map, hp]; rfl) (by omega) hk ho ((setM_ne _ _ (by decide)).trans (setM_same _ _ _)) ((setM_ne _ _ (by decide)).trans ((setM_ne _ _ (by decide)).trans m2)) (setM_same _ _ _) F4 (news_sub N4 fun p hp => ?n4) ?next4
  case n4 =>
    have hat : (q0.a, tupOf #[.str (S' q0.x) q0.t, .int (q0.i : Int) q0.u]) ∈ ps.map TupV.at := List.mem_map_of_mem (f := TupV.at) hq0
    rcases List.mem_cons.mp hp with rfl | hp
    · exact .head _
    rcases List.mem_cons.mp hp with rfl | hp
    · exact .tail _ (.tail _ (.tail _ (List.mem_append_left _ hat)))
    rcases List.mem_cons.mp hp with rfl | hp
    · exact .tail _ (.tail _ (.tail _ (List.mem_append_right _ (.tail _ (.tail _ i1)))))
    rcases List.mem_append.mp hp with hp | hp
    · exact .tail _ (.tail _ (.tail _ (List.mem_append_left _ hp)))
    rcases List.mem_cons.mp hp with rfl | hp
    · exact .tail _ (.head _)
    rcases List.mem_cons.mp hp with rfl | hp
    · exact .tail _ (.tail _ (.head _))
    · exact .tail _ (.tail _ (.tail _ (List.mem_append_right _ hp)))
  intro t5 h5 tk5 F5 N5
  clear F4 N4
  refine law_I w loose mean mg mb h₀ f cdv _ Q E K0 X T _ _ ((del 41 (del 40 t.txt)).take k) t5 (by rw [List.length_take]; omega) (setM_same _ _ _) F5 N5 ?next5
  intro t6 h6 tk6 F6 N6
  clear F5 N5
  obtain ⟨ctl, hctl⟩ := laterC_head ((playR foldG t).1.size - 1) (playR foldG t).2.length (playR foldG t).1 (C.kids hl2)
  have hsz := C.size
  have hkids := C.kids hl2
  have hdu := C.duels
  rw [show (playR foldG t).1.size - 1 + 1 = (playR foldG t).1.size by omega] at hctl
  have hcl := laterC_len (playR foldG t).1.size (playR foldG t).2.length (playR foldG t).1
  rw [hctl] at hcv hcl
  obtain ⟨t0, t1, cvr, rfl, hcr⟩ := hcv.two
  have hcvr := hcr.length
  simp only [List.length_cons] at hcl
  refine law_J w loose mean mg mb h₀ f cdv _ Q E K0 X T _ ((D, listOf (Value.ref q0.a :: qr.map TupV.val).toArray e) :: (ps.map TupV.at ++ ((ord, listOf ov.toArray eo) :: (h₀.objs.size + 1 + 1, oO) :: (duels, listOf ds.toArray ed) :: S1))) counts ec (((playR foldG t).2.length : Nat) : Int) (((playR foldG t).2.length + ((playR foldG t).1.kids.length - 1) : Nat) : Int) many _ t0 t1 tm t6 cvr (by omega) ?eq1 ?eq2 ?mm1 ?mm2 (setM_same _ _ _) F6 (news_sub N6 fun p hp => ?n6) ?next6
  case eq1 => omega
  case eq2 => rw [hdep]; omega
  case mm1 => exact (setM_ne _ _ (by decide)).trans ((setM_ne _ _ (by decide)).trans ((setM_ne _ _ (by decide)).trans ((setM_ne _ _ (by decide)).trans m6)))
  case mm2 => exact (setM_ne _ _ (by decide)).trans ((setM_ne _ _ (by decide)).trans ((setM_ne _ _ (by decide)).trans ((setM_ne _ _ (by decide)).trans m1)))
  case n6 =>
    rcases List.mem_cons.mp hp with rfl | hp
    · exact .tail _ (.tail _ (.tail _ (List.mem_append_right _ (.tail _ (.tail _ (.head _))))))
    rcases List.mem_cons.mp hp with rfl | hp
    · exact .head _
    rcases List.mem_append.mp hp with hp | hp
    · exact .tail _ (.tail _ (.tail _ (List.mem_append_left _ hp)))
    rcases List.mem_cons.mp hp with rfl | hp
    · exact .tail _ (.tail _ (.tail _ (List.mem_append_right _ (.head _))))
    rcases List.mem_cons.mp hp with rfl | hp
    · exact .tail _ (.tail _ (.tail _ (List.mem_append_right _ (.tail _ (.head _)))))
    · exact .tail _ (.tail _ (.tail _ (List.mem_append_right _ (.tail _ (.tail _ (.tail _ hp))))))
  intro h7 tk7 F7 N7
  clear F6 N6
  have NS := news_sub (n2 := S1) N7 (fun p hp => .tail _ (.tail _ (List.mem_append_right _ (.tail _ (.tail _ (.tail _ hp))))))
  have hps2 := PairsAt.off NS i4 (alien_cell d3) hps
  have ordM : @Ne Nat ord (h₀.objs.size + 1 + 1 + 1) := Ne.symm (x3 _ i4)
  have hdl2 := hps.length
  have hpl2 := laterP_len (playR foldG t).1.size (playR foldG t).1
  have hle : (playR foldG t).1.size * (playR foldG t).1.size ≤ 6 * 6 := Nat.mul_le_mul (by omega) (by omega)
  rw [List.length_append] at hdl2
  have hdsn : ds.length < 90 := by omega
  refine law_K w loose mean mg mb h₀ f cdv _ Q E K0 X T _ ((ord, listOf ov.toArray eo) :: (h₀.objs.size + 1 + 1, oO) :: off (h₀.objs.size + 1 + 1 + 1) S1) duels ed ds _ (hps2.mono fun p hp => .tail _ (.tail _ hp)) hdsn oM d3 ?mm3 ?r1 ?r2 (Ne.symm (x1 _ i4)) F7 (news_sub N7 fun p hp => ?n7) ?next7
  case mm3 => exact (setM_ne _ _ (by decide)).trans ((setM_ne _ _ (by decide)).trans ((setM_ne _ _ (by decide)).trans ((setM_ne _ _ (by decide)).trans m5)))
  case r1 =>
    intro p hp
    rcases List.mem_cons.mp hp with rfl | hp
    · exact x2
    rcases List.mem_cons.mp hp with rfl | hp
    · exact x1 _ i3
    · exact x1 p (off_mem hp).1
  case r2 =>
    intro p hp
    rcases List.mem_cons.mp hp with rfl | hp
    · exact ordM
    rcases List.mem_cons.mp hp with rfl | hp
    · show @Ne Nat (h₀.objs.size + 1 + 1) (h₀.objs.size + 1 + 1 + 1)
      omega
    · exact (off_mem hp).2
  case n7 =>
    rcases List.mem_cons.mp hp with rfl | hp
    · exact .tail _ (.tail _ (List.mem_append_right _ (.tail _ (.tail _ (.tail _ i4)))))
    rcases List.mem_cons.mp hp with rfl | hp
    · exact .tail _ (.tail _ (List.mem_append_right _ (.tail _ (.tail _ (.head _)))))
    rcases List.mem_cons.mp hp with rfl | hp
    · exact .tail _ (.tail _ (List.mem_append_right _ (.head _)))
    rcases List.mem_cons.mp hp with rfl | hp
    · exact .tail _ (.tail _ (List.mem_append_right _ (.tail _ (.head _))))
    · exact .tail _ (.tail _ (List.mem_append_right _ (.tail _ (.tail _ (.tail _ (off_mem hp).1)))))
  intro met ms oM' S2 h8 tk8 d4 hms hsub F8 N8
  clear F7 N7
  have hmsl := hms.length
  have hmsn : ms.length < 90 := by rw [hmsl, List.length_append]; omega
  refine law_L w loose mean mg mb h₀ f cdv _ Q E K0 X T _ S2 met ms _ hms hmsn oM' d4 C.once F8 N8 ?next8
  intro h9 tk9 F9 N9
  clear F8 N8
  refine law_M w loose mean mg mb h₀ f cdv _ Q E K0 X T _ S2 met ord eo ms ov _ _ hms hmsn hov many tm (by rw [C.olen]; exact hmany) hm2 oM' oO d4 d2 C.near ?mm4 F9 (news_sub N9 fun p hp => ?n9) ?next9
  case mm4 => exact (setM_ne _ _ (by decide)).trans ((setM_ne _ _ (by decide)).trans ((setM_ne _ _ (by decide)).trans ((setM_ne _ _ (by decide)).trans m1)))
  case n9 =>
    rcases List.mem_cons.mp hp with rfl | hp
    · exact .tail _ (.tail _ (hsub _ (.tail _ (.head _))))
    rcases List.mem_cons.mp hp with rfl | hp
    · exact .tail _ (.tail _ (hsub _ (.head _)))
    · exact hp
  intro h10 tk10 F10
  exact next _ h10 tk10 F10
end Mine
end
section
open PySem PySem.W PySem.Calls PySem.Spec PyProof PyProof.Rows
namespace Mine
theorem law_all (w : World) (loose : List Str) (mean : ExcName → Option Value) (mg mb : Str → Option Value) (h₀ : Heap) (f : Nat) (cdv : Value) (l : Nat) (vs : List Value) (ns : List Int) (s : Shared) (Q : Flow → Shared → Prop) (E : Value → Shared → Prop) (o1 o2 o3 : Obj)
    (K0 : Below callerA h₀ [] h₀) (X : (KF w.params).In h₀) (T : Top viewQ loose mean mg mb h₀) (hl : h₀.IsList l vs.toArray) (hI : IntsAre vs ns) (hn : ns.length ≤ 63) (G : AllBare s.gens)
    (d1 : o1.data = .cell none) (d2 : o2.data = .cell none) (d3 : o3.data = .cell none)
    (F : Fr h₀ h₀.objs.size s.heap (fun y => if y = Str.ofString "script" then some (.ref l) else none))
    (N : News h₀ h₀.objs.size s.heap [(h₀.objs.size + 1 + 1 + 1, o3), (h₀.objs.size + 1 + 1, o2), (h₀.objs.size + 1, o1)])
    (hE : PassesOwn (model PySem.Challenge.rw_wa0035_01.row.prog w) (callerA.deeper (lawEnv h₀.objs.size f cdv)) (lawEnv h₀.objs.size f cdv) E)
    (next : ∀ (m' : Str → Option Value) (h' : Heap) (tk' : Nat) (g' : Array GenState), AllBare g' → Fr h₀ h₀.objs.size h' m' → Q (.ret (.bool true)) { s with heap := h', toks := tk', gens := g' }) :
    LawWp w h₀.objs.size f cdv 0 Q E s := by
  refine law_A w loose mean mg mb h₀ f cdv l vs ns s Q E o1 o2 o3 K0 X T hl hI hn F N ?next1
  intro row pool names plain many tm tr tp h1 tk1 hm lt1 lt2 lt3 lt4 F1 N1
  clear F N
  refine law_B w loose mean mg mb h₀ f cdv _ Q E K0 X T _ [(h₀.objs.size + 1 + 1 + 1, o3), (h₀.objs.size + 1 + 1, o2)] l row pool names plain vs ns hl hI hn many tm tr tp hm o1 d1 (frA_script ..) (frA_row ..) (frA_many ..) (frA_pool ..) (frA_names ..) (frA_plain ..) F1 (news_sub N1 fun p hp => ?n1) (by omega) lt1 lt2 lt3 ?r1 ?r2 ?r3 ?r4 hE ?next2
  case n1 =>
    simp only [List.mem_cons, List.not_mem_nil, or_false] at hp ⊢
    rcases hp with h | h | h | h | h | h | h
    · exact .inl h
    · exact .inr (.inl h)
    · exact .inr (.inr (.inl h))
    · exact .inr (.inr (.inr (.inl h)))
    · exact .inr (.inr (.inr (.inr (.inr (.inr h)))))
    · exact .inr (.inr (.inr (.inr (.inl h))))
    · exact .inr (.inr (.inr (.inr (.inr (.inl h)))))
  case r1 =>
    intro p hp
    simp only [List.mem_cons, List.not_mem_nil, or_false] at hp
    rcases hp with rfl | rfl
    · show @Ne Nat (h₀.objs.size + 1 + 1 + 1) plain; omega
    · show @Ne Nat (h₀.objs.size + 1 + 1) plain; omega
  case r2 =>
    intro p hp
    simp only [List.mem_cons, List.not_mem_nil, or_false] at hp
    rcases hp with rfl | rfl
    · show @Ne Nat (h₀.objs.size + 1 + 1 + 1) names; omega
    · show @Ne Nat (h₀.objs.size + 1 + 1) names; omega
  case r3 =>
    intro p hp
    simp only [List.mem_cons, List.not_mem_nil, or_false] at hp
    rcases hp with rfl | rfl
    · show @Ne Nat (h₀.objs.size + 1 + 1 + 1) pool; omega
    · show @Ne Nat (h₀.objs.size + 1 + 1) pool; omega
  case r4 =>
    intro p hp
    simp only [List.mem_cons, List.not_mem_nil, or_false] at hp
    rcases hp with rfl | rfl
    · show @Ne Nat (h₀.objs.size + 1 + 1 + 1) (h₀.objs.size + 1); omega
    · show @Ne Nat (h₀.objs.size + 1 + 1) (h₀.objs.size + 1); omega
  intro m2 pls v1 v2 e1 e2 h2 tk2 hlen hok hnd hv1 hv2 hkp F2 N2
  clear F1 N1
  have hl2 : 2 ≤ pls.length := by omega
  have hl6 : pls.length ≤ 6 := by omega
  have k1 : m2 (Str.ofString "script") = some (.ref l) := (hkp _ (by decide) (by decide) (by decide) (by decide)).trans (frA_script ..)
  have k2 : m2 (Str.ofString "names") = some (.ref names) := (hkp _ (by decide) (by decide) (by decide) (by decide)).trans (frA_names ..)
  have k3 : m2 (Str.ofString "many") = some (.int many tm) := (hkp _ (by decide) (by decide) (by decide) (by decide)).trans (frA_many ..)
  have k4 : m2 (Str.ofString "plain") = some (.ref plain) := (hkp _ (by decide) (by decide) (by decide) (by decide)).trans (frA_plain ..)
  have hsum : ((pls.map Pl.raw).map fun x => x.length + 4).sum < 900 := by
    have := sum_le 9 ((pls.map Pl.raw).map fun x => x.length + 4) fun x hx => by
      obtain ⟨y, hy, rfl⟩ := List.mem_map.mp hx
      obtain ⟨p, hp, rfl⟩ := List.mem_map.mp hy
      have := (hok p hp).raw_len
      omega
    rw [List.length_map, List.length_map] at this
    omega
  refine law_C6 w loose mean mg mb h₀ f cdv _ Q E K0 X T m2 [(plain, listOf v2.toArray e2), (h₀.objs.size + 1 + 1 + 1, o3), (h₀.objs.size + 1 + 1, o2)] l names e1 vs ns hl hI hn v1 (pls.map Pl.raw) hv1 (by rw [List.length_map]; omega) (by rw [List.length_map]; omega) hsum G k1 k2 F2 (news_sub N2 fun p hp => ?n2) ?next3
  case n2 =>
    simp only [List.mem_cons, List.not_mem_nil, or_false] at hp ⊢
    rcases hp with h | h | h | h
    · exact .inr (.inl h)
    · exact .inl h
    · exact .inr (.inr (.inl h))
    · exact .inr (.inr (.inr h))
  intro v tt h3 tk3 g3 F3 N3 G3
  clear F2 N2
  have hus := br_us 5 (pls.map Pl.raw) v (by rw [List.length_map]; omega) (by rw [List.length_map]; omega)
  have C : Cup pls (brT 5 (pls.map Pl.raw) v) := ⟨hok, hnd, hus⟩
  have htl : (brT 5 (pls.map Pl.raw) v).txt.length < 900 := by
    have := txt_len 5 (pls.map Pl.raw) v (by rw [List.length_map]; omega) (by rw [List.length_map]; omega)
    omega
  generalize brT 5 (pls.map Pl.raw) v = t at C htl F3
  clear hus
  have hlv := C.leaves
  have hdu := C.duels
  have hsz := C.size
  have hnl := Tr.need_le t
  have hpa : PlayAll w t.need t.txt (playR foldG t).1 (playR foldG t).2 := fun dl => play_ctr w foldG dl t C.good htl (by omega)
  refine law_C78 w loose mean mg mb h₀ f cdv _ Q E K0 X T _ [(names, listOf v1.toArray e1), (plain, listOf v2.toArray e2), (h₀.objs.size + 1 + 1 + 1, o3), (h₀.objs.size + 1 + 1, o2)] t.txt tt t.need _ _ hpa (by omega) (by omega) G3 (setM_same _ _ _) F3 N3 ?next4
  intro duels b ds e R' h4 tk4 g4 hsub hnd4 hR hps F4 N4 G4
  clear F3 N3
  have NR : News h₀ h₀.objs.size h4 R' := news_sub N4 fun p hp => .tail _ hp
  have j2 : (h₀.objs.size + 1 + 1, o2) ∈ R' := hsub _ (.tail _ (.tail _ (.tail _ (.head _))))
  have hR2 := RIn.off NR j2 (alien_cell d2) hR
  have hps2 := PairsAt.off NR j2 (alien_cell d2) hps
  have hdl := hps.length
  have keep : ∀ p ∈ R', p.1 ≠ h₀.objs.size + 1 + 1 → p ∈ off (h₀.objs.size + 1 + 1) R' := fun p hp hne => mem_off hp hne
  generalize hRR : (playR foldG t).1 = RR at hR hR2
  cases hR2 with
  | @mk x k _ kl ek ks kvs hb hkl hks =>
  have hbn : @Ne Nat b (h₀.objs.size + 1 + 1) := (off_mem hb).2
  refine law_C910 w loose mean mg mb h₀ f cdv _ Q E K0 X T _ (off (h₀.objs.size + 1 + 1) R') duels b kl e x k ds (by omega) o2 none d2 ((setM_ne _ _ (by decide)).trans (setM_same _ _ _)) (setM_same _ _ _) F4 (fun p hp => ?n4) hbn (Ne.symm (hnd4 _ j2)) (fun p hp => (off_mem hp).2) ?next5
  case n4 =>
    rcases List.mem_cons.mp hp with rfl | hp
    · exact NR _ j2
    rcases List.mem_cons.mp hp with rfl | hp
    · exact NR _ (off_mem hb).1
    rcases List.mem_cons.mp hp with rfl | hp
    · exact N4 _ (.head _)
    · exact NR _ (off_mem hp).1
  intro counts ord tc oO h5 tk5 d5 lc lo F5 N5
  clear F4 N4
  obtain ⟨lc1, lc2, lc3, lc4⟩ := lc
  obtain ⟨lo0, lo1, lo2, lo3, lo4⟩ := lo
  have subS : ∀ p ∈ off (h₀.objs.size + 1 + 1) R', p ∈ (h₀.objs.size + 1 + 1, oO) :: off (h₀.objs.size + 1 + 1) R' := fun p hp => .tail _ hp
  have hR3 : RIn ((h₀.objs.size + 1 + 1, oO) :: off (h₀.objs.size + 1 + 1) R') (playR foldG t).1 (.ref b) := by
    rw [hRR]
    exact RIn.mk (subS _ hb) (subS _ hkl) (hks.mono subS)
  have hxe : x = (playR foldG t).1.name := by rw [hRR]; rfl
  have hz : (playR foldG t).1.size * (playR foldG t).1.size ≤ 6 * 6 := Nat.mul_le_mul (by omega) (by omega)
  refine law_D w loose mean mg mb h₀ f cdv _ Q E K0 X T _ duels counts ord b e 0 0 (playR foldG t).1 (playR foldG t).2 ds [.str (S' x) k] [.int (ds.length : Int) tc] [x] [(playR foldG t).2.length] ((h₀.objs.size + 1 + 1, oO) :: off (h₀.objs.size + 1 + 1) R') oO d5 (.head _) hR3 (hps2.mono subS) ?x1 ?x2 ?x3
    (by omega) (by omega) (by omega) ⟨⟨k, rfl⟩, trivial⟩ (by simp) rfl ⟨⟨tc, by rw [hdl]⟩, trivial⟩ (by simp) (by omega) (by simp; omega) (by simp; omega) ((setM_ne _ _ (by decide)).trans ((setM_ne _ _ (by decide)).trans (setM_same _ _ _))) ((setM_ne _ _ (by decide)).trans (setM_same _ _ _)) (setM_same _ _ _) F5 (fun p hp => ?n5) hE ?next6
  case x1 =>
    intro p hp
    rcases List.mem_cons.mp hp with rfl | hp
    · show @Ne Nat (h₀.objs.size + 1 + 1) ord; omega
    · exact AllLt.mem lo4 p hp
  case x2 =>
    intro p hp
    rcases List.mem_cons.mp hp with rfl | hp
    · show @Ne Nat (h₀.objs.size + 1 + 1) counts; omega
    · exact AllLt.mem lc4 p hp
  case x3 =>
    intro p hp
    rcases List.mem_cons.mp hp with rfl | hp
    · have := hnd4 _ j2
      exact this
    · exact hnd4 p (off_mem hp).1
  case n5 =>
    simp only [List.mem_cons] at hp
    rcases hp with rfl | rfl | rfl | rfl | hp
    · exact N5 _ (.head _)
    · exact N5 _ (.tail _ (.head _))
    · exact N5 _ (.tail _ (.tail _ (.tail _ (.tail _ (.head _)))))
    · exact N5 _ (.tail _ (.tail _ (.head _)))
    · exact N5 _ (.tail _ (.tail _ (.tail _ (.tail _ (.tail _ hp)))))
  intro ed eo ec ds' ov cv S1 m6 h6 tk6 hs6 n6a n6b n6c hps6 hov6 hcv6 hm6 F6 N6
  clear F5 N5
  have inS : ∀ p ∈ R', p.1 ≠ h₀.objs.size + 1 + 1 → p ∈ S1 := fun p hp hne => hs6 p (subS p (keep p hp hne))
  have nn : @Ne Nat names (h₀.objs.size + 1 + 1) := by omega
  have np : @Ne Nat plain (h₀.objs.size + 1 + 1) := by omega
  have n3 : @Ne Nat (h₀.objs.size + 1 + 1 + 1) (h₀.objs.size + 1 + 1) := by omega
  have od : @Ne Nat ord duels := by omega
  have mm : ∀ y v', y ≠ Str.ofString "best" → y ≠ Str.ofString "other" → y ≠ Str.ofString "others" → y ≠ Str.ofString "counts" → y ≠ Str.ofString "duels" → setM m2 (Str.ofString "text") (.str (S' t.txt) tt) y = some v' → m6 y = some v' := by
    intro y v' q1 q2 q3 q4 q5 q6
    rw [hm6 y q1 q2 q3]
    exact (setM_ne _ _ q4).trans ((setM_ne _ _ q1).trans ((setM_ne _ _ q5).trans q6))
  rw [hxe] at hov6
  refine law_tail w loose mean mg mb h₀ f cdv _ Q E K0 X T m6 pls t C hl2 hl6 htl many tm tt hlen hm names plain ord counts duels e1 e2 eo ec ed v1 v2 ov cv ds' S1 oO o3 d5 d3 hv1 hv2 hps6 hov6 hcv6 (inS _ (hsub _ (.head _)) nn) (inS _ (hsub _ (.tail _ (.head _))) np) (hs6 _ (.head _)) (inS _ (hsub _ (.tail _ (.tail _ (.head _)))) n3) n6c od n6a
    (mm _ _ (by decide) (by decide) (by decide) (by decide) (by decide) ((setM_ne _ _ (by decide)).trans k3)) (mm _ _ (by decide) (by decide) (by decide) (by decide) (by decide) ((setM_ne _ _ (by decide)).trans k2)) (mm _ _ (by decide) (by decide) (by decide) (by decide) (by decide) ((setM_ne _ _ (by decide)).trans k4))
    (mm _ _ (by decide) (by decide) (by decide) (by decide) (by decide) (setM_same _ _ _)) ?m5 ?m6 F6 N6 ?next7
  case m5 =>
    rw [hm6 _ (by decide) (by decide) (by decide)]
    exact (setM_ne _ _ (by decide)).trans ((setM_ne _ _ (by decide)).trans (setM_same _ _ _))
  case m6 =>
    rw [hm6 _ (by decide) (by decide) (by decide)]
    exact setM_same _ _ _
  intro m7 h7 tk7 F7
  exact next m7 h7 tk7 _ G4 F7
end Mine
end
section
open PySem PySem.W PySem.Calls PySem.Spec PyProof PyProof.Rows
namespace Mine
/-- the law's call, in the words of the head -/
theorem law_call {w : World} {loose : List Str} {mean : ExcName → Option Value} {mg mb : Str → Option Value} {h₀ : Heap} {f : Nat} {cdv : Value} {l : Nat} {vs : List Value} {ns : List Int} {s : Shared} {Q : Flow → Shared → Prop} {E : Value → Shared → Prop} {o1 o2 o3 : Obj} {name : Str} {scope : Scope} {body : List Stmt} {m : Str → Option Value}
    (e1 : nameOf 15 = name) (e2 : scopeOf 15 = scope) (e3 : bodyOf 15 = body)
    (K0 : Below callerA h₀ [] h₀) (X : (KF w.params).In h₀) (T : Top viewQ loose mean mg mb h₀) (hl : h₀.IsList l vs.toArray) (hI : IntsAre vs ns) (hn : ns.length ≤ 63) (G : AllBare s.gens)
    (d1 : o1.data = .cell none) (d2 : o2.data = .cell none) (d3 : o3.data = .cell none)
    (F : Fr h₀ h₀.objs.size s.heap m) (hm : m = fun y => if y = Str.ofString "script" then some (.ref l) else none)
    (N : News h₀ h₀.objs.size s.heap [(h₀.objs.size + 1 + 1 + 1, o3), (h₀.objs.size + 1 + 1, o2), (h₀.objs.size + 1, o1)])
    (hE : PassesOwn (model PySem.Challenge.rw_wa0035_01.row.prog w) (callerA.deeper (envOfC name scope h₀.objs.size f cdv)) (envOfC name scope h₀.objs.size f cdv) E)
    (next : ∀ (m' : Str → Option Value) (h' : Heap) (tk' : Nat) (g' : Array GenState), AllBare g' → Fr h₀ h₀.objs.size h' m' → Q (.ret (.bool true)) { s with heap := h', toks := tk', gens := g' }) :
    wpAny (model PySem.Challenge.rw_wa0035_01.row.prog w) (callerA.deeper (envOfC name scope h₀.objs.size f cdv)) (execs body (envOfC name scope h₀.objs.size f cdv)) Q E s := by
  subst e1 e2 e3 hm
  exact law_all w loose mean mg mb h₀ f cdv l vs ns s Q E o1 o2 o3 K0 X T hl hI hn G d1 d2 d3 F N hE next
end Mine
end
open PySem PySem.W PySem.Calls PySem.Spec PyProof PyProof.Rows
namespace Mine
theorem law_said : PySem.Challenge.rw_wa0035_01.wellSaid = true := by
  unfold OpenLaw.wellSaid
  repeat' (first | (with_reducible refine look_both ?_ ?_) | (with_reducible show OpenRow.wellSaid _ = true; unfold OpenRow.wellSaid) | (with_reducible show OpenRow.partSaid _ = true; unfold OpenRow.partSaid) | (with_reducible show looksOpen _ = true; unfold looksOpen))
  all_goals (try (first | rw [PySem.W.Fast.te8326940854005059898] | rw [PySem.W.Fast.te17119622794617984870] | rw [PySem.W.Fast.te8377067652309620493]))
  all_goals decide +kernel
theorem left_ok : LeftO PySem.Challenge.pw_wa0035_01 viewQ looseQ XtQ hookQ.obs hookQ.val 27844 :=
  LeftO.of_pieces (H₀ := fun P => boot_heap P) (H₁ := H1f) (m₀ := 11) (ann := some (.ref 6)) open_ok size_ok run_ok (by kernel_rfl) fun w => by
    funext os
    exact looks_pair (congrFun (look1 w) os) (looks_pair (congrFun (look2 w) os) (congrFun (look3 w) os))
end Mine
theorem PySem.Challenge.cw_wa0035_01_holds : PySem.Challenge.rw_wa0035_01.Holds := by
  w_on
  refine holds_law Mine.law_said fun said => ?_
  refine holds_open (q := Mine.viewQ) (loose := Mine.looseQ) (Xt := Mine.XtQ) (XP := XL Mine.viewQ []) (YP := Mine.hookQ.says) (N := 27844) Mine.left_ok Mine.hookQ.of Mine.hookQ.keeps (fun s e => xl_of s (Bool.and_eq_true_iff.mp e).1) XL.keeps (by rfl) (by rfl) (by rfl) (fun s e => recFacts_of (Bool.and_eq_true_iff.mp e).2) (by rfl) (by first | assumption | decide +kernel) (by decide +kernel) ⟨rfl, rfl, rfl, rfl, rfl, by decide +kernel⟩ ?hw ?hc
  case hw => w_witness2
  case hc =>
    k_fill
    intro w s₀ s₁ mg mb G Y fa o pm cd doc dV kV ho hd hcd hD hmg hg args vals as hpre hlay hrd hwl hlo
    have X8 := kIn_of Y
    refine Ground.open G ?_
    intro T B D TE TW
    clear B D TE TW hmg Y
    wrow_args hpre hlay hrd hwl hlo
    refine enter_call ?_
    w_top on
    have K8 := below_caller (Top.heap T)
    w_call any ho hd hcd hD T F8
    clear hd
    rename_i o3 o2 o1 e3 e2 e1 N8 X0
    rename Heap.IsList _ _ _ => L8
    rename IntsAre _ _ => I8
    rename ¬ _ => C8
    have d3 : o3.data = .cell none := e3.trans (by with_unfolding_all rfl)
    have d2 : o2.data = .cell none := e2.trans (by with_unfolding_all rfl)
    have d1 : o1.data = .cell none := e1.trans (by with_unfolding_all rfl)
    clear e1 e2 e3
    refine Mine.law_call (o1 := o1) (o2 := o2) (o3 := o3) ?e1 ?e2 ?e3 K8 X8 T L8 I8 ?hn (AllBare.of_eq hg) d1 d2 d3 F8 ?hm N8 ?hE ?next
    case hn => omega
    case e1 => kernel_rfl
    case e2 => kernel_rfl
    case e3 => kernel_rfl
    case hm => kernel_rfl
    case hE => passes_own
    case next =>
      intro m' h' tk' g' G' F'
      refine ⟨.inl ⟨.bool true, .bool true, [], rfl, raisesW_false ?hn, .bool true, ?hp, unshared_nil⟩, OldK.of_keep F'.keep, rfl, G'⟩
      case hn => wrow_none_raised
      case hp => exact postW_of (by wrow_shape) (by wtm_val) (by first | rfl | w_fin)
