import PyProof.Rows.All
import Wide.All
import OpenK.AllK
import Wide.FinOn
import PySem.Challenge.RW_ny0091_01
open PySem PySem.W PyProof.Rows
set_option Elab.async false
set_option maxRecDepth 100000
set_option linter.all false

noncomputable section
set_option maxHeartbeats 8000000
namespace Mine
noncomputable abbrev fnOf : Stmt → Option (Arguments × List Stmt × Scope)
  | .FunctionDef _ p b _ _ _ s _ _ _ => some (p, b, s)
  | _ => none
noncomputable abbrev clsOf : Stmt → List Stmt
  | .ClassDef _ _ _ b _ _ _ _ _ _ _ => b
  | _ => []
noncomputable abbrev topAst : List Stmt := PySem.Challenge.pw_ny0091_01.main.body
noncomputable abbrev stAt (l : List Stmt) (n : Nat) : Stmt := l.getD n (.Pass default)
noncomputable abbrev clsAst : List Stmt := clsOf (stAt topAst 7)
noncomputable abbrev hpOf (P : Params) {f0p f3p f4p m0p m1p m2p m3p m4p m5p m6p m7p m8p f9p f10p f11p f12p f13p f14p f15p f16p f17p f18p : Arguments} {f0b f3b f4b m0b m1b m2b m3b m4b m5b m6b m7b m8b f9b f10b f11b f12b f13b f14b f15b f16b f17b f18b : List Stmt} {f0s f3s f4s m0s m1s m2s m3s m4s m5s m6s m7s m8s f9s f10s f11s f12s f13s f14s f15s f16s f17s f18s : Scope}
    (_ : fnOf (stAt topAst 0) = some (f0p, f0b, f0s)) (_ : fnOf (stAt topAst 3) = some (f3p, f3b, f3s)) (_ : fnOf (stAt topAst 4) = some (f4p, f4b, f4s)) (_ : fnOf (stAt clsAst 0) = some (m0p, m0b, m0s)) (_ : fnOf (stAt clsAst 1) = some (m1p, m1b, m1s)) (_ : fnOf (stAt clsAst 2) = some (m2p, m2b, m2s)) (_ : fnOf (stAt clsAst 3) = some (m3p, m3b, m3s)) (_ : fnOf (stAt clsAst 4) = some (m4p, m4b, m4s)) (_ : fnOf (stAt clsAst 5) = some (m5p, m5b, m5s)) (_ : fnOf (stAt clsAst 6) = some (m6p, m6b, m6s)) (_ : fnOf (stAt clsAst 7) = some (m7p, m7b, m7s)) (_ : fnOf (stAt clsAst 8) = some (m8p, m8b, m8s)) (_ : fnOf (stAt topAst 9) = some (f9p, f9b, f9s)) (_ : fnOf (stAt topAst 10) = some (f10p, f10b, f10s)) (_ : fnOf (stAt topAst 11) = some (f11p, f11b, f11s)) (_ : fnOf (stAt topAst 12) = some (f12p, f12b, f12s)) (_ : fnOf (stAt topAst 13) = some (f13p, f13b, f13s)) (_ : fnOf (stAt topAst 14) = some (f14p, f14b, f14s)) (_ : fnOf (stAt topAst 15) = some (f15p, f15b, f15s)) (_ : fnOf (stAt topAst 16) = some (f16p, f16b, f16s)) (_ : fnOf (stAt topAst 17) = some (f17p, f17b, f17s)) (_ : fnOf (stAt topAst 18) = some (f18p, f18b, f18s)) : Frag :=
  [(2, PySem.Obj.mk PySem.Value.none Option.none (PySem.Data.dict #[]) #[]),
   (3, PySem.Obj.mk (PySem.Value.type "dict") Option.none (PySem.Data.dict #[PySem.DictEntry.mk (PySem.PyData.keyHash P (PySem.Str.ofString "__name__")) (PySem.Value.str (PySem.Str.ofString "__name__") 165) (PySem.Value.str (PySem.Str.ofString "law_ny0091_01") 314), PySem.DictEntry.mk (PySem.PyData.keyHash P (PySem.Str.ofString "__doc__")) (PySem.Value.str (PySem.Str.ofString "__doc__") 166) PySem.Value.none, PySem.DictEntry.mk (PySem.PyData.keyHash P (PySem.Str.ofString "__package__")) (PySem.Value.str (PySem.Str.ofString "__package__") 167) PySem.Value.none, PySem.DictEntry.mk (PySem.PyData.keyHash P (PySem.Str.ofString "__loader__")) (PySem.Value.str (PySem.Str.ofString "__loader__") 168) (PySem.Value.builtin "__main__.__loader__#opaque"), PySem.DictEntry.mk (PySem.PyData.keyHash P (PySem.Str.ofString "__spec__")) (PySem.Value.str (PySem.Str.ofString "__spec__") 169) PySem.Value.none, PySem.DictEntry.mk (PySem.PyData.keyHash P (PySem.Str.ofString "__annotations__")) (PySem.Value.str (PySem.Str.ofString "__annotations__") 170) (PySem.Value.ref 6), PySem.DictEntry.mk (PySem.PyData.keyHash P (PySem.Str.ofString "__builtins__")) (PySem.Value.str (PySem.Str.ofString "__builtins__") 171) (PySem.Value.ref 4), PySem.DictEntry.mk (PySem.PyData.keyHash P (PySem.Str.ofString "__file__")) (PySem.Value.str (PySem.Str.ofString "__file__") 173) (PySem.Value.str (PySem.Str.ofString "/claim/cut.py") 172), PySem.DictEntry.mk (PySem.PyData.keyHash P (PySem.Str.ofString "__cached__")) (PySem.Value.str (PySem.Str.ofString "__cached__") 174) PySem.Value.none, PySem.DictEntry.mk (PySem.PyData.keyHash P (PySem.Str.ofString "_wall")) (PySem.Value.str (PySem.Str.ofString "_wall") 193) (PySem.Value.ref 21), PySem.DictEntry.mk (PySem.PyData.keyHash P (PySem.Str.ofString "_initial_missing")) (PySem.Value.str (PySem.Str.ofString "_initial_missing") 196) (PySem.Value.ref 22), PySem.DictEntry.mk (PySem.PyData.keyHash P (PySem.Str.ofString "reduce")) (PySem.Value.str (PySem.Str.ofString "reduce") 208) (PySem.Value.ref 30), PySem.DictEntry.mk (PySem.PyData.keyHash P (PySem.Str.ofString "_c3_merge")) (PySem.Value.str (PySem.Str.ofString "_c3_merge") 214) (PySem.Value.ref 35), PySem.DictEntry.mk (PySem.PyData.keyHash P (PySem.Str.ofString "EMPTYSTRING")) (PySem.Value.str (PySem.Str.ofString "EMPTYSTRING") 218) (PySem.Value.str (PySem.Str.ofString "") 217), PySem.DictEntry.mk (PySem.PyData.keyHash P (PySem.Str.ofString "_Accumulator")) (PySem.Value.str (PySem.Str.ofString "_Accumulator") 313) (PySem.Value.ref 114), PySem.DictEntry.mk (PySem.PyData.keyHash P (PySem.Str.ofString "_law_piece")) (PySem.Value.str (PySem.Str.ofString "_law_piece") 322) (PySem.Value.ref 125), PySem.DictEntry.mk (PySem.PyData.keyHash P (PySem.Str.ofString "_law_row")) (PySem.Value.str (PySem.Str.ofString "_law_row") 328) (PySem.Value.ref 130), PySem.DictEntry.mk (PySem.PyData.keyHash P (PySem.Str.ofString "_law_opened")) (PySem.Value.str (PySem.Str.ofString "_law_opened") 337) (PySem.Value.ref 137), PySem.DictEntry.mk (PySem.PyData.keyHash P (PySem.Str.ofString "_law_pushed")) (PySem.Value.str (PySem.Str.ofString "_law_pushed") 346) (PySem.Value.ref 144), PySem.DictEntry.mk (PySem.PyData.keyHash P (PySem.Str.ofString "_law_run")) (PySem.Value.str (PySem.Str.ofString "_law_run") 353) (PySem.Value.ref 151), PySem.DictEntry.mk (PySem.PyData.keyHash P (PySem.Str.ofString "_law_wanted")) (PySem.Value.str (PySem.Str.ofString "_law_wanted") 362) (PySem.Value.ref 158), PySem.DictEntry.mk (PySem.PyData.keyHash P (PySem.Str.ofString "_law_ahead")) (PySem.Value.str (PySem.Str.ofString "_law_ahead") 368) (PySem.Value.ref 163), PySem.DictEntry.mk (PySem.PyData.keyHash P (PySem.Str.ofString "_law_told")) (PySem.Value.str (PySem.Str.ofString "_law_told") 374) (PySem.Value.ref 168), PySem.DictEntry.mk (PySem.PyData.keyHash P (PySem.Str.ofString "_law_joined")) (PySem.Value.str (PySem.Str.ofString "_law_joined") 382) (PySem.Value.ref 175), PySem.DictEntry.mk (PySem.PyData.keyHash P (PySem.Str.ofString "law")) (PySem.Value.str (PySem.Str.ofString "law") 388) (PySem.Value.ref 180)] 25) #[]),
   (15, PySem.Obj.mk (PySem.Value.type "tuple") Option.none (PySem.Data.seq #[]) #[]),
   (17, PySem.Obj.mk (PySem.Value.type "tuple") Option.none (PySem.Data.seq #[PySem.Value.str (PySem.Str.ofString "k") 190]) #[]),
   (18, PySem.Obj.mk (PySem.Value.type "tuple") Option.none (PySem.Data.seq #[]) #[]),
   (20, PySem.Obj.mk (PySem.Value.type "code") Option.none (PySem.Data.fields #[PySem.Value.str (PySem.Str.ofString "_wall") 187, PySem.Value.str (PySem.Str.ofString "_wall") 188, PySem.Value.str (PySem.Str.ofString "/claim/cut.py") 189, PySem.Value.int 1 0, PySem.Value.int 1 0, PySem.Value.int 0 0, PySem.Value.int 0 0, PySem.Value.int 3 0, PySem.Value.ref 15, PySem.Value.bool Bool.true, PySem.Value.int 181 0, PySem.Value.ref 16, PySem.Value.none, PySem.Value.ref 17, PySem.Value.ref 18, PySem.Value.ref 19, PySem.Value.int 191 0, PySem.Value.int 1 0, PySem.Value.str (PySem.Str.ofString "/claim/cut.py") 192]) #[]),
   (21, PySem.Obj.mk (PySem.Value.type "function") Option.none (PySem.Data.func (PySem.FuncData.mk (PySem.Str.ofString "_wall") (PySem.Str.ofString "_wall") f0p (PySem.FuncBody.stmts f0b) f0s 3 [] PySem.Value.none PySem.Value.none PySem.Value.none (PySem.Value.str (PySem.Str.ofString "__main__") 164) Option.none (PySem.Value.ref 20) PySem.Value.none 0)) #[]),
   (22, PySem.Obj.mk (PySem.Value.type "object") Option.none PySem.Data.plain #[]),
   (23, PySem.Obj.mk (PySem.Value.type "tuple") Option.none (PySem.Data.seq #[PySem.Value.ref 22]) #[]),
   (24, PySem.Obj.mk (PySem.Value.type "tuple") Option.none (PySem.Data.seq #[]) #[]),
   (26, PySem.Obj.mk (PySem.Value.type "tuple") Option.none (PySem.Data.seq #[PySem.Value.str (PySem.Str.ofString "function") 200, PySem.Value.str (PySem.Str.ofString "sequence") 201, PySem.Value.str (PySem.Str.ofString "initial") 202, PySem.Value.str (PySem.Str.ofString "it") 203, PySem.Value.str (PySem.Str.ofString "value") 204, PySem.Value.str (PySem.Str.ofString "element") 205]) #[]),
   (27, PySem.Obj.mk (PySem.Value.type "tuple") Option.none (PySem.Data.seq #[]) #[]),
   (29, PySem.Obj.mk (PySem.Value.type "code") Option.none (PySem.Data.fields #[PySem.Value.str (PySem.Str.ofString "reduce") 197, PySem.Value.str (PySem.Str.ofString "reduce") 198, PySem.Value.str (PySem.Str.ofString "/claim/cut.py") 199, PySem.Value.int 6 0, PySem.Value.int 3 0, PySem.Value.int 0 0, PySem.Value.int 0 0, PySem.Value.int 3 0, PySem.Value.ref 24, PySem.Value.bool Bool.true, PySem.Value.int 181 0, PySem.Value.ref 25, PySem.Value.none, PySem.Value.ref 26, PySem.Value.ref 27, PySem.Value.ref 28, PySem.Value.int 206 0, PySem.Value.int 6 0, PySem.Value.str (PySem.Str.ofString "/claim/cut.py") 207]) #[]),
   (30, PySem.Obj.mk (PySem.Value.type "function") Option.none (PySem.Data.func (PySem.FuncData.mk (PySem.Str.ofString "reduce") (PySem.Str.ofString "reduce") f3p (PySem.FuncBody.stmts f3b) f3s 3 [] (PySem.Value.ref 23) PySem.Value.none PySem.Value.none (PySem.Value.str (PySem.Str.ofString "cpy313.functools") 194) Option.none (PySem.Value.ref 29) PySem.Value.none 0)) #[]),
   (31, PySem.Obj.mk (PySem.Value.type "tuple") Option.none (PySem.Data.seq #[]) #[]),
   (34, PySem.Obj.mk (PySem.Value.type "code") Option.none (PySem.Data.fields #[PySem.Value.str (PySem.Str.ofString "_c3_merge") 209, PySem.Value.str (PySem.Str.ofString "_c3_merge") 210, PySem.Value.str (PySem.Str.ofString "/claim/cut.py") 211, PySem.Value.int 18 0, PySem.Value.int 1 0, PySem.Value.int 0 0, PySem.Value.int 0 0, PySem.Value.int 3 0, PySem.Value.ref 31, PySem.Value.bool Bool.true, PySem.Value.int 181 0, PySem.Value.ref 32, PySem.Value.none, PySem.Value.none, PySem.Value.none, PySem.Value.ref 33, PySem.Value.int 212 0, PySem.Value.int 18 0, PySem.Value.str (PySem.Str.ofString "/claim/cut.py") 213]) #[]),
   (35, PySem.Obj.mk (PySem.Value.type "function") Option.none (PySem.Data.func (PySem.FuncData.mk (PySem.Str.ofString "_c3_merge") (PySem.Str.ofString "_c3_merge") f4p (PySem.FuncBody.stmts f4b) f4s 3 [] PySem.Value.none PySem.Value.none PySem.Value.none (PySem.Value.str (PySem.Str.ofString "cpy313.functools") 194) Option.none (PySem.Value.ref 34) PySem.Value.none 0)) #[]),
   (36, PySem.Obj.mk (PySem.Value.type "tuple") Option.none (PySem.Data.seq #[PySem.Value.type "list"]) #[]),
   (39, PySem.Obj.mk (PySem.Value.type "cell") Option.none (PySem.Data.cell (Option.some (PySem.Value.ref 114))) #[]),
   (44, PySem.Obj.mk (PySem.Value.type "tuple") Option.none (PySem.Data.seq #[PySem.Value.int 0 231]) #[]),
   (45, PySem.Obj.mk (PySem.Value.type "tuple") Option.none (PySem.Data.seq #[PySem.Value.ref 39]) #[]),
   (46, PySem.Obj.mk (PySem.Value.type "tuple") Option.none (PySem.Data.seq #[PySem.Value.str (PySem.Str.ofString "__class__") 235]) #[]),
   (48, PySem.Obj.mk (PySem.Value.type "tuple") Option.none (PySem.Data.seq #[PySem.Value.str (PySem.Str.ofString "self") 236, PySem.Value.str (PySem.Str.ofString "initial_size") 237]) #[]),
   (49, PySem.Obj.mk (PySem.Value.type "tuple") Option.none (PySem.Data.seq #[]) #[]),
   (51, PySem.Obj.mk (PySem.Value.type "code") Option.none (PySem.Data.fields #[PySem.Value.str (PySem.Str.ofString "__init__") 232, PySem.Value.str (PySem.Str.ofString "_Accumulator.__init__") 233, PySem.Value.str (PySem.Str.ofString "/claim/cut.py") 234, PySem.Value.int 42 0, PySem.Value.int 2 0, PySem.Value.int 0 0, PySem.Value.int 0 0, PySem.Value.int 3 0, PySem.Value.ref 46, PySem.Value.bool Bool.true, PySem.Value.int 181 0, PySem.Value.ref 47, PySem.Value.none, PySem.Value.ref 48, PySem.Value.ref 49, PySem.Value.ref 50, PySem.Value.int 238 0, PySem.Value.int 42 0, PySem.Value.str (PySem.Str.ofString "/claim/cut.py") 239]) #[]),
   (52, PySem.Obj.mk (PySem.Value.type "function") Option.none (PySem.Data.func (PySem.FuncData.mk (PySem.Str.ofString "__init__") (PySem.Str.ofString "_Accumulator.__init__") m0p (PySem.FuncBody.stmts m0b) m0s 3 [(PySem.Str.ofString "__class__", 39)] (PySem.Value.ref 44) PySem.Value.none PySem.Value.none (PySem.Value.str (PySem.Str.ofString "cpy313.email.header") 215) Option.none (PySem.Value.ref 51) (PySem.Value.ref 45) 0)) #[]),
   (53, PySem.Obj.mk (PySem.Value.type "tuple") Option.none (PySem.Data.seq #[]) #[]),
   (55, PySem.Obj.mk (PySem.Value.type "tuple") Option.none (PySem.Data.seq #[PySem.Value.str (PySem.Str.ofString "self") 244, PySem.Value.str (PySem.Str.ofString "fws") 245, PySem.Value.str (PySem.Str.ofString "string") 246]) #[]),
   (56, PySem.Obj.mk (PySem.Value.type "tuple") Option.none (PySem.Data.seq #[]) #[]),
   (58, PySem.Obj.mk (PySem.Value.type "code") Option.none (PySem.Data.fields #[PySem.Value.str (PySem.Str.ofString "push") 241, PySem.Value.str (PySem.Str.ofString "_Accumulator.push") 242, PySem.Value.str (PySem.Str.ofString "/claim/cut.py") 243, PySem.Value.int 46 0, PySem.Value.int 3 0, PySem.Value.int 0 0, PySem.Value.int 0 0, PySem.Value.int 3 0, PySem.Value.ref 53, PySem.Value.bool Bool.true, PySem.Value.int 181 0, PySem.Value.ref 54, PySem.Value.none, PySem.Value.ref 55, PySem.Value.ref 56, PySem.Value.ref 57, PySem.Value.int 247 0, PySem.Value.int 46 0, PySem.Value.str (PySem.Str.ofString "/claim/cut.py") 248]) #[]),
   (59, PySem.Obj.mk (PySem.Value.type "function") Option.none (PySem.Data.func (PySem.FuncData.mk (PySem.Str.ofString "push") (PySem.Str.ofString "_Accumulator.push") m1p (PySem.FuncBody.stmts m1b) m1s 3 [] PySem.Value.none PySem.Value.none PySem.Value.none (PySem.Value.str (PySem.Str.ofString "cpy313.email.header") 215) Option.none (PySem.Value.ref 58) PySem.Value.none 0)) #[]),
   (60, PySem.Obj.mk (PySem.Value.type "tuple") Option.none (PySem.Data.seq #[PySem.Value.int 0 250]) #[]),
   (61, PySem.Obj.mk (PySem.Value.type "tuple") Option.none (PySem.Data.seq #[]) #[]),
   (63, PySem.Obj.mk (PySem.Value.type "tuple") Option.none (PySem.Data.seq #[PySem.Value.str (PySem.Str.ofString "self") 254, PySem.Value.str (PySem.Str.ofString "i") 255, PySem.Value.str (PySem.Str.ofString "popped") 256]) #[]),
   (64, PySem.Obj.mk (PySem.Value.type "tuple") Option.none (PySem.Data.seq #[]) #[]),
   (66, PySem.Obj.mk (PySem.Value.type "code") Option.none (PySem.Data.fields #[PySem.Value.str (PySem.Str.ofString "pop_from") 251, PySem.Value.str (PySem.Str.ofString "_Accumulator.pop_from") 252, PySem.Value.str (PySem.Str.ofString "/claim/cut.py") 253, PySem.Value.int 49 0, PySem.Value.int 2 0, PySem.Value.int 0 0, PySem.Value.int 0 0, PySem.Value.int 3 0, PySem.Value.ref 61, PySem.Value.bool Bool.true, PySem.Value.int 181 0, PySem.Value.ref 62, PySem.Value.none, PySem.Value.ref 63, PySem.Value.ref 64, PySem.Value.ref 65, PySem.Value.int 257 0, PySem.Value.int 49 0, PySem.Value.str (PySem.Str.ofString "/claim/cut.py") 258]) #[]),
   (67, PySem.Obj.mk (PySem.Value.type "function") Option.none (PySem.Data.func (PySem.FuncData.mk (PySem.Str.ofString "pop_from") (PySem.Str.ofString "_Accumulator.pop_from") m2p (PySem.FuncBody.stmts m2b) m2s 3 [] (PySem.Value.ref 60) PySem.Value.none PySem.Value.none (PySem.Value.str (PySem.Str.ofString "cpy313.email.header") 215) Option.none (PySem.Value.ref 66) PySem.Value.none 0)) #[]),
   (68, PySem.Obj.mk (PySem.Value.type "tuple") Option.none (PySem.Data.seq #[]) #[]),
   (70, PySem.Obj.mk (PySem.Value.type "tuple") Option.none (PySem.Data.seq #[PySem.Value.str (PySem.Str.ofString "self") 263]) #[]),
   (71, PySem.Obj.mk (PySem.Value.type "tuple") Option.none (PySem.Data.seq #[]) #[]),
   (73, PySem.Obj.mk (PySem.Value.type "code") Option.none (PySem.Data.fields #[PySem.Value.str (PySem.Str.ofString "pop") 260, PySem.Value.str (PySem.Str.ofString "_Accumulator.pop") 261, PySem.Value.str (PySem.Str.ofString "/claim/cut.py") 262, PySem.Value.int 54 0, PySem.Value.int 1 0, PySem.Value.int 0 0, PySem.Value.int 0 0, PySem.Value.int 3 0, PySem.Value.ref 68, PySem.Value.bool Bool.true, PySem.Value.int 181 0, PySem.Value.ref 69, PySem.Value.none, PySem.Value.ref 70, PySem.Value.ref 71, PySem.Value.ref 72, PySem.Value.int 264 0, PySem.Value.int 54 0, PySem.Value.str (PySem.Str.ofString "/claim/cut.py") 265]) #[]),
   (74, PySem.Obj.mk (PySem.Value.type "function") Option.none (PySem.Data.func (PySem.FuncData.mk (PySem.Str.ofString "pop") (PySem.Str.ofString "_Accumulator.pop") m3p (PySem.FuncBody.stmts m3b) m3s 3 [] PySem.Value.none PySem.Value.none PySem.Value.none (PySem.Value.str (PySem.Str.ofString "cpy313.email.header") 215) Option.none (PySem.Value.ref 73) PySem.Value.none 0)) #[]),
   (75, PySem.Obj.mk (PySem.Value.type "tuple") Option.none (PySem.Data.seq #[]) #[]),
   (77, PySem.Obj.mk (PySem.Value.type "tuple") Option.none (PySem.Data.seq #[PySem.Value.str (PySem.Str.ofString "self") 270]) #[]),
   (78, PySem.Obj.mk (PySem.Value.type "tuple") Option.none (PySem.Data.seq #[]) #[]),
   (80, PySem.Obj.mk (PySem.Value.type "code") Option.none (PySem.Data.fields #[PySem.Value.str (PySem.Str.ofString "__len__") 267, PySem.Value.str (PySem.Str.ofString "_Accumulator.__len__") 268, PySem.Value.str (PySem.Str.ofString "/claim/cut.py") 269, PySem.Value.int 57 0, PySem.Value.int 1 0, PySem.Value.int 0 0, PySem.Value.int 0 0, PySem.Value.int 3 0, PySem.Value.ref 75, PySem.Value.bool Bool.true, PySem.Value.int 181 0, PySem.Value.ref 76, PySem.Value.none, PySem.Value.ref 77, PySem.Value.ref 78, PySem.Value.ref 79, PySem.Value.int 271 0, PySem.Value.int 57 0, PySem.Value.str (PySem.Str.ofString "/claim/cut.py") 272]) #[]),
   (81, PySem.Obj.mk (PySem.Value.type "function") Option.none (PySem.Data.func (PySem.FuncData.mk (PySem.Str.ofString "__len__") (PySem.Str.ofString "_Accumulator.__len__") m4p (PySem.FuncBody.stmts m4b) m4s 3 [] PySem.Value.none PySem.Value.none PySem.Value.none (PySem.Value.str (PySem.Str.ofString "cpy313.email.header") 215) Option.none (PySem.Value.ref 80) PySem.Value.none 0)) #[]),
   (82, PySem.Obj.mk (PySem.Value.type "tuple") Option.none (PySem.Data.seq #[]) #[]),
   (84, PySem.Obj.mk (PySem.Value.type "tuple") Option.none (PySem.Data.seq #[PySem.Value.str (PySem.Str.ofString "self") 277]) #[]),
   (85, PySem.Obj.mk (PySem.Value.type "tuple") Option.none (PySem.Data.seq #[]) #[]),
   (87, PySem.Obj.mk (PySem.Value.type "code") Option.none (PySem.Data.fields #[PySem.Value.str (PySem.Str.ofString "__str__") 274, PySem.Value.str (PySem.Str.ofString "_Accumulator.__str__") 275, PySem.Value.str (PySem.Str.ofString "/claim/cut.py") 276, PySem.Value.int 60 0, PySem.Value.int 1 0, PySem.Value.int 0 0, PySem.Value.int 0 0, PySem.Value.int 3 0, PySem.Value.ref 82, PySem.Value.bool Bool.true, PySem.Value.int 181 0, PySem.Value.ref 83, PySem.Value.none, PySem.Value.ref 84, PySem.Value.ref 85, PySem.Value.ref 86, PySem.Value.int 278 0, PySem.Value.int 60 0, PySem.Value.str (PySem.Str.ofString "/claim/cut.py") 279]) #[]),
   (88, PySem.Obj.mk (PySem.Value.type "function") Option.none (PySem.Data.func (PySem.FuncData.mk (PySem.Str.ofString "__str__") (PySem.Str.ofString "_Accumulator.__str__") m5p (PySem.FuncBody.stmts m5b) m5s 3 [] PySem.Value.none PySem.Value.none PySem.Value.none (PySem.Value.str (PySem.Str.ofString "cpy313.email.header") 215) Option.none (PySem.Value.ref 87) PySem.Value.none 0)) #[]),
   (89, PySem.Obj.mk (PySem.Value.type "tuple") Option.none (PySem.Data.seq #[PySem.Value.none]) #[]),
   (90, PySem.Obj.mk (PySem.Value.type "tuple") Option.none (PySem.Data.seq #[]) #[]),
   (92, PySem.Obj.mk (PySem.Value.type "tuple") Option.none (PySem.Data.seq #[PySem.Value.str (PySem.Str.ofString "self") 284, PySem.Value.str (PySem.Str.ofString "startval") 285]) #[]),
   (93, PySem.Obj.mk (PySem.Value.type "tuple") Option.none (PySem.Data.seq #[]) #[]),
   (95, PySem.Obj.mk (PySem.Value.type "code") Option.none (PySem.Data.fields #[PySem.Value.str (PySem.Str.ofString "reset") 281, PySem.Value.str (PySem.Str.ofString "_Accumulator.reset") 282, PySem.Value.str (PySem.Str.ofString "/claim/cut.py") 283, PySem.Value.int 63 0, PySem.Value.int 2 0, PySem.Value.int 0 0, PySem.Value.int 0 0, PySem.Value.int 3 0, PySem.Value.ref 90, PySem.Value.bool Bool.true, PySem.Value.int 181 0, PySem.Value.ref 91, PySem.Value.none, PySem.Value.ref 92, PySem.Value.ref 93, PySem.Value.ref 94, PySem.Value.int 286 0, PySem.Value.int 63 0, PySem.Value.str (PySem.Str.ofString "/claim/cut.py") 287]) #[]),
   (96, PySem.Obj.mk (PySem.Value.type "function") Option.none (PySem.Data.func (PySem.FuncData.mk (PySem.Str.ofString "reset") (PySem.Str.ofString "_Accumulator.reset") m6p (PySem.FuncBody.stmts m6b) m6s 3 [] (PySem.Value.ref 89) PySem.Value.none PySem.Value.none (PySem.Value.str (PySem.Str.ofString "cpy313.email.header") 215) Option.none (PySem.Value.ref 95) PySem.Value.none 0)) #[]),
   (97, PySem.Obj.mk (PySem.Value.type "tuple") Option.none (PySem.Data.seq #[]) #[]),
   (99, PySem.Obj.mk (PySem.Value.type "tuple") Option.none (PySem.Data.seq #[PySem.Value.str (PySem.Str.ofString "self") 292]) #[]),
   (100, PySem.Obj.mk (PySem.Value.type "tuple") Option.none (PySem.Data.seq #[]) #[]),
   (102, PySem.Obj.mk (PySem.Value.type "code") Option.none (PySem.Data.fields #[PySem.Value.str (PySem.Str.ofString "is_onlyws") 289, PySem.Value.str (PySem.Str.ofString "_Accumulator.is_onlyws") 290, PySem.Value.str (PySem.Str.ofString "/claim/cut.py") 291, PySem.Value.int 69 0, PySem.Value.int 1 0, PySem.Value.int 0 0, PySem.Value.int 0 0, PySem.Value.int 3 0, PySem.Value.ref 97, PySem.Value.bool Bool.true, PySem.Value.int 181 0, PySem.Value.ref 98, PySem.Value.none, PySem.Value.ref 99, PySem.Value.ref 100, PySem.Value.ref 101, PySem.Value.int 293 0, PySem.Value.int 69 0, PySem.Value.str (PySem.Str.ofString "/claim/cut.py") 294]) #[]),
   (103, PySem.Obj.mk (PySem.Value.type "function") Option.none (PySem.Data.func (PySem.FuncData.mk (PySem.Str.ofString "is_onlyws") (PySem.Str.ofString "_Accumulator.is_onlyws") m7p (PySem.FuncBody.stmts m7b) m7s 3 [] PySem.Value.none PySem.Value.none PySem.Value.none (PySem.Value.str (PySem.Str.ofString "cpy313.email.header") 215) Option.none (PySem.Value.ref 102) PySem.Value.none 0)) #[]),
   (104, PySem.Obj.mk (PySem.Value.type "tuple") Option.none (PySem.Data.seq #[PySem.Value.ref 39]) #[]),
   (105, PySem.Obj.mk (PySem.Value.type "tuple") Option.none (PySem.Data.seq #[PySem.Value.str (PySem.Str.ofString "__class__") 299]) #[]),
   (107, PySem.Obj.mk (PySem.Value.type "tuple") Option.none (PySem.Data.seq #[PySem.Value.str (PySem.Str.ofString "self") 300]) #[]),
   (108, PySem.Obj.mk (PySem.Value.type "tuple") Option.none (PySem.Data.seq #[]) #[]),
   (110, PySem.Obj.mk (PySem.Value.type "code") Option.none (PySem.Data.fields #[PySem.Value.str (PySem.Str.ofString "part_count") 296, PySem.Value.str (PySem.Str.ofString "_Accumulator.part_count") 297, PySem.Value.str (PySem.Str.ofString "/claim/cut.py") 298, PySem.Value.int 72 0, PySem.Value.int 1 0, PySem.Value.int 0 0, PySem.Value.int 0 0, PySem.Value.int 3 0, PySem.Value.ref 105, PySem.Value.bool Bool.true, PySem.Value.int 181 0, PySem.Value.ref 106, PySem.Value.none, PySem.Value.ref 107, PySem.Value.ref 108, PySem.Value.ref 109, PySem.Value.int 301 0, PySem.Value.int 72 0, PySem.Value.str (PySem.Str.ofString "/claim/cut.py") 302]) #[]),
   (111, PySem.Obj.mk (PySem.Value.type "function") Option.none (PySem.Data.func (PySem.FuncData.mk (PySem.Str.ofString "part_count") (PySem.Str.ofString "_Accumulator.part_count") m8p (PySem.FuncBody.stmts m8b) m8s 3 [(PySem.Str.ofString "__class__", 39)] PySem.Value.none PySem.Value.none PySem.Value.none (PySem.Value.str (PySem.Str.ofString "cpy313.email.header") 215) Option.none (PySem.Value.ref 110) (PySem.Value.ref 104) 0)) #[]),
   (112, PySem.Obj.mk (PySem.Value.type "tuple") Option.none (PySem.Data.seq #[PySem.Value.str (PySem.Str.ofString "_initial_size") 304]) #[]),
   (113, PySem.Obj.mk (PySem.Value.type "dict") Option.none (PySem.Data.dict #[PySem.DictEntry.mk (PySem.PyData.keyHash P (PySem.Str.ofString "__module__")) (PySem.Value.str (PySem.Str.ofString "__module__") 226) (PySem.Value.str (PySem.Str.ofString "cpy313.email.header") 215), PySem.DictEntry.mk (PySem.PyData.keyHash P (PySem.Str.ofString "__firstlineno__")) (PySem.Value.str (PySem.Str.ofString "__firstlineno__") 230) (PySem.Value.int 40 229), PySem.DictEntry.mk (PySem.PyData.keyHash P (PySem.Str.ofString "__init__")) (PySem.Value.str (PySem.Str.ofString "__init__") 240) (PySem.Value.ref 52), PySem.DictEntry.mk (PySem.PyData.keyHash P (PySem.Str.ofString "push")) (PySem.Value.str (PySem.Str.ofString "push") 249) (PySem.Value.ref 59), PySem.DictEntry.mk (PySem.PyData.keyHash P (PySem.Str.ofString "pop_from")) (PySem.Value.str (PySem.Str.ofString "pop_from") 259) (PySem.Value.ref 67), PySem.DictEntry.mk (PySem.PyData.keyHash P (PySem.Str.ofString "pop")) (PySem.Value.str (PySem.Str.ofString "pop") 266) (PySem.Value.ref 74), PySem.DictEntry.mk (PySem.PyData.keyHash P (PySem.Str.ofString "__len__")) (PySem.Value.str (PySem.Str.ofString "__len__") 273) (PySem.Value.ref 81), PySem.DictEntry.mk (PySem.PyData.keyHash P (PySem.Str.ofString "__str__")) (PySem.Value.str (PySem.Str.ofString "__str__") 280) (PySem.Value.ref 88), PySem.DictEntry.mk (PySem.PyData.keyHash P (PySem.Str.ofString "reset")) (PySem.Value.str (PySem.Str.ofString "reset") 288) (PySem.Value.ref 96), PySem.DictEntry.mk (PySem.PyData.keyHash P (PySem.Str.ofString "is_onlyws")) (PySem.Value.str (PySem.Str.ofString "is_onlyws") 295) (PySem.Value.ref 103), PySem.DictEntry.mk (PySem.PyData.keyHash P (PySem.Str.ofString "part_count")) (PySem.Value.str (PySem.Str.ofString "part_count") 303) (PySem.Value.ref 111), PySem.DictEntry.mk (PySem.PyData.keyHash P (PySem.Str.ofString "__static_attributes__")) (PySem.Value.str (PySem.Str.ofString "__static_attributes__") 305) (PySem.Value.ref 112), PySem.DictEntry.mk (PySem.PyData.keyHash P (PySem.Str.ofString "__dict__")) (PySem.Value.str (PySem.Str.ofString "__dict__") 308) (PySem.Value.ref 115), PySem.DictEntry.mk (PySem.PyData.keyHash P (PySem.Str.ofString "__weakref__")) (PySem.Value.str (PySem.Str.ofString "__weakref__") 310) (PySem.Value.ref 116), PySem.DictEntry.mk (PySem.PyData.keyHash P (PySem.Str.ofString "__doc__")) (PySem.Value.str (PySem.Str.ofString "__doc__") 311) PySem.Value.none] 5) #[]),
   (114, PySem.Obj.mk (PySem.Value.type "type") Option.none (PySem.Data.cls (PySem.ClassData.mk (PySem.Str.ofString "_Accumulator") [PySem.Value.type "list"] [PySem.Value.ref 114, PySem.Value.type "list", PySem.Value.type "object"] 113 (PySem.Str.ofString "_Accumulator") Bool.true [] [] Bool.false Option.none Bool.false)) #[Option.some (PySem.Value.ref 36), Option.none, Option.some (PySem.Value.str (PySem.Str.ofString "_Accumulator") 219), Option.some (PySem.Value.str (PySem.Str.ofString "_Accumulator") 227), Option.some (PySem.Value.builtin "list.__new__"), Option.some (PySem.Value.bool Bool.true)]),
   (115, PySem.Obj.mk (PySem.Value.type "getset_descriptor") Option.none (PySem.Data.fields #[PySem.Value.str (PySem.Str.ofString "__dict__") 307, PySem.Value.ref 114, PySem.Value.builtin "function.__dict__", PySem.Value.builtin "function.__dict__#set"]) #[]),
   (116, PySem.Obj.mk (PySem.Value.type "getset_descriptor") Option.none (PySem.Data.fields #[PySem.Value.str (PySem.Str.ofString "__weakref__") 309, PySem.Value.ref 114, PySem.Value.builtin "ExceptionGroup.__weakref__", PySem.Value.none]) #[]),
   (119, PySem.Obj.mk (PySem.Value.type "tuple") Option.none (PySem.Data.seq #[]) #[]),
   (121, PySem.Obj.mk (PySem.Value.type "tuple") Option.none (PySem.Data.seq #[PySem.Value.str (PySem.Str.ofString "number") 319]) #[]),
   (122, PySem.Obj.mk (PySem.Value.type "tuple") Option.none (PySem.Data.seq #[]) #[]),
   (124, PySem.Obj.mk (PySem.Value.type "code") Option.none (PySem.Data.fields #[PySem.Value.str (PySem.Str.ofString "_law_piece") 316, PySem.Value.str (PySem.Str.ofString "_law_piece") 317, PySem.Value.str (PySem.Str.ofString "/claim/cut.py") 318, PySem.Value.int 75 0, PySem.Value.int 1 0, PySem.Value.int 0 0, PySem.Value.int 0 0, PySem.Value.int 3 0, PySem.Value.ref 119, PySem.Value.bool Bool.true, PySem.Value.int 181 0, PySem.Value.ref 120, PySem.Value.none, PySem.Value.ref 121, PySem.Value.ref 122, PySem.Value.ref 123, PySem.Value.int 320 0, PySem.Value.int 75 0, PySem.Value.str (PySem.Str.ofString "/claim/cut.py") 321]) #[]),
   (125, PySem.Obj.mk (PySem.Value.type "function") Option.none (PySem.Data.func (PySem.FuncData.mk (PySem.Str.ofString "_law_piece") (PySem.Str.ofString "_law_piece") f9p (PySem.FuncBody.stmts f9b) f9s 3 [] PySem.Value.none PySem.Value.none PySem.Value.none (PySem.Value.str (PySem.Str.ofString "law_ny0091_01") 314) Option.none (PySem.Value.ref 124) PySem.Value.none 0)) #[]),
   (126, PySem.Obj.mk (PySem.Value.type "tuple") Option.none (PySem.Data.seq #[]) #[]),
   (129, PySem.Obj.mk (PySem.Value.type "code") Option.none (PySem.Data.fields #[PySem.Value.str (PySem.Str.ofString "_law_row") 323, PySem.Value.str (PySem.Str.ofString "_law_row") 324, PySem.Value.str (PySem.Str.ofString "/claim/cut.py") 325, PySem.Value.int 77 0, PySem.Value.int 2 0, PySem.Value.int 0 0, PySem.Value.int 0 0, PySem.Value.int 3 0, PySem.Value.ref 126, PySem.Value.bool Bool.true, PySem.Value.int 181 0, PySem.Value.ref 127, PySem.Value.none, PySem.Value.none, PySem.Value.none, PySem.Value.ref 128, PySem.Value.int 326 0, PySem.Value.int 77 0, PySem.Value.str (PySem.Str.ofString "/claim/cut.py") 327]) #[]),
   (130, PySem.Obj.mk (PySem.Value.type "function") Option.none (PySem.Data.func (PySem.FuncData.mk (PySem.Str.ofString "_law_row") (PySem.Str.ofString "_law_row") f10p (PySem.FuncBody.stmts f10b) f10s 3 [] PySem.Value.none PySem.Value.none PySem.Value.none (PySem.Value.str (PySem.Str.ofString "law_ny0091_01") 314) Option.none (PySem.Value.ref 129) PySem.Value.none 0)) #[]),
   (131, PySem.Obj.mk (PySem.Value.type "tuple") Option.none (PySem.Data.seq #[]) #[]),
   (133, PySem.Obj.mk (PySem.Value.type "tuple") Option.none (PySem.Data.seq #[PySem.Value.str (PySem.Str.ofString "size") 332, PySem.Value.str (PySem.Str.ofString "place") 333, PySem.Value.str (PySem.Str.ofString "heap") 334]) #[]),
   (134, PySem.Obj.mk (PySem.Value.type "tuple") Option.none (PySem.Data.seq #[]) #[]),
   (136, PySem.Obj.mk (PySem.Value.type "code") Option.none (PySem.Data.fields #[PySem.Value.str (PySem.Str.ofString "_law_opened") 329, PySem.Value.str (PySem.Str.ofString "_law_opened") 330, PySem.Value.str (PySem.Str.ofString "/claim/cut.py") 331, PySem.Value.int 80 0, PySem.Value.int 2 0, PySem.Value.int 0 0, PySem.Value.int 0 0, PySem.Value.int 3 0, PySem.Value.ref 131, PySem.Value.bool Bool.true, PySem.Value.int 181 0, PySem.Value.ref 132, PySem.Value.none, PySem.Value.ref 133, PySem.Value.ref 134, PySem.Value.ref 135, PySem.Value.int 335 0, PySem.Value.int 80 0, PySem.Value.str (PySem.Str.ofString "/claim/cut.py") 336]) #[]),
   (137, PySem.Obj.mk (PySem.Value.type "function") Option.none (PySem.Data.func (PySem.FuncData.mk (PySem.Str.ofString "_law_opened") (PySem.Str.ofString "_law_opened") f11p (PySem.FuncBody.stmts f11b) f11s 3 [] PySem.Value.none PySem.Value.none PySem.Value.none (PySem.Value.str (PySem.Str.ofString "law_ny0091_01") 314) Option.none (PySem.Value.ref 136) PySem.Value.none 0)) #[]),
   (138, PySem.Obj.mk (PySem.Value.type "tuple") Option.none (PySem.Data.seq #[]) #[]),
   (140, PySem.Obj.mk (PySem.Value.type "tuple") Option.none (PySem.Data.seq #[PySem.Value.str (PySem.Str.ofString "heaps") 341, PySem.Value.str (PySem.Str.ofString "number") 342, PySem.Value.str (PySem.Str.ofString "piece") 343]) #[]),
   (141, PySem.Obj.mk (PySem.Value.type "tuple") Option.none (PySem.Data.seq #[]) #[]),
   (143, PySem.Obj.mk (PySem.Value.type "code") Option.none (PySem.Data.fields #[PySem.Value.str (PySem.Str.ofString "_law_pushed") 338, PySem.Value.str (PySem.Str.ofString "_law_pushed") 339, PySem.Value.str (PySem.Str.ofString "/claim/cut.py") 340, PySem.Value.int 85 0, PySem.Value.int 2 0, PySem.Value.int 0 0, PySem.Value.int 0 0, PySem.Value.int 3 0, PySem.Value.ref 138, PySem.Value.bool Bool.true, PySem.Value.int 181 0, PySem.Value.ref 139, PySem.Value.none, PySem.Value.ref 140, PySem.Value.ref 141, PySem.Value.ref 142, PySem.Value.int 344 0, PySem.Value.int 85 0, PySem.Value.str (PySem.Str.ofString "/claim/cut.py") 345]) #[]),
   (144, PySem.Obj.mk (PySem.Value.type "function") Option.none (PySem.Data.func (PySem.FuncData.mk (PySem.Str.ofString "_law_pushed") (PySem.Str.ofString "_law_pushed") f12p (PySem.FuncBody.stmts f12b) f12s 3 [] PySem.Value.none PySem.Value.none PySem.Value.none (PySem.Value.str (PySem.Str.ofString "law_ny0091_01") 314) Option.none (PySem.Value.ref 143) PySem.Value.none 0)) #[]),
   (145, PySem.Obj.mk (PySem.Value.type "tuple") Option.none (PySem.Data.seq #[]) #[]),
   (147, PySem.Obj.mk (PySem.Value.type "tuple") Option.none (PySem.Data.seq #[PySem.Value.str (PySem.Str.ofString "heaps") 350]) #[]),
   (148, PySem.Obj.mk (PySem.Value.type "tuple") Option.none (PySem.Data.seq #[]) #[]),
   (150, PySem.Obj.mk (PySem.Value.type "code") Option.none (PySem.Data.fields #[PySem.Value.str (PySem.Str.ofString "_law_run") 347, PySem.Value.str (PySem.Str.ofString "_law_run") 348, PySem.Value.str (PySem.Str.ofString "/claim/cut.py") 349, PySem.Value.int 89 0, PySem.Value.int 1 0, PySem.Value.int 0 0, PySem.Value.int 0 0, PySem.Value.int 3 0, PySem.Value.ref 145, PySem.Value.bool Bool.true, PySem.Value.int 181 0, PySem.Value.ref 146, PySem.Value.none, PySem.Value.ref 147, PySem.Value.ref 148, PySem.Value.ref 149, PySem.Value.int 351 0, PySem.Value.int 89 0, PySem.Value.str (PySem.Str.ofString "/claim/cut.py") 352]) #[]),
   (151, PySem.Obj.mk (PySem.Value.type "function") Option.none (PySem.Data.func (PySem.FuncData.mk (PySem.Str.ofString "_law_run") (PySem.Str.ofString "_law_run") f13p (PySem.FuncBody.stmts f13b) f13s 3 [] PySem.Value.none PySem.Value.none PySem.Value.none (PySem.Value.str (PySem.Str.ofString "law_ny0091_01") 314) Option.none (PySem.Value.ref 150) PySem.Value.none 0)) #[]),
   (152, PySem.Obj.mk (PySem.Value.type "tuple") Option.none (PySem.Data.seq #[]) #[]),
   (154, PySem.Obj.mk (PySem.Value.type "tuple") Option.none (PySem.Data.seq #[PySem.Value.str (PySem.Str.ofString "row") 357, PySem.Value.str (PySem.Str.ofString "size") 358, PySem.Value.str (PySem.Str.ofString "live") 359]) #[]),
   (155, PySem.Obj.mk (PySem.Value.type "tuple") Option.none (PySem.Data.seq #[]) #[]),
   (157, PySem.Obj.mk (PySem.Value.type "code") Option.none (PySem.Data.fields #[PySem.Value.str (PySem.Str.ofString "_law_wanted") 354, PySem.Value.str (PySem.Str.ofString "_law_wanted") 355, PySem.Value.str (PySem.Str.ofString "/claim/cut.py") 356, PySem.Value.int 96 0, PySem.Value.int 2 0, PySem.Value.int 0 0, PySem.Value.int 0 0, PySem.Value.int 3 0, PySem.Value.ref 152, PySem.Value.bool Bool.true, PySem.Value.int 181 0, PySem.Value.ref 153, PySem.Value.none, PySem.Value.ref 154, PySem.Value.ref 155, PySem.Value.ref 156, PySem.Value.int 360 0, PySem.Value.int 96 0, PySem.Value.str (PySem.Str.ofString "/claim/cut.py") 361]) #[]),
   (158, PySem.Obj.mk (PySem.Value.type "function") Option.none (PySem.Data.func (PySem.FuncData.mk (PySem.Str.ofString "_law_wanted") (PySem.Str.ofString "_law_wanted") f14p (PySem.FuncBody.stmts f14b) f14s 3 [] PySem.Value.none PySem.Value.none PySem.Value.none (PySem.Value.str (PySem.Str.ofString "law_ny0091_01") 314) Option.none (PySem.Value.ref 157) PySem.Value.none 0)) #[]),
   (159, PySem.Obj.mk (PySem.Value.type "tuple") Option.none (PySem.Data.seq #[]) #[]),
   (162, PySem.Obj.mk (PySem.Value.type "code") Option.none (PySem.Data.fields #[PySem.Value.str (PySem.Str.ofString "_law_ahead") 363, PySem.Value.str (PySem.Str.ofString "_law_ahead") 364, PySem.Value.str (PySem.Str.ofString "/claim/cut.py") 365, PySem.Value.int 101 0, PySem.Value.int 3 0, PySem.Value.int 0 0, PySem.Value.int 0 0, PySem.Value.int 3 0, PySem.Value.ref 159, PySem.Value.bool Bool.true, PySem.Value.int 181 0, PySem.Value.ref 160, PySem.Value.none, PySem.Value.none, PySem.Value.none, PySem.Value.ref 161, PySem.Value.int 366 0, PySem.Value.int 101 0, PySem.Value.str (PySem.Str.ofString "/claim/cut.py") 367]) #[]),
   (163, PySem.Obj.mk (PySem.Value.type "function") Option.none (PySem.Data.func (PySem.FuncData.mk (PySem.Str.ofString "_law_ahead") (PySem.Str.ofString "_law_ahead") f15p (PySem.FuncBody.stmts f15b) f15s 3 [] PySem.Value.none PySem.Value.none PySem.Value.none (PySem.Value.str (PySem.Str.ofString "law_ny0091_01") 314) Option.none (PySem.Value.ref 162) PySem.Value.none 0)) #[]),
   (164, PySem.Obj.mk (PySem.Value.type "tuple") Option.none (PySem.Data.seq #[]) #[]),
   (167, PySem.Obj.mk (PySem.Value.type "code") Option.none (PySem.Data.fields #[PySem.Value.str (PySem.Str.ofString "_law_told") 369, PySem.Value.str (PySem.Str.ofString "_law_told") 370, PySem.Value.str (PySem.Str.ofString "/claim/cut.py") 371, PySem.Value.int 103 0, PySem.Value.int 2 0, PySem.Value.int 0 0, PySem.Value.int 0 0, PySem.Value.int 3 0, PySem.Value.ref 164, PySem.Value.bool Bool.true, PySem.Value.int 181 0, PySem.Value.ref 165, PySem.Value.none, PySem.Value.none, PySem.Value.none, PySem.Value.ref 166, PySem.Value.int 372 0, PySem.Value.int 103 0, PySem.Value.str (PySem.Str.ofString "/claim/cut.py") 373]) #[]),
   (168, PySem.Obj.mk (PySem.Value.type "function") Option.none (PySem.Data.func (PySem.FuncData.mk (PySem.Str.ofString "_law_told") (PySem.Str.ofString "_law_told") f16p (PySem.FuncBody.stmts f16b) f16s 3 [] PySem.Value.none PySem.Value.none PySem.Value.none (PySem.Value.str (PySem.Str.ofString "law_ny0091_01") 314) Option.none (PySem.Value.ref 167) PySem.Value.none 0)) #[]),
   (169, PySem.Obj.mk (PySem.Value.type "tuple") Option.none (PySem.Data.seq #[]) #[]),
   (171, PySem.Obj.mk (PySem.Value.type "tuple") Option.none (PySem.Data.seq #[PySem.Value.str (PySem.Str.ofString "text") 378, PySem.Value.str (PySem.Str.ofString "piece") 379]) #[]),
   (172, PySem.Obj.mk (PySem.Value.type "tuple") Option.none (PySem.Data.seq #[]) #[]),
   (174, PySem.Obj.mk (PySem.Value.type "code") Option.none (PySem.Data.fields #[PySem.Value.str (PySem.Str.ofString "_law_joined") 375, PySem.Value.str (PySem.Str.ofString "_law_joined") 376, PySem.Value.str (PySem.Str.ofString "/claim/cut.py") 377, PySem.Value.int 120 0, PySem.Value.int 2 0, PySem.Value.int 0 0, PySem.Value.int 0 0, PySem.Value.int 3 0, PySem.Value.ref 169, PySem.Value.bool Bool.true, PySem.Value.int 181 0, PySem.Value.ref 170, PySem.Value.none, PySem.Value.ref 171, PySem.Value.ref 172, PySem.Value.ref 173, PySem.Value.int 380 0, PySem.Value.int 120 0, PySem.Value.str (PySem.Str.ofString "/claim/cut.py") 381]) #[]),
   (175, PySem.Obj.mk (PySem.Value.type "function") Option.none (PySem.Data.func (PySem.FuncData.mk (PySem.Str.ofString "_law_joined") (PySem.Str.ofString "_law_joined") f17p (PySem.FuncBody.stmts f17b) f17s 3 [] PySem.Value.none PySem.Value.none PySem.Value.none (PySem.Value.str (PySem.Str.ofString "law_ny0091_01") 314) Option.none (PySem.Value.ref 174) PySem.Value.none 0)) #[]),
   (176, PySem.Obj.mk (PySem.Value.type "tuple") Option.none (PySem.Data.seq #[]) #[]),
   (179, PySem.Obj.mk (PySem.Value.type "code") Option.none (PySem.Data.fields #[PySem.Value.str (PySem.Str.ofString "law") 383, PySem.Value.str (PySem.Str.ofString "law") 384, PySem.Value.str (PySem.Str.ofString "/claim/cut.py") 385, PySem.Value.int 122 0, PySem.Value.int 1 0, PySem.Value.int 0 0, PySem.Value.int 0 0, PySem.Value.int 3 0, PySem.Value.ref 176, PySem.Value.bool Bool.true, PySem.Value.int 181 0, PySem.Value.ref 177, PySem.Value.none, PySem.Value.none, PySem.Value.none, PySem.Value.ref 178, PySem.Value.int 386 0, PySem.Value.int 122 0, PySem.Value.str (PySem.Str.ofString "/claim/cut.py") 387]) #[]),
   (180, PySem.Obj.mk (PySem.Value.type "function") Option.none (PySem.Data.func (PySem.FuncData.mk (PySem.Str.ofString "law") (PySem.Str.ofString "law") f18p (PySem.FuncBody.stmts f18b) f18s 3 [] PySem.Value.none PySem.Value.none PySem.Value.none (PySem.Value.str (PySem.Str.ofString "law_ny0091_01") 314) Option.none (PySem.Value.ref 179) PySem.Value.none 0)) #[])]
noncomputable def hp (P : Params) : Frag := hpOf P rfl rfl rfl rfl rfl rfl rfl rfl rfl rfl rfl rfl rfl rfl rfl rfl rfl rfl rfl rfl rfl rfl
end Mine

end

noncomputable section
namespace Mine

/-! Data, and how a value reads in a heap; X: addresses of objects that may still change. -/
inductive Dat where
  | none
  | bool (b : Bool)
  | int (i : Int)
  | str (x : Str)
  | tuple (ds : List Dat)
  | list (ds : List Dat)
  | obj (a : Addr)

mutual
inductive Rd (X : List Addr) (h : Heap) : Value → Dat → Prop
  | none : Rd X h .none .none
  | bool (b) : Rd X h (.bool b) (.bool b)
  | int (i t) : Rd X h (.int i t) (.int i)
  | str (x t) : Rd X h (.str x t) (.str x)
  | tuple {a vs ds} : a ∉ X → h.IsTuple a vs.toArray → RdA X h vs ds → Rd X h (.ref a) (.tuple ds)
  | list {a vs ds} : a ∉ X → h.IsList a vs.toArray → RdA X h vs ds → Rd X h (.ref a) (.list ds)
  | obj (a) : Rd X h (.ref a) (.obj a)
inductive RdA (X : List Addr) (h : Heap) : List Value → List Dat → Prop
  | nil : RdA X h [] []
  | cons {v vs d ds} : Rd X h v d → RdA X h vs ds → RdA X h (v :: vs) (d :: ds)
end

/-- what a step may change: the objects at X; what is at X' behind it was at X or is new -/
structure Fw (X X' : List Addr) (s s' : Shared) : Prop where
  keep : ∀ b o, b ∉ X → s.heap.get? b = some o → s'.heap.get? b = some o
  dom : ∀ a ∈ X', a ∈ X ∨ s.heap.get? a = none
  os : s'.os = s.os
  gens : AllBare s.gens → AllBare s'.gens

theorem Fw.refl (X : List Addr) (s : Shared) : Fw X X s s := ⟨fun _ _ _ e => e, fun _ h => .inl h, rfl, fun h => h⟩
theorem Fw.trans {X Y Z : List Addr} {s₁ s₂ s₃ : Shared} (f : Fw X Y s₁ s₂) (g : Fw Y Z s₂ s₃) : Fw X Z s₁ s₃ := by
  refine ⟨fun b o hb e => ?_, fun a ha => ?_, g.os.trans f.os, fun h => g.gens (f.gens h)⟩
  · refine g.keep b o (fun hY => ?_) (f.keep b o hb e)
    rcases f.dom b hY with h | h
    · exact hb h
    · rw [h] at e; cases e
  · rcases g.dom a ha with h | h
    · exact f.dom a h
    · by_cases hX : a ∈ X
      · exact .inl hX
      · right
        cases q : s₁.heap.get? a with
        | none => rfl
        | some o => rw [f.keep a o hX q] at h; cases h

theorem Fw.keeps {X : List Addr} {s : Shared} {h' : Heap} {tk : Nat} (hk : ∀ b o, s.heap.get? b = some o → h'.get? b = some o) : Fw X X s { s with heap := h', toks := tk } :=
  ⟨fun b o _ e => hk b o e, fun _ h => .inl h, rfl, fun h => h⟩
theorem Fw.toks {X : List Addr} {s : Shared} {tk : Nat} : Fw X X s { s with toks := tk } := ⟨fun _ _ _ e => e, fun _ h => .inl h, rfl, fun h => h⟩

section
variable {X X' : List Addr} {s s' : Shared}
theorem Fw.tup (f : Fw X X' s s') {a : Addr} {its : Array Value} (ha : a ∉ X) (t : s.heap.IsTuple a its) : a ∉ X' ∧ s'.heap.IsTuple a its := by
  obtain ⟨o, ho, r⟩ := t
  refine ⟨fun h => ?_, ⟨o, f.keep a o ha ho, r⟩⟩
  rcases f.dom a h with h | h
  · exact ha h
  · rw [ho] at h; cases h
theorem Fw.lst (f : Fw X X' s s') {a : Addr} {its : Array Value} (ha : a ∉ X) (t : s.heap.IsList a its) : a ∉ X' ∧ s'.heap.IsList a its := by
  obtain ⟨o, ho, r⟩ := t
  refine ⟨fun h => ?_, ⟨o, f.keep a o ha ho, r⟩⟩
  rcases f.dom a h with h | h
  · exact ha h
  · rw [ho] at h; cases h

mutual
theorem Rd.step (f : Fw X X' s s') : ∀ {v d}, Rd X s.heap v d → Rd X' s'.heap v d
  | _, _, .none => .none
  | _, _, .bool b => .bool b
  | _, _, .int i t => .int i t
  | _, _, .str x t => .str x t
  | _, _, .tuple ha ht r => .tuple (f.tup ha ht).1 (f.tup ha ht).2 (RdA.step f r)
  | _, _, .list ha ht r => .list (f.lst ha ht).1 (f.lst ha ht).2 (RdA.step f r)
  | _, _, .obj a => .obj a
theorem RdA.step (f : Fw X X' s s') : ∀ {vs ds}, RdA X s.heap vs ds → RdA X' s'.heap vs ds
  | _, _, .nil => .nil
  | _, _, .cons h r => .cons (Rd.step f h) (RdA.step f r)
end
end

theorem RdA.length {X : List Addr} {h : Heap} : ∀ {vs ds}, RdA X h vs ds → vs.length = ds.length
  | _, _, .nil => rfl
  | _, _, .cons _ r => by rw [List.length_cons, List.length_cons, RdA.length r]
theorem RdA.append {X : List Addr} {h : Heap} : ∀ {vs ds ws es}, RdA X h vs ds → RdA X h ws es → RdA X h (vs ++ ws) (ds ++ es)
  | _, _, _, _, .nil, k => k
  | _, _, _, _, .cons h r, k => .cons h (RdA.append r k)
theorem RdA.one {X : List Addr} {h : Heap} {v : Value} {d : Dat} (r : Rd X h v d) : RdA X h [v] [d] := .cons r .nil
theorem RdA.get {X : List Addr} {h : Heap} : ∀ {vs ds} (i : Nat) {d}, RdA X h vs ds → ds[i]? = some d → ∃ v, vs[i]? = some v ∧ Rd X h v d
  | _, _, 0, _, .cons h _, e => by simp at e; subst e; exact ⟨_, rfl, h⟩
  | _, _, i + 1, _, .cons _ r, e => by simp at e; simpa using RdA.get i r e
theorem RdA.get' {X : List Addr} {h : Heap} : ∀ {vs ds} (i : Nat) {v}, RdA X h vs ds → vs[i]? = some v → ∃ d, ds[i]? = some d ∧ Rd X h v d
  | _, _, 0, _, .cons h _, e => by simp at e; subst e; exact ⟨_, rfl, h⟩
  | _, _, i + 1, _, .cons _ r, e => by simp at e; simpa using RdA.get' i r e
theorem RdA.take {X : List Addr} {h : Heap} : ∀ {vs ds} (n : Nat), RdA X h vs ds → RdA X h (vs.take n) (ds.take n)
  | _, _, 0, _ => by simp; exact .nil
  | _, _, _ + 1, .nil => by simp; exact .nil
  | _, _, n + 1, .cons h r => .cons h (RdA.take n r)
theorem RdA.drop {X : List Addr} {h : Heap} : ∀ {vs ds} (n : Nat), RdA X h vs ds → RdA X h (vs.drop n) (ds.drop n)
  | _, _, 0, r => by simpa using r
  | _, _, _ + 1, .nil => by simp; exact .nil
  | _, _, n + 1, .cons _ r => by simpa using RdA.drop n r

/-! The same as the library's own reading (for ==, in). -/
mutual
noncomputable def Dat.py : Dat → PyData
  | .none => .none
  | .bool b => .bool b
  | .int i => .int i
  | .str x => .str x
  | .tuple ds => .tuple (Dat.pys ds)
  | .list ds => .list (Dat.pys ds)
  | .obj _ => .none
noncomputable def Dat.pys : List Dat → List PyData
  | [] => []
  | d :: r => d.py :: Dat.pys r
end
mutual
noncomputable def Dat.noObj : Dat → Bool
  | .tuple ds => Dat.noObjs ds
  | .list ds => Dat.noObjs ds
  | .obj _ => false
  | _ => true
noncomputable def Dat.noObjs : List Dat → Bool
  | [] => true
  | d :: r => d.noObj && Dat.noObjs r
end
mutual
theorem Rd.reads {X : List Addr} {h : Heap} : ∀ {v d}, Rd X h v d → d.noObj = true → ∃ as, Reads h v d.py as
  | _, _, .none, _ => ⟨_, .none⟩
  | _, _, .bool b, _ => ⟨_, .bool b⟩
  | _, _, .int i t, _ => ⟨_, .int i t⟩
  | _, _, .str x t, _ => ⟨_, .str x t⟩
  | _, _, .tuple (ds := ds) _ ⟨_, ho, hc, _, hd⟩ r, n => by
    have n' : Dat.noObjs ds = true := n
    obtain ⟨as, q⟩ := RdA.reads r n'
    exact ⟨as, .tuple ho hc hd (by simpa using q)⟩
  | _, _, .list (ds := ds) _ ⟨_, ho, hc, _, hd⟩ r, n => by
    have n' : Dat.noObjs ds = true := n
    obtain ⟨as, q⟩ := RdA.reads r n'
    exact ⟨_, .list ho hc hd (by simpa using q)⟩
  | _, _, .obj _, n => by cases n
theorem RdA.reads {X : List Addr} {h : Heap} : ∀ {vs ds}, RdA X h vs ds → Dat.noObjs ds = true → ∃ as, ReadsAll h vs (Dat.pys ds) as
  | _, _, .nil, _ => ⟨_, .nil⟩
  | _, _, .cons (d := d) (ds := ds) h r, n => by
    have n' : (d.noObj && Dat.noObjs ds) = true := n
    obtain ⟨n1, n2⟩ := Bool.and_eq_true_iff.mp n'
    obtain ⟨as, q⟩ := Rd.reads h n1
    obtain ⟨bs, q'⟩ := RdA.reads r n2
    exact ⟨_, .cons q q'⟩
end

end Mine

end

noncomputable section
namespace Mine

/-- objects that hold a row of values and are not among X stand as they stood -/
noncomputable def SeqK (X : List Addr) (h h' : Heap) : Prop := ∀ b o xs n, b ∉ X → o.data = .seq xs n → h.get? b = some o → h'.get? b = some o
mutual
theorem Rd.seq {X : List Addr} {h h' : Heap} (k : SeqK X h h') : ∀ {v d}, Rd X h v d → Rd X h' v d
  | _, _, .none => .none
  | _, _, .bool b => .bool b
  | _, _, .int i t => .int i t
  | _, _, .str x t => .str x t
  | _, _, .tuple ha ⟨o, ho, hc, n, hd⟩ r => .tuple ha ⟨o, k _ _ _ _ ha hd ho, hc, n, hd⟩ (RdA.seq k r)
  | _, _, .list ha ⟨o, ho, hc, n, hd⟩ r => .list ha ⟨o, k _ _ _ _ ha hd ho, hc, n, hd⟩ (RdA.seq k r)
  | _, _, .obj a => .obj a
theorem RdA.seq {X : List Addr} {h h' : Heap} (k : SeqK X h h') : ∀ {vs ds}, RdA X h vs ds → RdA X h' vs ds
  | _, _, .nil => .nil
  | _, _, .cons h r => .cons (Rd.seq k h) (RdA.seq k r)
end
theorem SeqK.of_keeps {X : List Addr} {h h' : Heap} (k : ∀ b o, h.get? b = some o → h'.get? b = some o) : SeqK X h h' := fun b o _ _ _ _ e => k b o e
theorem SeqK.sameBut {X : List Addr} {h h' : Heap} {a : Addr} (hs : Heap.SameBut a h h') (ha : a ∈ X ∨ ∀ o xs n, h.get? a = some o → o.data ≠ .seq xs n) : SeqK X h h' := by
  intro b o xs n hb hd e
  by_cases q : b = a
  · subst q
    rcases ha with ha | ha
    · exact absurd ha hb
    · exact absurd hd (ha o xs n e)
  · exact (hs.2 b q).trans e

mutual
theorem Rd.less {X Y : List Addr} {h : Heap} (k : ∀ b o, b ∉ X → h.get? b = some o → b ∉ Y) : ∀ {v d}, Rd X h v d → Rd Y h v d
  | _, _, .none => .none
  | _, _, .bool b => .bool b
  | _, _, .int i t => .int i t
  | _, _, .str x t => .str x t
  | _, _, .tuple ha ⟨o, ho, hc⟩ r => .tuple (k _ _ ha ho) ⟨o, ho, hc⟩ (RdA.less k r)
  | _, _, .list ha ⟨o, ho, hc⟩ r => .list (k _ _ ha ho) ⟨o, ho, hc⟩ (RdA.less k r)
  | _, _, .obj a => .obj a
theorem RdA.less {X Y : List Addr} {h : Heap} (k : ∀ b o, b ∉ X → h.get? b = some o → b ∉ Y) : ∀ {vs ds}, RdA X h vs ds → RdA Y h vs ds
  | _, _, .nil => .nil
  | _, _, .cons h r => .cons (Rd.less k h) (RdA.less k r)
end

/-! The objects that may change. -/
noncomputable abbrev accC : Addr := 114
noncomputable def sizeName : Str := "_initial_size"
inductive MO where
  | acc (dx : Addr) (n : Option Int) (ds : List Dat)
  | lst (ds : List Dat)
  | tab (c : Addr) (ps : Array Value)
  | pin (p : Obj → Prop)
  | itr (l : Addr) (ds : List Dat)
noncomputable abbrev Mem := List (Addr × MO)
noncomputable def MO.more : MO → List Addr
  | .acc dx _ _ => [dx]
  | _ => []
noncomputable def dom : Mem → List Addr
  | [] => []
  | (a, o) :: r => a :: (o.more ++ dom r)
noncomputable def SizeIs : Option Int → (Str → Option Value) → Prop
  | none, m => ∀ x, m x = none
  | some i, m => ∃ t, ∀ x, m x = if x = sizeName then some (.int i t) else none
noncomputable def MAt (X : List Addr) (h : Heap) (a : Addr) : MO → Prop
  | .acc dx n ds => ∃ vs k, h.get? a = some ⟨.ref accC, some dx, .seq vs.toArray k, #[]⟩ ∧ RdA X h vs ds ∧ ∃ m, h.Ns1 dx m ∧ SizeIs n m
  | .lst ds => ∃ vs, h.PlainList a vs.toArray ∧ RdA X h vs ds
  | .tab c ps => ∃ more, h.IsCode c a (ps ++ more) ∧ h.TableAt c a (ps ++ more)
  | .pin p => ∃ o, h.get? a = some o ∧ p o
  | .itr l ds => ∃ o, h.get? a = some o ∧ (o.cls = .type "list_iterator" ∧ o.data = .fields #[.ref l, .int 0 0]) ∧ Rd X h (.ref l) (.list ds)

structure Ok (hb : Heap) (μ : Mem) (s : Shared) : Prop where
  base : ∀ b o, hb.get? b = some o → s.heap.get? b = some o
  off : ∀ a ∈ dom μ, hb.get? a = none
  mem : ∀ p ∈ μ, MAt (dom μ) s.heap p.1 p.2
  nodup : (dom μ).Nodup
  bare : AllBare s.gens
  codes : ∀ c ps a, (a, MO.tab c ps) ∈ μ → ∃ o, hb.get? c = some o

theorem mem_dom {μ : Mem} {a : Addr} {o : MO} (h : (a, o) ∈ μ) : a ∈ dom μ := by
  induction μ with
  | nil => cases h
  | cons p r ih =>
    obtain ⟨b, q⟩ := p
    rcases List.mem_cons.mp h with e | h
    · cases e; exact .head _
    · exact .tail _ (List.mem_append_right _ (ih h))
theorem mem_more {μ : Mem} {a x : Addr} {o : MO} (h : (a, o) ∈ μ) (hx : x ∈ o.more) : x ∈ dom μ := by
  induction μ with
  | nil => cases h
  | cons p r ih =>
    obtain ⟨b, q⟩ := p
    rcases List.mem_cons.mp h with e | h
    · cases e; exact .tail _ (List.mem_append_left _ hx)
    · exact .tail _ (List.mem_append_right _ (ih h))

theorem MAt.seq {X : List Addr} {h h' : Heap} {a : Addr} (k : SeqK X h h') (ka : ∀ o, h.get? a = some o → h'.get? a = some o) :
    ∀ {o : MO}, (∀ x ∈ o.more, ∀ q, h.get? x = some q → h'.get? x = some q) → (∀ c ps, o = .tab c ps → ∀ q, h.get? c = some q → h'.get? c = some q) → MAt X h a o → MAt X h' a o
  | .acc dx n ds, km, _, ⟨vs, kk, e1, r, m, e2, z⟩ => ⟨vs, kk, ka _ e1, RdA.seq k r, m, e2.at fun o e => km dx (.head _) o e, z⟩
  | .lst ds, _, _, ⟨vs, ⟨n, e⟩, r⟩ => ⟨vs, ⟨n, ka _ e⟩, RdA.seq k r⟩
  | .pin _, _, _, ⟨o, e, z⟩ => ⟨o, ka _ e, z⟩
  | .itr _ _, _, _, ⟨o, e, z, r⟩ => ⟨o, ka _ e, z, Rd.seq k r⟩
  | .tab c ps, _, kc, ⟨more, x, y⟩ => by
    obtain ⟨o, vs, file, tf, flags, tg, inF, text, tt, op, a1, r1, r2, r3, r4, r5, r6, b1, r⟩ := x
    obtain ⟨⟨o', vs', a1', r'⟩, b1'⟩ := y
    exact ⟨more, ⟨o, vs, file, tf, flags, tg, inF, text, tt, op, kc c ps rfl _ a1, r1, r2, r3, r4, r5, r6, ka _ b1, r⟩, ⟨⟨o', vs', kc c ps rfl _ a1', r'⟩, ka _ b1'⟩⟩

theorem Ok.keeps {hb : Heap} {μ : Mem} {s : Shared} {h' : Heap} {tk : Nat} (x : Ok hb μ s) (hk : ∀ b o, s.heap.get? b = some o → h'.get? b = some o) : Ok hb μ { s with heap := h', toks := tk } :=
  ⟨fun b o e => hk b o (x.base b o e), x.off, fun p hp => (x.mem p hp).seq (.of_keeps hk) (fun o e => hk _ o e) (fun _ _ q e => hk _ q e) (fun _ _ _ q e => hk _ q e), x.nodup, x.bare, x.codes⟩
theorem Ok.toks {hb : Heap} {μ : Mem} {s : Shared} {tk : Nat} (x : Ok hb μ s) : Ok hb μ { s with toks := tk } := ⟨x.base, x.off, x.mem, x.nodup, x.bare, x.codes⟩

/-- a change at one address outside the memory, of an object that is no row of values -/
theorem Ok.sameBut {hb : Heap} {μ : Mem} {s : Shared} {h' : Heap} {tk : Nat} {a : Addr} (x : Ok hb μ s) (hs : Heap.SameBut a s.heap h') (h1 : a ∉ dom μ) (h2 : hb.get? a = none) (h3 : ∀ o xs n, s.heap.get? a = some o → o.data ≠ .seq xs n) :
    Ok hb μ { s with heap := h', toks := tk } := by
  refine ⟨fun b o e => (hs.2 b fun q => ?_).trans (x.base b o e), x.off, fun p hp => ?_, x.nodup, x.bare, x.codes⟩
  · subst q; rw [h2] at e; cases e
  · refine (x.mem p hp).seq (.sameBut hs (.inr h3)) (fun o e => (hs.2 _ fun q => h1 (q ▸ mem_dom hp)).trans e) (fun y hy o e => (hs.2 _ fun q => h1 (q ▸ mem_more hp hy)).trans e) (fun c ps e q z => (hs.2 _ fun w => ?_).trans z)
    obtain ⟨oc, hoc⟩ := x.codes c ps p.1 (by rw [← e]; exact hp)
    rw [w, h2] at hoc; cases hoc

/-! The names of a frame. -/
structure Sh where
  names : List (Str × NameKind)
  code : Value
structure EnvOk (hb : Heap) (sc : Sh) (env : Env) (ρ : List (Str × Dat)) (X : List Addr) (h : Heap) : Prop where
  scope : env.scope.names = sc.names
  kind : env.scope.kind = .function
  code : env.code = sc.code
  glob : env.globals = mainGlobals
  bi : env.builtins = builtinsNs
  locX : env.locals ∉ X
  locB : hb.get? env.locals = none
  cells : ∀ x c, sc.names.lookup x = some .cell → env.cells.lookup x = some c → c ∉ X ∧ hb.get? c = none ∧ c ≠ env.locals ∧ ∃ v, h.IsCell c v
  apart : env.cells.Pairwise fun x y => x.2 ≠ y.2
  has : ∀ x, sc.names.lookup x = some .cell ∨ sc.names.lookup x = some .free → (env.cells.lookup x).isSome = true
  vars : ∃ m, h.Ns env.locals m ∧ ∀ x d, ρ.lookup x = some d →
    (sc.names.lookup x = some .local ∧ ∃ v, m x = some v ∧ Rd X h v d) ∨
    ((sc.names.lookup x = some .cell ∨ sc.names.lookup x = some .free) ∧ ∃ c v, env.cells.lookup x = some c ∧ c ∉ X ∧ c ≠ env.locals ∧ h.IsCell c (some v) ∧ Rd X h v d)

noncomputable def own (sc : Sh) (env : Env) : List Addr := env.locals :: sc.names.filterMap fun p => if sc.names.lookup p.1 == some .cell then env.cells.lookup p.1 else none
theorem own_cell {sc : Sh} {env : Env} {x : Str} {c : Addr} (hk : sc.names.lookup x = some .cell) (hc : env.cells.lookup x = some c) : c ∈ own sc env :=
  .tail _ (List.mem_filterMap.mpr ⟨(x, .cell), mem_of_lookup hk, by simp [hk, hc]⟩)
theorem own_mem {sc : Sh} {env : Env} {c : Addr} (h : c ∈ own sc env) : c = env.locals ∨ ∃ x, sc.names.lookup x = some .cell ∧ env.cells.lookup x = some c := by
  rcases List.mem_cons.mp h with h | h
  · exact .inl h
  · obtain ⟨p, _, hp⟩ := List.mem_filterMap.mp h
    split at hp
    · rename_i q
      exact .inr ⟨p.1, by simpa using q, hp⟩
    · cases hp

theorem Fw.get {X X' : List Addr} {s s' : Shared} (f : Fw X X' s s') {b : Addr} {o : Obj} (hb : b ∉ X) (e : s.heap.get? b = some o) : b ∉ X' ∧ s'.heap.get? b = some o :=
  ⟨fun h => (f.dom b h).elim hb (fun z => by rw [e] at z; cases z), f.keep b o hb e⟩
theorem Fw.cell {X X' : List Addr} {s s' : Shared} (f : Fw X X' s s') {c : Addr} {v : Option Value} (hb : c ∉ X) (e : s.heap.IsCell c v) : c ∉ X' ∧ s'.heap.IsCell c v := by
  obtain ⟨o, ho, hd⟩ := e
  exact ⟨(f.get hb ho).1, o, (f.get hb ho).2, hd⟩

theorem EnvOk.step {hb : Heap} {sc : Sh} {env : Env} {ρ : List (Str × Dat)} {X X' : List Addr} {s s' : Shared} (x : EnvOk hb sc env ρ X s.heap) (f : Fw X X' s s') : EnvOk hb sc env ρ X' s'.heap := by
  obtain ⟨m, ⟨o, es, ep, ho, r⟩, hv⟩ := x.vars
  refine ⟨x.scope, x.kind, x.code, x.glob, x.bi, (f.get x.locX ho).1, x.locB, fun y c hk hc => ?_, x.apart, x.has, m, ⟨o, es, ep, (f.get x.locX ho).2, r⟩, fun y d hy => ?_⟩
  · obtain ⟨h1, h2, h3, v, h4⟩ := x.cells y c hk hc
    exact ⟨(f.cell h1 h4).1, h2, h3, v, (f.cell h1 h4).2⟩
  · rcases hv y d hy with ⟨h1, v, h2, h3⟩ | ⟨h1, c, v, h2, h3, h4, h5, h6⟩
    · exact .inl ⟨h1, v, h2, h3.step f⟩
    · exact .inr ⟨h1, c, v, h2, (f.cell h3 h5).1, h4, (f.cell h3 h5).2, h6.step f⟩
theorem EnvOk.less {hb : Heap} {sc : Sh} {env : Env} {ρ ρ' : List (Str × Dat)} {X : List Addr} {h : Heap} (x : EnvOk hb sc env ρ X h) (k : ∀ y d, ρ'.lookup y = some d → ρ.lookup y = some d) : EnvOk hb sc env ρ' X h := by
  obtain ⟨m, n, hv⟩ := x.vars
  exact ⟨x.scope, x.kind, x.code, x.glob, x.bi, x.locX, x.locB, x.cells, x.apart, x.has, m, n, fun y d e => hv y d (k y d e)⟩

/-- a local name is stored -/
theorem storeL {hb : Heap} {sc : Sh} {env : Env} {ρ : List (Str × Dat)} {μ : Mem} {M : Model} {A : Around} {E : Value → Shared → Prop} {s : Shared} {x : Str} {v : Value} {d : Dat} {Q : Unit → Shared → Prop}
    (e : EnvOk hb sc env ρ (dom μ) s.heap) (k : Ok hb μ s) (r : Rd (dom μ) s.heap v d) (hx : sc.names.lookup x = some .local)
    (h : ∀ h' tk, EnvOk hb sc env ((x, d) :: ρ) (dom μ) h' → Ok hb μ { s with heap := h', toks := tk } → Heap.SameBut env.locals s.heap h' → SeqK (dom μ) s.heap h' → Q () { s with heap := h', toks := tk }) : wpAny M A (storeName env x v) Q E s := by
  obtain ⟨m, n, hv⟩ := e.vars
  refine wpAny_storeName_local (by show env.scope.names.lookup x = _; rw [e.scope, hx]) n (fun h' n' hs => ?_) (by rw [e.kind]; rfl)
  have nd : ∀ o xs nn, s.heap.get? env.locals = some o → o.data ≠ .seq xs nn := by
    obtain ⟨o, es, ep, ho, hd, _⟩ := n
    intro o' xs nn ho' hd'
    rw [ho] at ho'; cases ho'; rw [hd] at hd'; cases hd'
  have sk : SeqK (dom μ) s.heap h' := .sameBut hs (.inr nd)
  refine h h' _ ⟨e.scope, e.kind, e.code, e.glob, e.bi, e.locX, e.locB, fun y c h1 h2 => ?_, e.apart, e.has, _, n', fun y dy hy => ?_⟩ (k.sameBut hs e.locX e.locB nd) hs sk
  · obtain ⟨a1, a2, a3, w, a4⟩ := e.cells y c h1 h2
    exact ⟨a1, a2, a3, w, a4.sameBut hs a3⟩
  · by_cases q : y = x
    · subst q
      simp at hy; subst hy
      exact .inl ⟨hx, v, by simp, r.seq sk⟩
    · have hy' : ρ.lookup y = some dy := by
        rw [List.lookup_cons] at hy
        have : (y == x) = false := by simpa using q
        rwa [this] at hy
      rcases hv y dy hy' with ⟨h1, w, h2, h3⟩ | ⟨h1, c, w, h2, h3, h4, h5, h6⟩
      · exact .inl ⟨h1, w, by simp [q, h2], h3.seq sk⟩
      · exact .inr ⟨h1, c, w, h2, h3, h4, h5.sameBut hs h4, h6.seq sk⟩

/-- a name is stored -/
theorem store {hb : Heap} {sc : Sh} {env : Env} {ρ : List (Str × Dat)} {μ : Mem} {M : Model} {A : Around} {E : Value → Shared → Prop} {s : Shared} {x : Str} {v : Value} {d : Dat} {Q : Unit → Shared → Prop}
    (e : EnvOk hb sc env ρ (dom μ) s.heap) (k : Ok hb μ s) (r : Rd (dom μ) s.heap v d)
    (hx : sc.names.lookup x = some .local ∨ sc.names.lookup x = some .cell)
    (h : ∀ s', EnvOk hb sc env ((x, d) :: ρ) (dom μ) s'.heap → Ok hb μ s' → Fw (own sc env ++ dom μ) (own sc env ++ dom μ) s s' → Q () s') : wpAny M A (storeName env x v) Q E s := by
  obtain ⟨m, n, hv⟩ := e.vars
  have hkf : env.scope.kind = .function := e.kind
  rcases hx with hx | hx
  · refine wpAny_storeName_local (by show env.scope.names.lookup x = _; rw [e.scope, hx]) n (fun h' n' hs => ?_) (by rw [hkf]; rfl)
    have nd : ∀ o xs nn, s.heap.get? env.locals = some o → o.data ≠ .seq xs nn := by
      obtain ⟨o, es, ep, ho, hd, _⟩ := n
      intro o' xs nn ho' hd'
      rw [ho] at ho'; cases ho'; rw [hd] at hd'; cases hd'
    have sk : SeqK (dom μ) s.heap h' := .sameBut hs (.inr nd)
    refine h _ ⟨e.scope, e.kind, e.code, e.glob, e.bi, e.locX, e.locB, fun y c h1 h2 => ?_, e.apart, e.has, _, n', fun y dy hy => ?_⟩ (k.sameBut hs e.locX e.locB nd) ⟨fun b o hb' eb => (hs.2 b fun q => hb' (q ▸ List.mem_append_left _ (.head _))).trans eb, fun a ha => .inl ha, rfl, fun z => z⟩
    · obtain ⟨a1, a2, a3, w, a4⟩ := e.cells y c h1 h2
      exact ⟨a1, a2, a3, w, a4.sameBut hs a3⟩
    · by_cases q : y = x
      · subst q
        simp at hy; subst hy
        exact .inl ⟨hx, v, by simp, r.seq sk⟩
      · have hy' : ρ.lookup y = some dy := by
          rw [List.lookup_cons] at hy
          have : (y == x) = false := by simpa using q
          rwa [this] at hy
        rcases hv y dy hy' with ⟨h1, w, h2, h3⟩ | ⟨h1, c, w, h2, h3, h4, h5, h6⟩
        · exact .inl ⟨h1, w, by simp [q, h2], h3.seq sk⟩
        · exact .inr ⟨h1, c, w, h2, h3, h4, h5.sameBut hs h4, h6.seq sk⟩
  · obtain ⟨c, hc⟩ := Option.isSome_iff_exists.mp (e.has x (.inl hx))
    obtain ⟨a1, a2, a3, w, a4⟩ := e.cells x c hx hc
    refine wpAny_storeName_cell hkf (by show env.scope.names.lookup x = _; rw [e.scope, hx]) hc a4 fun h' n' hs => ?_
    have nd : ∀ o xs nn, s.heap.get? c = some o → o.data ≠ .seq xs nn := by
      obtain ⟨o, ho, hd⟩ := a4
      intro o' xs nn ho' hd'
      rw [ho] at ho'; cases ho'; rw [hd] at hd'; cases hd'
    have sk : SeqK (dom μ) s.heap h' := .sameBut hs (.inr nd)
    refine h _ ⟨e.scope, e.kind, e.code, e.glob, e.bi, e.locX, e.locB, fun y c' h1 h2 => ?_, e.apart, e.has, m, n.sameBut hs (Ne.symm a3), fun y dy hy => ?_⟩ (k.sameBut (tk := s.toks) hs a1 a2 nd) ⟨fun b o hb' eb => (hs.2 b fun q => hb' (q ▸ List.mem_append_left _ (own_cell hx hc))).trans eb, fun a ha => .inl ha, rfl, fun z => z⟩
    · obtain ⟨b1, b2, b3, u, b4⟩ := e.cells y c' h1 h2
      refine ⟨b1, b2, b3, ?_⟩
      by_cases q : c' = c
      · exact ⟨_, q ▸ n'⟩
      · exact ⟨u, b4.sameBut hs q⟩
    · by_cases q : y = x
      · subst q
        simp at hy; subst hy
        exact .inr ⟨.inl hx, c, v, hc, a1, a3, n', r.seq sk⟩
      · have hy' : ρ.lookup y = some dy := by
          rw [List.lookup_cons] at hy
          have : (y == x) = false := by simpa using q
          rwa [this] at hy
        rcases hv y dy hy' with ⟨h1, w', h2, h3⟩ | ⟨h1, c', w', h2, h3, h4, h5, h6⟩
        · exact .inl ⟨h1, w', h2, h3.seq sk⟩
        · refine .inr ⟨h1, c', w', h2, h3, h4, h5.sameBut hs fun z => q (name_of_addr e.apart (mem_of_lookup h2) (z ▸ mem_of_lookup hc)), h6.seq sk⟩

end Mine

end

noncomputable section
namespace Mine

/-- room: no exception is being handled, k more frames fit -/
structure Calm (k : Nat) (A : Around) : Prop where
  han : A.handled = none
  dep : A.depth + k < recursionLimit
  uni : A.units + 40 * k + 200 < cLine
theorem Calm.deeper {k : Nat} {A : Around} (c : Calm (k + 1) A) (env : Env) : Calm k (A.deeper env) :=
  ⟨c.han, by have := c.dep; show A.depth + 1 + k < _; omega, by have := c.uni; show A.units + 3 + 40 * k + 200 < _; omega⟩
theorem Calm.less {k j : Nat} {A : Around} (c : Calm k A) (h : j ≤ k) : Calm j A :=
  ⟨c.han, by have := c.dep; omega, by have := c.uni; omega⟩
theorem Calm.in1 {k : Nat} {A : Around} (c : Calm (k + 1) A) : Calm k A.in1 :=
  ⟨c.han, by have := c.dep; show A.depth + k < _; omega, by have := c.uni; show A.units + 1 + 40 * k + 200 < _; omega⟩
theorem Calm.room {k : Nat} {A : Around} (c : Calm k A) : A.depth < recursionLimit := by have := c.dep; omega
theorem Calm.u65 {k : Nat} {A : Around} (c : Calm k A) : A.units + 65 < cLine := by have := c.uni; omega
theorem Calm.u64 {k : Nat} {A : Around} (c : Calm k A) : A.units + 64 < cLine := by have := c.uni; omega
theorem Calm.u {k : Nat} {A : Around} (c : Calm k A) : A.units < cLine := by have := c.uni; omega

section
variable (prog : Program) (w : World) (hb : Heap)
/-- the tree ends with data, from this state -/
structure WV (A : Around) (E : Value → Shared → Prop) (t : Sem Value) (μ : Mem) (Φ : Dat → Mem → Prop) (s : Shared) : Prop where
  run : ∀ Q : Value → Shared → Prop, (∀ v d μ' s', Φ d μ' → Rd (dom μ') s'.heap v d → Ok hb μ' s' → Fw (dom μ) (dom μ') s s' → Q v s') → wpAny (model prog w) A t Q E s
structure WL (A : Around) (E : Value → Shared → Prop) (t : Sem (List Value)) (μ : Mem) (Φ : List Dat → Mem → Prop) (s : Shared) : Prop where
  run : ∀ Q : List Value → Shared → Prop, (∀ vs ds μ' s', Φ ds μ' → RdA (dom μ') s'.heap vs ds → Ok hb μ' s' → Fw (dom μ) (dom μ') s s' → Q vs s') → wpAny (model prog w) A t Q E s
structure WB (A : Around) (E : Value → Shared → Prop) (t : Sem Bool) (μ : Mem) (Φ : Bool → Mem → Prop) (s : Shared) : Prop where
  run : ∀ Q : Bool → Shared → Prop, (∀ b μ' s', Φ b μ' → Ok hb μ' s' → Fw (dom μ) (dom μ') s s' → Q b s') → wpAny (model prog w) A t Q E s

noncomputable def WpE (sc : Sh) (k : Nat) (e : Expr) (ρ : List (Str × Dat)) (μ : Mem) (Φ : Dat → Mem → Prop) : Prop :=
  ∀ (env : Env) (A : Around) (s : Shared) (E : Value → Shared → Prop), Calm k A → EnvOk hb sc env ρ (dom μ) s.heap → Ok hb μ s → WV prog w hb A E (eval e env) μ Φ s
noncomputable def WpB (sc : Sh) (k : Nat) (e : Expr) (ρ : List (Str × Dat)) (μ : Mem) (Φ : Bool → Mem → Prop) : Prop :=
  ∀ (env : Env) (A : Around) (s : Shared) (E : Value → Shared → Prop), Calm k A → EnvOk hb sc env ρ (dom μ) s.heap → Ok hb μ s → WB prog w hb A E (isTrue e env (eval e env)) μ Φ s
noncomputable def WpA (sc : Sh) (k : Nat) (es : List Expr) (pos : Pos) (ρ : List (Str × Dat)) (μ : Mem) (Φ : List Dat → Mem → Prop) : Prop :=
  ∀ (env : Env) (A : Around) (s : Shared) (E : Value → Shared → Prop), Calm k A → EnvOk hb sc env ρ (dom μ) s.heap → Ok hb μ s → WL prog w hb A E (spliced (backTo pos (starEach es env))) μ Φ s
/-- an operation on values that read as data, nothing that stands is changed -/
noncomputable def Bop (f : Value → Value → Sem Value) (d₁ d₂ d : Dat) : Prop :=
  ∀ (k : Nat) (A : Around) (E : Value → Shared → Prop) (μ : Mem) (s : Shared) (v₁ v₂ : Value), Calm k A → Ok hb μ s → Rd (dom μ) s.heap v₁ d₁ → Rd (dom μ) s.heap v₂ d₂ → WV prog w hb A E (f v₁ v₂) μ (fun d' μ' => d' = d ∧ μ' = μ) s
noncomputable def Uop (f : Value → Sem Value) (d₁ d : Dat) : Prop :=
  ∀ (k : Nat) (A : Around) (E : Value → Shared → Prop) (μ : Mem) (s : Shared) (v₁ : Value), Calm k A → Ok hb μ s → Rd (dom μ) s.heap v₁ d₁ → WV prog w hb A E (f v₁) μ (fun d' μ' => d' = d ∧ μ' = μ) s
noncomputable def Tru (d : Dat) (b : Bool) : Prop :=
  ∀ (k : Nat) (A : Around) (E : Value → Shared → Prop) (μ : Mem) (s : Shared) (v : Value), Calm k A → Ok hb μ s → Rd (dom μ) s.heap v d → WB prog w hb A E (truthy v) μ (fun b' μ' => b' = b ∧ μ' = μ) s
end

section
variable {prog : Program} {w : World} {hb : Heap} {A : Around} {E : Value → Shared → Prop} {μ : Mem} {s : Shared}
theorem WV.mono {t : Sem Value} {Φ Ψ : Dat → Mem → Prop} (h : WV prog w hb A E t μ Φ s) (k : ∀ d μ', Φ d μ' → Ψ d μ') : WV prog w hb A E t μ Ψ s :=
  ⟨fun Q hQ => h.run Q fun v d μ' s' a b c e => hQ v d μ' s' (k d μ' a) b c e⟩
theorem WV.ret {v : Value} {d : Dat} {Φ : Dat → Mem → Prop} (r : Rd (dom μ) s.heap v d) (x : Ok hb μ s) (h : Φ d μ) : WV prog w hb A E (pure v) μ Φ s :=
  ⟨fun _ hQ => wpAny_pure (hQ v d μ s h r x (Fw.refl _ _))⟩
theorem WV.bind {t : Sem Value} {f : Value → Sem Value} {Φ : Dat → Mem → Prop}
    (h : WV prog w hb A E t μ (fun _ _ => True) s → WV prog w hb A E (t >>= f) μ Φ s) (h' : WV prog w hb A E t μ (fun _ _ => True) s) : WV prog w hb A E (t >>= f) μ Φ s := h h'
end

section
variable {prog : Program} {w : World} {hb : Heap} {sc : Sh} {k : Nat} {ρ : List (Str × Dat)} {μ : Mem} {Φ : Dat → Mem → Prop} {ΦB : Bool → Mem → Prop}

theorem WpE.mono {e : Expr} {Ψ : Dat → Mem → Prop} (h : WpE prog w hb sc k e ρ μ Φ) (kk : ∀ d μ', Φ d μ' → Ψ d μ') : WpE prog w hb sc k e ρ μ Ψ :=
  fun env A s E c x y => (h env A s E c x y).mono kk

theorem WpE.int {i : Int} {n : Nat} {pos : Pos} (h : Φ (.int i) μ) : WpE prog w hb sc k (.Constant (.int i) n pos) ρ μ Φ :=
  fun _ _ _ _ _ _ y => ⟨fun _ hQ => wpAny_Constant_int (hQ _ _ μ _ h (.int i _) y.toks Fw.toks)⟩
theorem WpE.str {x : Str} {n : Nat} {pos : Pos} (h : Φ (.str x) μ) : WpE prog w hb sc k (.Constant (.str x) n pos) ρ μ Φ :=
  fun _ _ _ _ _ _ y => ⟨fun _ hQ => wpAny_Constant_str (hQ _ _ μ _ h (.str x _) y.toks Fw.toks)⟩
theorem WpE.none {n : Nat} {pos : Pos} (h : Φ .none μ) : WpE prog w hb sc k (.Constant .none n pos) ρ μ Φ :=
  fun _ _ _ _ _ _ y => ⟨fun _ hQ => wpAny_Constant_none (hQ _ _ μ _ h .none y (Fw.refl _ _))⟩
theorem WpE.boolc {b : Bool} {n : Nat} {pos : Pos} (h : Φ (.bool b) μ) : WpE prog w hb sc k (.Constant (.bool b) n pos) ρ μ Φ :=
  fun _ _ _ _ _ _ y => ⟨fun _ hQ => wpAny_Constant_bool (hQ _ _ μ _ h (.bool b) y (Fw.refl _ _))⟩

theorem WpE.name {x : Str} {d : Dat} {pos : Pos} (hx : ρ.lookup x = some d) (h : Φ d μ) (hd : (x == ("__debug__" : Str)) = false := by decide) (hn : (x == ("__classdict__" : Str)) = false := by decide) :
    WpE prog w hb sc k (.Name x pos) ρ μ Φ := by
  intro env A s E _ e y
  refine ⟨fun Q hQ => ?_⟩
  obtain ⟨m, n, hv⟩ := e.vars
  have hk : env.scope.kind = .function := e.kind
  rcases hv x d hx with ⟨h1, v, h2, h3⟩ | ⟨h1, c, v, h2, h3, h4, h5, h6⟩
  · exact wpAny_Name (wpAny_loadName_local hk (by show env.scope.names.lookup x = _; rw [e.scope, h1]) n h2 (hQ v d μ s h h3 y (Fw.refl _ _))) hd
  · rcases h1 with h1 | h1
    · exact wpAny_Name (wpAny_loadName_cell hk (by show env.scope.names.lookup x = _; rw [e.scope, h1]) h2 h5 (hQ v d μ s h h6 y (Fw.refl _ _))) hd
    · exact wpAny_Name (wpAny_loadName_free hk (by show env.scope.names.lookup x = _; rw [e.scope, h1]) h2 h5 (hQ v d μ s h h6 y (Fw.refl _ _)) hn) hd
/-- a name of the module: a def, a class, an object -/
theorem WpE.glob {x : Str} {a : Addr} {pos : Pos} {mg : Str → Option Value} (G : hb.Ns mainGlobals mg) (hx : mg x = some (.ref a)) (h : Φ (.obj a) μ) (hk : sc.names.lookup x = some .globalImplicit := by rfl)
    (hd : (x == ("__debug__" : Str)) = false := by decide) : WpE prog w hb sc k (.Name x pos) ρ μ Φ := by
  intro env A s E _ e y
  refine ⟨fun Q hQ => ?_⟩
  exact Calls.Name_function_global e.kind (by show env.scope.names.lookup x = _; rw [e.scope, hk]) (Calls.loadGlobal_global (by rw [e.glob]; exact G.keeps y.base) hx (hQ _ _ μ s h (.obj a) y (Fw.refl _ _))) hd
theorem WpE.globStr {x z : Str} {t : Tok} {pos : Pos} {mg : Str → Option Value} (G : hb.Ns mainGlobals mg) (hx : mg x = some (.str z t)) (h : Φ (.str z) μ) (hk : sc.names.lookup x = some .globalImplicit := by rfl)
    (hd : (x == ("__debug__" : Str)) = false := by decide) : WpE prog w hb sc k (.Name x pos) ρ μ Φ := by
  intro env A s E _ e y
  refine ⟨fun Q hQ => ?_⟩
  exact Calls.Name_function_global e.kind (by show env.scope.names.lookup x = _; rw [e.scope, hk]) (Calls.loadGlobal_global (by rw [e.glob]; exact G.keeps y.base) hx (hQ _ _ μ s h (.str z t) y (Fw.refl _ _))) hd

theorem WpE.binop {l r : Expr} {op : Operator} {pos : Pos} (h : WpE prog w hb sc k l ρ μ (fun d₁ μ₁ => WpE prog w hb sc k r ρ μ₁ (fun d₂ μ₂ => ∃ d, Bop prog w hb (binaryOp op) d₁ d₂ d ∧ Φ d μ₂))) :
    WpE prog w hb sc k (.BinOp l op r pos) ρ μ Φ := by
  intro env A s E c e y
  refine ⟨fun Q hQ => ?_⟩
  refine wpAny_BinOp ((h env A s E c e y).run _ fun v₁ d₁ μ₁ s₁ h₁ r₁ y₁ f₁ => (h₁ env A s₁ E c (e.step f₁) y₁).run _ fun v₂ d₂ μ₂ s₂ h₂ r₂ y₂ f₂ => ?_)
  obtain ⟨d, hb', hΦ⟩ := h₂
  refine (hb' k A E μ₂ s₂ v₁ v₂ c y₂ (r₁.step f₂) r₂).run _ fun v d' μ' s' h' r' y' f' => ?_
  obtain ⟨rfl, rfl⟩ := h'
  exact hQ v _ _ s' hΦ r' y' ((f₁.trans f₂).trans f')
theorem WpE.compare {l r : Expr} {op : CmpOp} {pos : Pos} (h : WpE prog w hb sc k l ρ μ (fun d₁ μ₁ => WpE prog w hb sc k r ρ μ₁ (fun d₂ μ₂ => ∃ d, Bop prog w hb (compareOp op) d₁ d₂ d ∧ Φ d μ₂)))
    (hm : behindInMarks op r = false := by with_unfolding_all rfl) : WpE prog w hb sc k (.Compare l [op] [r] pos) ρ μ Φ := by
  intro env A s E c e y
  refine ⟨fun Q hQ => ?_⟩
  refine wpAny_Compare1 ((h env A s E c e y).run _ fun v₁ d₁ μ₁ s₁ h₁ r₁ y₁ f₁ => (h₁ env A s₁ E c (e.step f₁) y₁).run _ fun v₂ d₂ μ₂ s₂ h₂ r₂ y₂ f₂ => ?_) hm
  obtain ⟨d, hb', hΦ⟩ := h₂
  refine (hb' k A E μ₂ s₂ v₁ v₂ c y₂ (r₁.step f₂) r₂).run _ fun v d' μ' s' h' r' y' f' => ?_
  obtain ⟨rfl, rfl⟩ := h'
  exact hQ v _ _ s' hΦ r' y' ((f₁.trans f₂).trans f')
theorem WpB.compare {l r : Expr} {op : CmpOp} {pos : Pos} (h : WpE prog w hb sc k l ρ μ (fun d₁ μ₁ => WpE prog w hb sc k r ρ μ₁ (fun d₂ μ₂ => ∃ b, Bop prog w hb (compareOp op) d₁ d₂ (.bool b) ∧ ΦB b μ₂)))
    (hm : behindInMarks op r = false := by with_unfolding_all rfl) : WpB prog w hb sc k (.Compare l [op] [r] pos) ρ μ ΦB := by
  intro env A s E c e y
  refine ⟨fun Q hQ => ?_⟩
  refine wpAny_isTrue_Compare1 ((h env A s E c e y).run _ fun v₁ d₁ μ₁ s₁ h₁ r₁ y₁ f₁ => (h₁ env A s₁ E c (e.step f₁) y₁).run _ fun v₂ d₂ μ₂ s₂ h₂ r₂ y₂ f₂ => ?_) hm
  obtain ⟨b, hb', hΦ⟩ := h₂
  refine (hb' k A E μ₂ s₂ v₁ v₂ c y₂ (r₁.step f₂) r₂).run _ fun v d' μ' s' h' r' y' f' => ?_
  obtain ⟨rfl, rfl⟩ := h'
  cases r'
  exact wpAny_truthy_bool (hQ _ _ s' hΦ y' ((f₁.trans f₂).trans f'))
theorem WpB.value {x : Expr} (h : WpE prog w hb sc k x ρ μ (fun d μ₁ => ∃ b, Tru prog w hb d b ∧ ΦB b μ₁))
    (he : ∀ env, isTrue x env (eval x env) = (do let v ← eval x env; standAt x.pos; holding [v] (truthy v)) := by intro _; rfl) : WpB prog w hb sc k x ρ μ ΦB := by
  intro env A s E c e y
  refine ⟨fun Q hQ => ?_⟩
  refine wpAny_isTrue_value ((h env A s E c e y).run _ fun v d μ₁ s₁ h₁ r₁ y₁ f₁ => ?_) (he env)
  obtain ⟨b, t, hΦ⟩ := h₁
  refine (t k A E μ₁ s₁ v c y₁ r₁).run _ fun b' μ' s' h' y' f' => ?_
  obtain ⟨rfl, rfl⟩ := h'
  exact hQ _ _ s' hΦ y' (f₁.trans f')
theorem WpB.not {x : Expr} {pos : Pos} (h : WpB prog w hb sc k x ρ μ (fun b μ₁ => ΦB (!b) μ₁)) : WpB prog w hb sc k (.UnaryOp .Not x pos) ρ μ ΦB := by
  intro env A s E c e y
  refine ⟨fun Q hQ => ?_⟩
  exact wpAny_isTrue_Not ((h env A s E c e y).run _ fun b μ₁ s₁ h₁ y₁ f₁ => hQ _ _ s₁ h₁ y₁ f₁)
theorem WpE.ifexp {t a b : Expr} {pos : Pos} (h : WpB prog w hb sc k t ρ μ (fun q μ₁ => if q then WpE prog w hb sc k a ρ μ₁ Φ else WpE prog w hb sc k b ρ μ₁ Φ)) : WpE prog w hb sc k (.IfExp t a b pos) ρ μ Φ := by
  intro env A s E c e y
  refine ⟨fun Q hQ => ?_⟩
  refine wpAny_IfExp ((h env A s E c e y).run _ fun q μ₁ s₁ h₁ y₁ f₁ => ?_)
  cases q
  · exact (h₁ env A s₁ E c (e.step f₁) y₁).run Q fun v d μ' s' a1 a2 a3 a4 => hQ v d μ' s' a1 a2 a3 (f₁.trans a4)
  · exact (h₁ env A s₁ E c (e.step f₁) y₁).run Q fun v d μ' s' a1 a2 a3 a4 => hQ v d μ' s' a1 a2 a3 (f₁.trans a4)
noncomputable def WpAll (prog : Program) (w : World) (hb : Heap) (sc : Sh) (k : Nat) (op : BoolOp) (es : List Expr) (ρ : List (Str × Dat)) (μ : Mem) (Φ : Bool → Mem → Prop) : Prop :=
  ∀ (env : Env) (A : Around) (s : Shared) (E : Value → Shared → Prop), Calm k A → EnvOk hb sc env ρ (dom μ) s.heap → Ok hb μ s → WB prog w hb A E (allTrue op es env) μ Φ s
theorem WpB.boolop {op : BoolOp} {es : List Expr} {pos : Pos} (h : WpAll prog w hb sc k op es ρ μ ΦB) : WpB prog w hb sc k (.BoolOp op es pos) ρ μ ΦB :=
  fun env A s E c e y => ⟨fun Q hQ => wpAny_isTrue_BoolOp ((h env A s E c e y).run Q hQ)⟩
theorem WpAll.andNil (h : ΦB true μ) : WpAll prog w hb sc k .And [] ρ μ ΦB := fun _ _ _ _ _ _ y => ⟨fun _ hQ => wpAny_allTrue_And_nil (hQ _ _ _ h y (Fw.refl _ _))⟩
theorem WpAll.orNil (h : ΦB false μ) : WpAll prog w hb sc k .Or [] ρ μ ΦB := fun _ _ _ _ _ _ y => ⟨fun _ hQ => wpAny_allTrue_Or_nil (hQ _ _ _ h y (Fw.refl _ _))⟩
theorem WpAll.and {x : Expr} {r : List Expr} (h : WpB prog w hb sc k x ρ μ (fun b μ₁ => if b then WpAll prog w hb sc k .And r ρ μ₁ ΦB else ΦB false μ₁)) : WpAll prog w hb sc k .And (x :: r) ρ μ ΦB := by
  intro env A s E c e y
  refine ⟨fun Q hQ => ?_⟩
  refine wpAny_allTrue_And_cons ((h env A s E c e y).run _ fun b μ₁ s₁ h₁ y₁ f₁ => ?_)
  cases b
  · exact hQ _ _ _ h₁ y₁ f₁
  · exact (h₁ env A s₁ E c (e.step f₁) y₁).run Q fun b μ' s' a1 a3 a4 => hQ b μ' s' a1 a3 (f₁.trans a4)
theorem WpAll.or {x : Expr} {r : List Expr} (h : WpB prog w hb sc k x ρ μ (fun b μ₁ => if b then ΦB true μ₁ else WpAll prog w hb sc k .Or r ρ μ₁ ΦB)) : WpAll prog w hb sc k .Or (x :: r) ρ μ ΦB := by
  intro env A s E c e y
  refine ⟨fun Q hQ => ?_⟩
  refine wpAny_allTrue_Or_cons ((h env A s E c e y).run _ fun b μ₁ s₁ h₁ y₁ f₁ => ?_)
  cases b
  · exact (h₁ env A s₁ E c (e.step f₁) y₁).run Q fun b μ' s' a1 a3 a4 => hQ b μ' s' a1 a3 (f₁.trans a4)
  · exact hQ _ _ _ h₁ y₁ f₁
/-- x and y as a value, x a bool -/
theorem WpE.and2 {x z : Expr} {pos : Pos} (h : WpE prog w hb sc k x ρ μ (fun d μ₁ => ∃ b, d = .bool b ∧ if b then WpE prog w hb sc k z ρ μ₁ Φ else Φ (.bool false) μ₁)) : WpE prog w hb sc k (.BoolOp .And [x, z] pos) ρ μ Φ := by
  intro env A s E c e y
  refine ⟨fun Q hQ => ?_⟩
  refine wpAny_And2 ((h env A s E c e y).run _ fun v d μ₁ s₁ h₁ r₁ y₁ f₁ => ?_)
  obtain ⟨b, rfl, hΦ⟩ := h₁
  cases r₁
  refine wpAny_truthy_bool ?_
  cases b
  · exact hQ _ _ _ _ hΦ (.bool false) y₁ f₁
  · exact (hΦ env A s₁ E c (e.step f₁) y₁).run Q fun v d μ' s' a1 a2 a3 a4 => hQ v d μ' s' a1 a2 a3 (f₁.trans a4)
theorem WpE.or2 {x z : Expr} {pos : Pos} (h : WpE prog w hb sc k x ρ μ (fun d μ₁ => ∃ b, d = .bool b ∧ if b then Φ (.bool true) μ₁ else WpE prog w hb sc k z ρ μ₁ Φ)) : WpE prog w hb sc k (.BoolOp .Or [x, z] pos) ρ μ Φ := by
  intro env A s E c e y
  refine ⟨fun Q hQ => ?_⟩
  refine wpAny_Or2 ((h env A s E c e y).run _ fun v d μ₁ s₁ h₁ r₁ y₁ f₁ => ?_)
  obtain ⟨b, rfl, hΦ⟩ := h₁
  cases r₁
  refine wpAny_truthy_bool ?_
  cases b
  · exact (hΦ env A s₁ E c (e.step f₁) y₁).run Q fun v d μ' s' a1 a2 a3 a4 => hQ v d μ' s' a1 a2 a3 (f₁.trans a4)
  · exact hQ _ _ _ _ hΦ (.bool true) y₁ f₁

theorem WpA.nil {pos : Pos} {ΦL : List Dat → Mem → Prop} (h : ΦL [] μ) : WpA prog w hb sc k [] pos ρ μ ΦL := fun _ _ _ _ _ _ y => ⟨fun _ hQ => Calls.spliced_nil (hQ _ _ _ _ h .nil y (Fw.refl _ _))⟩
theorem WpA.cons {x : Expr} {es : List Expr} {pos : Pos} {ΦL : List Dat → Mem → Prop} (h : WpE prog w hb sc k x ρ μ (fun d μ₁ => WpA prog w hb sc k es pos ρ μ₁ (fun ds μ₂ => ΦL (d :: ds) μ₂)))
    (hs : ∀ env, starEach (x :: es) env = (false, eval x env) :: starEach es env := by intro _; rfl) : WpA prog w hb sc k (x :: es) pos ρ μ ΦL := by
  intro env A s E c e y
  refine ⟨fun Q hQ => ?_⟩
  rw [hs]
  refine Calls.spliced_cons ((h env A s E c e y).run _ fun v d μ₁ s₁ h₁ r₁ y₁ f₁ => ?_)
  exact (h₁ env A s₁ E c (e.step f₁) y₁).run _ fun vs ds μ' s' a1 a2 a3 a4 => hQ _ _ μ' s' a1 (.cons (r₁.step a4) a2) a3 (f₁.trans a4)

theorem fresh_size {s : Shared} : s.heap.get? s.heap.objs.size = none := by
  cases q : s.heap.get? s.heap.objs.size with
  | none => rfl
  | some o => exact absurd (Heap.lt_size q) (Nat.lt_irrefl _)
theorem not_dom {hb : Heap} {μ : Mem} {s : Shared} (y : Ok hb μ s) : s.heap.objs.size ∉ dom μ := by
  intro h
  have key : ∀ (μ' : Mem), (∀ p ∈ μ', p ∈ μ) → s.heap.objs.size ∈ dom μ' → False := by
    intro μ'
    induction μ' with
    | nil => intro _ h; cases h
    | cons p r ih =>
      intro hs hm
      obtain ⟨a, o⟩ := p
      have hp := y.mem (a, o) (hs _ (.head _))
      rcases List.mem_cons.mp hm with e | hm
      · cases o with
        | acc dx n ds => obtain ⟨vs, kk, e1, _⟩ := hp; rw [← e] at e1; exact absurd (Heap.lt_size e1) (Nat.lt_irrefl _)
        | lst ds => obtain ⟨vs, ⟨n, e1⟩, _⟩ := hp; rw [← e] at e1; exact absurd (Heap.lt_size e1) (Nat.lt_irrefl _)
        | tab c ps => obtain ⟨more, _, ⟨_, e1⟩⟩ := hp; rw [← e] at e1; exact absurd (Heap.lt_size e1) (Nat.lt_irrefl _)
        | pin p => obtain ⟨o, e1, _⟩ := hp; rw [← e] at e1; exact absurd (Heap.lt_size e1) (Nat.lt_irrefl _)
        | itr l ds => obtain ⟨o, e1, _⟩ := hp; rw [← e] at e1; exact absurd (Heap.lt_size e1) (Nat.lt_irrefl _)
      · rcases List.mem_append.mp hm with hm | hm
        · cases o with
          | acc dx n ds =>
            obtain ⟨vs, kk, _, _, m, ⟨o, es, ee, e2, _⟩, _⟩ := hp
            have := List.mem_singleton.mp hm
            rw [← this] at e2
            exact absurd (Heap.lt_size e2) (Nat.lt_irrefl _)
          | lst ds => cases hm
          | tab c ps => cases hm
          | pin o => cases hm
          | itr l ds => cases hm
        · exact ih (fun p hp => hs p (.tail _ hp)) hm
  exact key μ (fun _ h => h) h

/-- one new object -/
theorem push_keeps {h : Heap} (o : Obj) : ∀ b o', h.get? b = some o' → (h.push o).get? b = some o' := fun _ _ e => Heap.get?_push_of_some o e

theorem WpE.list {es : List Expr} {pos : Pos} (h : WpA prog w hb sc k es pos ρ μ (fun ds μ₁ => ds.length ≤ sizeLine ∧ Φ (.list ds) μ₁)) : WpE prog w hb sc k (.List es pos) ρ μ Φ := by
  intro env A s E c e y
  refine ⟨fun Q hQ => ?_⟩
  refine wpAny_List_spliced ((h env A s E c e y).run _ fun vs ds μ₁ s₁ h₁ r₁ y₁ f₁ => ⟨by rw [r₁.length]; exact h₁.1, ?_⟩)
  have g : Fw (dom μ₁) (dom μ₁) s₁ { s₁ with heap := s₁.heap.push { cls := .type "list", data := .seq vs.toArray } } := Fw.keeps (tk := s₁.toks) (push_keeps _)
  exact hQ _ _ μ₁ _ h₁.2 (.list (not_dom y₁) ⟨_, Heap.get?_push_size _ rfl, rfl, _, rfl⟩ (r₁.step g)) (y₁.keeps (tk := s₁.toks) (push_keeps _)) (f₁.trans g)
theorem WpE.tuple {es : List Expr} {n : Nat} {pos : Pos} (h : WpA prog w hb sc k es pos ρ μ (fun ds μ₁ => ds.length ≤ sizeLine ∧ Φ (.tuple ds) μ₁)) : WpE prog w hb sc k (.Tuple es n pos) ρ μ Φ := by
  intro env A s E c e y
  refine ⟨fun Q hQ => ?_⟩
  refine wpAny_Tuple_spliced ((h env A s E c e y).run _ fun vs ds μ₁ s₁ h₁ r₁ y₁ f₁ => ⟨by rw [r₁.length]; exact h₁.1, ?_⟩)
  have g : Fw (dom μ₁) (dom μ₁) s₁ { s₁ with heap := s₁.heap.push { cls := .type "tuple", data := .seq vs.toArray } } := Fw.keeps (tk := s₁.toks) (push_keeps _)
  exact hQ _ _ μ₁ _ h₁.2 (.tuple (not_dom y₁) ⟨_, Heap.get?_push_size _ rfl, rfl, _, rfl⟩ (r₁.step g)) (y₁.keeps (tk := s₁.toks) (push_keeps _)) (f₁.trans g)
end
end Mine

end

noncomputable section
namespace Mine

mutual
/-- strs within Unicode, no object but lists and tuples: == is decided by the data -/
noncomputable def Dat.fine : Dat → Bool
  | .str x => PyData.strOk x
  | .tuple ds => Dat.fines ds
  | .list ds => Dat.fines ds
  | .obj _ => false
  | _ => true
noncomputable def Dat.fines : List Dat → Bool
  | [] => true
  | d :: r => d.fine && Dat.fines r
end
mutual
theorem Dat.fine_noObj : ∀ {d : Dat}, d.fine = true → d.noObj = true
  | .none, _ => rfl
  | .bool _, _ => rfl
  | .int _, _ => rfl
  | .str _, _ => rfl
  | .tuple ds, h => Dat.fines_noObjs (ds := ds) h
  | .list ds, h => Dat.fines_noObjs (ds := ds) h
  | .obj _, h => by cases h
theorem Dat.fines_noObjs : ∀ {ds : List Dat}, Dat.fines ds = true → Dat.noObjs ds = true
  | [], _ => rfl
  | d :: r, h => by
    have h' : (d.fine && Dat.fines r) = true := h
    obtain ⟨h1, h2⟩ := Bool.and_eq_true_iff.mp h'
    show (d.noObj && Dat.noObjs r) = true
    rw [Dat.fine_noObj h1, Dat.fines_noObjs h2]; rfl
end
mutual
theorem Dat.fine_lay : ∀ {d : Dat}, d.fine = true → d.py.canLay0 = true
  | .none, _ => by simp only [Dat.py, PyData.canLay0]
  | .bool _, _ => by simp only [Dat.py, PyData.canLay0]
  | .int _, _ => by simp only [Dat.py, PyData.canLay0]
  | .str x, h => by simpa only [Dat.py, PyData.canLay0, Dat.fine] using h
  | .tuple ds, h => by
    simp only [Dat.py, PyData.canLay0]
    exact Dat.fines_lay (ds := ds) (by simpa only [Dat.fine] using h)
  | .list ds, h => by
    simp only [Dat.py, PyData.canLay0]
    exact Dat.fines_lay (ds := ds) (by simpa only [Dat.fine] using h)
  | .obj _, h => by simp [Dat.fine] at h
theorem Dat.fines_lay : ∀ {ds : List Dat}, Dat.fines ds = true → PyData.canLayAll0 (Dat.pys ds) = true
  | [], _ => by simp only [Dat.pys, PyData.canLayAll0]
  | d :: r, h => by
    have h' : (d.fine && Dat.fines r) = true := by simpa only [Dat.fines] using h
    obtain ⟨h1, h2⟩ := Bool.and_eq_true_iff.mp h'
    simp only [Dat.pys, PyData.canLayAll0]
    rw [Dat.fine_lay h1, Dat.fines_lay h2]; rfl
end
theorem pys_map : ∀ ds : List Dat, Dat.pys ds = ds.map Dat.py
  | [] => rfl
  | d :: r => by simp only [Dat.pys, List.map_cons, pys_map r]

section
variable {prog : Program} {w : World} {hb : Heap}
theorem Bop.of {f : Value → Value → Sem Value} {d₁ d₂ d : Dat} (h : ∀ (k : Nat) (A : Around) (E : Value → Shared → Prop) (X : List Addr) (s : Shared) (v₁ v₂ : Value) (Q : Value → Shared → Prop), Calm k A → Rd X s.heap v₁ d₁ → Rd X s.heap v₂ d₂ →
      (∀ v tk, Rd X s.heap v d → Q v { s with toks := tk }) → wpAny (model prog w) A (f v₁ v₂) Q E s) : Bop prog w hb f d₁ d₂ d := by
  intro k A E μ s v₁ v₂ c y r₁ r₂
  refine ⟨fun Q hQ => ?_⟩
  exact h k A E (dom μ) s v₁ v₂ Q c r₁ r₂ fun v tk r => hQ v d μ _ ⟨rfl, rfl⟩ r y.toks Fw.toks

theorem Bop.addInt {a b : Int} : Bop prog w hb (binaryOp .Add) (.int a) (.int b) (.int (a + b)) := .of fun _ _ _ _ _ _ _ _ _ r₁ r₂ h => by
  cases r₁; cases r₂; exact add_int (h _ _ (.int _ _))
theorem Bop.subInt {a b : Int} : Bop prog w hb (binaryOp .Sub) (.int a) (.int b) (.int (a - b)) := .of fun _ _ _ _ _ _ _ _ _ r₁ r₂ h => by
  cases r₁; cases r₂; exact sub_int' (h _ _ (.int _ _))
theorem Bop.modInt {a b : Int} (hz : b ≠ 0) : Bop prog w hb (binaryOp .Mod) (.int a) (.int b) (.int (a.fmod b)) := .of fun _ _ _ _ _ _ _ _ _ r₁ r₂ h => by
  cases r₁; cases r₂; exact mod_int' hz (h _ _ (.int _ _))
theorem Bop.divInt {a b : Int} (hz : b ≠ 0) (hs : b.natAbs < 1073741824) : Bop prog w hb (binaryOp .FloorDiv) (.int a) (.int b) (.int (a.fdiv b)) := .of fun _ _ _ _ _ _ _ _ _ r₁ r₂ h => by
  cases r₁; cases r₂; exact floordiv_int hz (h _ _ (.int _ _)) (.inl (PyProof.noPylong_small hs))
theorem Bop.powInt {a b : Int} (hn : 0 ≤ b) (hn2 : b ≤ 1000000) (ha : a.natAbs < 2 ^ 64) : Bop prog w hb (binaryOp .Pow) (.int a) (.int b) (.int (a ^ b.toNat)) := .of fun _ _ _ _ _ _ _ _ _ r₁ r₂ h => by
  cases r₁; cases r₂; exact pow_int_small hn hn2 ha (h _ _ (.int _ _))
theorem Bop.addStr {x z : Str} (hs : x.length + z.length ≤ sizeLine) : Bop prog w hb (binaryOp .Add) (.str x) (.str z) (.str (x ++ z)) := .of fun _ _ _ _ _ _ _ _ _ r₁ r₂ h => by
  cases r₁; cases r₂; exact add_str (fun t tk => h _ tk (.str _ _)) hs
theorem Bop.eqInt {a b : Int} : Bop prog w hb (compareOp .Eq) (.int a) (.int b) (.bool (a == b)) := .of fun _ _ _ _ s _ _ _ _ r₁ r₂ h => by
  cases r₁; cases r₂; exact eq_int (h _ s.toks (.bool _))
theorem Bop.ltInt {a b : Int} : Bop prog w hb (compareOp .Lt) (.int a) (.int b) (.bool (decide (a < b))) := .of fun _ _ _ _ s _ _ _ _ r₁ r₂ h => by
  cases r₁; cases r₂; exact lt_int (h _ s.toks (.bool _))
theorem Bop.gtInt {a b : Int} : Bop prog w hb (compareOp .Gt) (.int a) (.int b) (.bool (decide (b < a))) := .of fun _ _ _ _ s _ _ _ _ r₁ r₂ h => by
  cases r₁; cases r₂; exact gt_int (h _ s.toks (.bool _))
theorem Bop.eqStr {a b : Str} : Bop prog w hb (compareOp .Eq) (.str a) (.str b) (.bool (a == b)) := .of fun _ _ _ _ s _ _ _ _ r₁ r₂ h => by
  cases r₁; cases r₂; exact eq_str (h _ s.toks (.bool _))
theorem Bop.neStr {a b : Str} : Bop prog w hb (compareOp .NotEq) (.str a) (.str b) (.bool (a != b)) := .of fun _ _ _ _ s _ _ _ _ r₁ r₂ h => by
  cases r₁; cases r₂; exact ne_str (h _ s.toks (.bool _))
noncomputable def Dat.shp (d : Dat) : Prop := d.fine = true ∧ d.py.depth ≤ 64
theorem Dat.shp.shaped {d : Dat} (h : d.shp) : PySem.SeqAt.shaped d.py = true := by
  unfold PySem.SeqAt.shaped
  rw [Dat.fine_lay h.1]; exact decide_eq_true h.2
theorem Bop.eqD {a b : Dat} (ha : a.shp) (hb' : b.shp) : Bop prog w hb (compareOp .Eq) a b (.bool (PyData.eqv a.py b.py)) := .of fun _ _ _ _ s _ _ _ c r₁ r₂ h => by
  obtain ⟨as, q₁⟩ := r₁.reads (Dat.fine_noObj ha.1)
  obtain ⟨bs, q₂⟩ := r₂.reads (Dat.fine_noObj hb'.1)
  exact SeqAt.compareEq_shaped q₁ q₂ ha.shaped hb'.shaped c.u64 (h _ s.toks (.bool _))
theorem Bop.neD {a b : Dat} (ha : a.shp) (hb' : b.shp) : Bop prog w hb (compareOp .NotEq) a b (.bool (!PyData.eqv a.py b.py)) := .of fun _ _ _ _ s _ _ _ c r₁ r₂ h => by
  obtain ⟨as, q₁⟩ := r₁.reads (Dat.fine_noObj ha.1)
  obtain ⟨bs, q₂⟩ := r₂.reads (Dat.fine_noObj hb'.1)
  exact SeqAt.compareNe_shaped q₁ q₂ ha.shaped hb'.shaped c.u64 (h _ s.toks (.bool _))
theorem Bop.inList {x : Dat} {ds : List Dat} (hx : x.shp) (hd : Dat.fines ds = true) : Bop prog w hb (compareOp .In) x (.list ds) (.bool (ds.any fun y => PyData.eqv y.py x.py)) := .of fun _ _ _ _ s _ _ _ c r₁ r₂ h => by
  obtain ⟨as, q₁⟩ := r₁.reads (Dat.fine_noObj hx.1)
  obtain ⟨bs, q₂⟩ := r₂.reads (Dat.fine_noObj (d := .list ds) (by simpa only [Dat.fine] using hd))
  simp only [Dat.py] at q₂
  refine SeqAt.in_list_reads q₂ q₁ (Dat.fines_lay hd) (Dat.fine_lay hx.1) (by have := c.u65; have := hx.2; omega) ?_
  rw [pys_map, List.any_map]
  exact h _ s.toks (.bool _)
theorem Bop.notInList {x : Dat} {ds : List Dat} (hx : x.shp) (hd : Dat.fines ds = true) : Bop prog w hb (compareOp .NotIn) x (.list ds) (.bool (!ds.any fun y => PyData.eqv y.py x.py)) := .of fun _ _ _ _ s _ _ _ c r₁ r₂ h => by
  obtain ⟨as, q₁⟩ := r₁.reads (Dat.fine_noObj hx.1)
  obtain ⟨bs, q₂⟩ := r₂.reads (Dat.fine_noObj (d := .list ds) (by simpa only [Dat.fine] using hd))
  simp only [Dat.py] at q₂
  refine SeqAt.notIn_list_reads q₂ q₁ (Dat.fines_lay hd) (Dat.fine_lay hx.1) (by have := c.u65; have := hx.2; omega) ?_
  rw [pys_map, List.any_map]
  exact h _ s.toks (.bool _)

theorem Bop.addList {xs zs : List Dat} (hs : xs.length + zs.length ≤ sizeLine) : Bop prog w hb (binaryOp .Add) (.list xs) (.list zs) (.list (xs ++ zs)) := by
  intro k A E μ s v₁ v₂ c y r₁ r₂
  refine ⟨fun Q hQ => ?_⟩
  cases r₁ with
  | list h1 hl q1 =>
  cases r₂ with
  | list h2 hl2 q2 =>
  rename_i l vs b ws
  obtain ⟨⟨cls, dd, data, sl⟩, ho, hc, n, hd⟩ := id hl
  obtain ⟨⟨cls2, dd2, data2, sl2⟩, ho2, hc2, n2, hd2⟩ := id hl2
  simp only at hc hd hc2 hd2
  subst hc hd hc2 hd2
  have e : vs.toArray ++ ws.toArray = (vs ++ ws).toArray := by simp
  refine concat_meets ⟨_, ho, rfl⟩ ⟨_, ho2, rfl⟩ noFill_list_add seq_list_add PySem.F.slot_list_add PySem.F.entry_list_add (PySem.F.args_list_add_2 _ _) (list_addW l b vs.toArray ws.toArray n n2 dd dd2 sl sl2 (by simpa [q1.length, q2.length] using hs)) ⟨ho, ho2, ?_⟩
  rw [e]
  have g : Fw (dom μ) (dom μ) s { s with heap := s.heap.push { cls := .type "list", data := .seq (vs ++ ws).toArray } } := Fw.keeps (tk := s.toks) (push_keeps _)
  exact hQ _ _ μ _ ⟨rfl, rfl⟩ (.list (not_dom y) ⟨_, Heap.get?_push_size _ rfl, rfl, _, rfl⟩ ((q1.append q2).step g)) (y.keeps (tk := s.toks) (push_keeps _)) g

theorem Tru.bool {b : Bool} : Tru prog w hb (.bool b) b := fun _ _ _ _ s _ _ y r => ⟨fun _ hQ => by
  cases r; exact wpAny_truthy_bool (hQ _ _ s ⟨rfl, rfl⟩ y (Fw.refl _ _))⟩
theorem Tru.list {ds : List Dat} (hs : ds.length < 2 ^ 62) : Tru prog w hb (.list ds) (!ds.isEmpty) := fun _ _ _ _ s _ _ y r => ⟨fun _ hQ => by
  cases r with
  | list h1 hl q =>
    rename_i l vs
    have hz := q.length
    have e : (!vs.toArray.isEmpty) = !ds.isEmpty := by
      cases vs with
      | nil => cases ds with
        | nil => rfl
        | cons => cases hz
      | cons => cases ds with
        | nil => cases hz
        | cons => rfl
    exact wpAny_truthy_list hl (by simp; omega) (by rw [e]; exact hQ _ _ _ ⟨rfl, rfl⟩ y.toks Fw.toks)⟩

theorem Bop.isNone_int {a : Int} : Bop prog w hb (compareOp .Is) (.int a) .none (.bool false) := .of fun _ _ _ _ s _ _ _ _ r₁ r₂ h => by
  cases r₁; cases r₂; exact wpAny_is_other rfl (by intro e; cases e) (h _ s.toks (.bool _))
theorem Bop.isNone_none : Bop prog w hb (compareOp .Is) .none .none (.bool true) := .of fun _ _ _ _ s _ _ _ _ r₁ r₂ h => by
  cases r₁; cases r₂; exact wpAny_is_self rfl (h _ s.toks (.bool _))
theorem Bop.isNone_tuple {ds : List Dat} : Bop prog w hb (compareOp .Is) (.tuple ds) .none (.bool false) := .of fun _ _ _ _ s _ _ _ _ r₁ r₂ h => by
  cases r₁; cases r₂; exact wpAny_is_other rfl (by intro e; cases e) (h _ s.toks (.bool _))
theorem Bop.isNone_list {ds : List Dat} : Bop prog w hb (compareOp .Is) (.list ds) .none (.bool false) := .of fun _ _ _ _ s _ _ _ _ r₁ r₂ h => by
  cases r₁; cases r₂; exact wpAny_is_other rfl (by intro e; cases e) (h _ s.toks (.bool _))
theorem Bop.isObj_str {x : Str} {a : Addr} : Bop prog w hb (compareOp .Is) (.str x) (.obj a) (.bool false) := .of fun _ _ _ _ s _ _ _ _ r₁ r₂ h => by
  cases r₁; cases r₂; exact wpAny_is_other rfl (by intro e; cases e) (h _ s.toks (.bool _))
end

section
variable {prog : Program} {w : World} {hb : Heap} {sc : Sh} {k : Nat} {ρ : List (Str × Dat)} {μ : Mem} {Φ : Dat → Mem → Prop}
noncomputable def plainIx (slice : Expr) : Prop := ∀ o i, subscripted slice false o i = operate [o, i] (getItem o i)
theorem WpE.item {value slice : Expr} {pos : Pos} (h : WpE prog w hb sc k value ρ μ (fun d₁ μ₁ => WpE prog w hb sc k slice ρ μ₁ (fun d₂ μ₂ => ∃ ds i d, (d₁ = .list ds ∨ d₁ = .tuple ds) ∧ d₂ = .int i ∧ 0 ≤ i ∧ i < 2 ^ 62 ∧ ds[i.toNat]? = some d ∧ Φ d μ₂)))
    (hs : plainIx slice := by intro _ _; rfl) : WpE prog w hb sc k (.Subscript value slice pos) ρ μ Φ := by
  intro env A s E c e y
  refine ⟨fun Q hQ => ?_⟩
  refine Subscript_ ((h env A s E c e y).run _ fun v₁ d₁ μ₁ s₁ h₁ r₁ y₁ f₁ => (h₁ env A s₁ E c (e.step f₁) y₁).run _ fun v₂ d₂ μ₂ s₂ h₂ r₂ y₂ f₂ => ?_)
  obtain ⟨ds, i, d, hd, rfl, h0, hhi, hi, hΦ⟩ := h₂
  have r₁' := r₁.step f₂
  cases r₂ with
  | int _ t =>
  rcases hd with rfl | rfl
  · cases r₁' with
    | list h1 hl q =>
      obtain ⟨v, hv, rv⟩ := q.get _ hi
      exact tail_any hl.typeIs slot_list_getitem.lookup (wpAny_getItem_list hl h0 (by omega) (by simpa using hv) (hQ v d μ₂ s₂ hΦ rv y₂ (f₁.trans f₂))) (hs _ _)
  · cases r₁' with
    | tuple h1 hl q =>
      obtain ⟨v, hv, rv⟩ := q.get _ hi
      rename_i a vs
      have hlt : i.toNat < vs.length := (List.getElem?_eq_some_iff.mp hv).1
      have hj : seqIndex? i vs.length = some i.toNat := by
        have h3 : ¬ i < 0 := by omega
        have h4 : i < (vs.length : Int) := by omega
        simp [seqIndex?, h3, h4, h0]
      exact item_tupleT hl (by omega) (by omega) hj hv (hQ v d μ₂ s₂ hΦ rv y₂ (f₁.trans f₂)) (hs _ _)

theorem pick_upto {items : Array Value} {i : Int} (h : 0 ≤ i) : slicePick items none (some i) none = (items.toList.take i.toNat).toArray := by
  have := slicePick_upto' items i.toNat
  rwa [Int.toNat_of_nonneg h] at this
theorem pick_from {items : Array Value} {i : Int} (h : 0 ≤ i) : slicePick items (some i) none none = (items.toList.drop i.toNat).toArray := by
  have := slicePick_from' items i.toNat
  rwa [Int.toNat_of_nonneg h] at this

theorem WpE.upto {value up : Expr} {p pos : Pos} (h : WpE prog w hb sc k value ρ μ (fun d₁ μ₁ => WpE prog w hb sc k up ρ μ₁ (fun d₂ μ₂ => ∃ ds i, d₁ = .list ds ∧ d₂ = .int i ∧ 0 ≤ i ∧ ds.length ≤ sizeLine ∧ Φ (.list (ds.take i.toNat)) μ₂)))
    (ht : ∀ o r, letTemporaryGo value o r = pure () := by intro _ _; rfl) : WpE prog w hb sc k (.Subscript value (.Slice Option.none (some up) Option.none p) pos) ρ μ Φ := by
  intro env A s E c e y
  refine ⟨fun Q hQ => ?_⟩
  refine wpAny_Subscript_list_slice ((h env A s E c e y).run _ fun v₁ d₁ μ₁ s₁ h₁ r₁ y₁ f₁ => wpAny_evalPart_none (wpAny_evalPart_some ((h₁ env A s₁ E c (e.step f₁) y₁).run _ fun v₂ d₂ μ₂ s₂ h₂ r₂ y₂ f₂ => ?_))) ht
  obtain ⟨ds, i, rfl, rfl, h0, hsz, hΦ⟩ := h₂
  cases r₁.step f₂ with
  | list h1 hl q =>
  cases r₂ with
  | int _ t =>
  rename_i l vs
  refine ⟨l, vs.toArray, _, _, rfl, hl, by simpa [q.length] using hsz, .none, .int i t, ?_⟩
  rw [pick_upto h0]
  have kk : ∀ b o, s₂.heap.get? b = some o → ((s₂.heap.push { cls := .type "slice", data := .fields #[.none, .int i t, .none] }).push { cls := .type "list", data := .seq ((vs.toArray.toList).take i.toNat).toArray }).get? b = some o := fun b o z => Heap.get?_push_of_some _ (Heap.get?_push_of_some _ z)
  have g : Fw (dom μ₂) (dom μ₂) s₂ { s₂ with heap := (s₂.heap.push { cls := .type "slice", data := .fields #[.none, .int i t, .none] }).push { cls := .type "list", data := .seq ((vs.toArray.toList).take i.toNat).toArray } } := Fw.keeps (tk := s₂.toks) kk
  have y3 : Ok hb μ₂ { s₂ with heap := s₂.heap.push { cls := .type "slice", data := .fields #[.none, .int i t, .none] } } := y₂.keeps (tk := s₂.toks) (push_keeps _)
  have nd := not_dom y3
  rw [show ({ s₂ with heap := s₂.heap.push { cls := .type "slice", data := .fields #[.none, .int i t, .none] } } : Shared).heap.objs.size = s₂.heap.objs.size + 1 from Heap.size_push ..] at nd
  refine hQ _ _ μ₂ _ hΦ (.list nd ⟨_, by rw [← Heap.size_push s₂.heap]; exact Heap.get?_push_size _ rfl, rfl, _, rfl⟩ ?_) (y₂.keeps (tk := s₂.toks) kk) ((f₁.trans f₂).trans g)
  simpa using (q.take i.toNat).step g
theorem WpE.from {value lo : Expr} {p pos : Pos} (h : WpE prog w hb sc k value ρ μ (fun d₁ μ₁ => WpE prog w hb sc k lo ρ μ₁ (fun d₂ μ₂ => ∃ ds i, d₁ = .list ds ∧ d₂ = .int i ∧ 0 ≤ i ∧ ds.length ≤ sizeLine ∧ Φ (.list (ds.drop i.toNat)) μ₂)))
    (ht : ∀ o r, letTemporaryGo value o r = pure () := by intro _ _; rfl) : WpE prog w hb sc k (.Subscript value (.Slice (some lo) Option.none Option.none p) pos) ρ μ Φ := by
  intro env A s E c e y
  refine ⟨fun Q hQ => ?_⟩
  refine wpAny_Subscript_list_slice ((h env A s E c e y).run _ fun v₁ d₁ μ₁ s₁ h₁ r₁ y₁ f₁ => wpAny_evalPart_some ((h₁ env A s₁ E c (e.step f₁) y₁).run _ fun v₂ d₂ μ₂ s₂ h₂ r₂ y₂ f₂ => wpAny_evalPart_none ?_)) ht
  obtain ⟨ds, i, rfl, rfl, h0, hsz, hΦ⟩ := h₂
  cases r₁.step f₂ with
  | list h1 hl q =>
  cases r₂ with
  | int _ t =>
  rename_i l vs
  refine ⟨l, vs.toArray, _, _, rfl, hl, by simpa [q.length] using hsz, .int i t, .none, ?_⟩
  rw [pick_from h0]
  have kk : ∀ b o, s₂.heap.get? b = some o → ((s₂.heap.push { cls := .type "slice", data := .fields #[.int i t, .none, .none] }).push { cls := .type "list", data := .seq ((vs.toArray.toList).drop i.toNat).toArray }).get? b = some o := fun b o z => Heap.get?_push_of_some _ (Heap.get?_push_of_some _ z)
  have g : Fw (dom μ₂) (dom μ₂) s₂ { s₂ with heap := (s₂.heap.push { cls := .type "slice", data := .fields #[.int i t, .none, .none] }).push { cls := .type "list", data := .seq ((vs.toArray.toList).drop i.toNat).toArray } } := Fw.keeps (tk := s₂.toks) kk
  have y3 : Ok hb μ₂ { s₂ with heap := s₂.heap.push { cls := .type "slice", data := .fields #[.int i t, .none, .none] } } := y₂.keeps (tk := s₂.toks) (push_keeps _)
  have nd := not_dom y3
  rw [show ({ s₂ with heap := s₂.heap.push { cls := .type "slice", data := .fields #[.int i t, .none, .none] } } : Shared).heap.objs.size = s₂.heap.objs.size + 1 from Heap.size_push ..] at nd
  refine hQ _ _ μ₂ _ hΦ (.list nd ⟨_, by rw [← Heap.size_push s₂.heap]; exact Heap.get?_push_size _ rfl, rfl, _, rfl⟩ ?_) (y₂.keeps (tk := s₂.toks) kk) ((f₁.trans f₂).trans g)
  simpa using (q.drop i.toNat).step g
end
end Mine

end

noncomputable section
namespace Mine

inductive AFlow where
  | next | brk | cont
  | ret (d : Dat)
noncomputable def FlR (X : List Addr) (h : Heap) : Flow → AFlow → Prop
  | .next, .next => True
  | .brk, .brk => True
  | .cont, .cont => True
  | .ret v, .ret d => Rd X h v d
  | _, _ => False
noncomputable abbrev Ren := List (Str × Dat)

theorem Fw.lift {X X' : List Addr} {s s' : Shared} (L : List Addr) (f : Fw X X' s s') : Fw (L ++ X) (L ++ X') s s' :=
  ⟨fun b o hb e => f.keep b o (fun h => hb (List.mem_append_right _ h)) e, fun a ha => (List.mem_append.mp ha).elim (fun h => .inl (List.mem_append_left _ h)) fun h => (f.dom a h).imp (List.mem_append_right _) id, f.os, f.gens⟩

section
variable (prog : Program) (w : World) (hb : Heap)
/-- a statement tree, from this state, in this frame -/
structure WF (sc : Sh) (env : Env) (A : Around) (E : Value → Shared → Prop) (t : Sem Flow) (μ : Mem) (Ψ : AFlow → Ren → Mem → Prop) (s : Shared) : Prop where
  run : ∀ Q : Flow → Shared → Prop, (∀ f af ρ' μ' s', Ψ af ρ' μ' → FlR (dom μ') s'.heap f af → EnvOk hb sc env ρ' (dom μ') s'.heap → Ok hb μ' s' → Fw (own sc env ++ dom μ) (own sc env ++ dom μ') s s' → Q f s') → wpAny (model prog w) A t Q E s
noncomputable def WpS (sc : Sh) (k : Nat) (ss : List Stmt) (ρ : Ren) (μ : Mem) (Ψ : AFlow → Ren → Mem → Prop) : Prop :=
  ∀ (env : Env) (A : Around) (s : Shared) (E : Value → Shared → Prop), Calm k A → EnvOk hb sc env ρ (dom μ) s.heap → Ok hb μ s → WF prog w hb sc env A E (execs ss env) μ Ψ s
noncomputable def Wp1 (sc : Sh) (k : Nat) (st : Stmt) (ρ : Ren) (μ : Mem) (Ψ : AFlow → Ren → Mem → Prop) : Prop :=
  ∀ (env : Env) (A : Around) (s : Shared) (E : Value → Shared → Prop), Calm k A → EnvOk hb sc env ρ (dom μ) s.heap → Ok hb μ s → WF prog w hb sc env A E (exec st env) μ Ψ s
/-- a call of a value with these data -/
noncomputable def WpC (k : Nat) (fa : Addr) (ds : List Dat) (μ : Mem) (Φ : Dat → Mem → Prop) : Prop :=
  ∀ (A : Around) (s : Shared) (vs : List Value) (E : Value → Shared → Prop), Calm k A → Ok hb μ s → RdA (dom μ) s.heap vs ds → WV prog w hb A E (call (.ref fa) vs) μ Φ s
end

section
variable {prog : Program} {w : World} {hb : Heap} {sc : Sh} {k : Nat} {ρ : Ren} {μ : Mem} {Ψ : AFlow → Ren → Mem → Prop} {Φ : Dat → Mem → Prop}

theorem WpC.mono {fa : Addr} {ds : List Dat} {Φ' : Dat → Mem → Prop} (h : WpC prog w hb k fa ds μ Φ) (kk : ∀ d μ', Φ d μ' → Φ' d μ') : WpC prog w hb k fa ds μ Φ' :=
  fun A s vs E c y r => (h A s vs E c y r).mono kk

theorem WpS.nil (h : Ψ .next ρ μ) : WpS prog w hb sc k [] ρ μ Ψ := fun _ _ _ _ _ e y => ⟨fun _ hQ => wpAny_execs_nil (hQ .next .next ρ μ _ h trivial e y (Fw.refl _ _))⟩
noncomputable def seqPost (prog : Program) (w : World) (hb : Heap) (sc : Sh) (k : Nat) (rest : List Stmt) (Ψ : AFlow → Ren → Mem → Prop) : AFlow → Ren → Mem → Prop
  | .next, ρ', μ' => WpS prog w hb sc k rest ρ' μ' Ψ
  | af, ρ', μ' => Ψ af ρ' μ'
theorem WpS.cons {st : Stmt} {rest : List Stmt} (h : Wp1 prog w hb sc k st ρ μ (seqPost prog w hb sc k rest Ψ)) : WpS prog w hb sc k (st :: rest) ρ μ Ψ := by
  intro env A s E c e y
  refine ⟨fun Q hQ => ?_⟩
  refine wpAny_execs_cons ((h env A s E c e y).run _ fun f af ρ' μ' s' h' fl e' y' f' => ?_)
  cases af with
  | next =>
    cases f with
    | next => exact (h' env A s' E c e' y').run Q fun f2 af2 ρ2 μ2 s2 b1 b2 b3 b4 b5 => hQ f2 af2 ρ2 μ2 s2 b1 b2 b3 b4 (f'.trans b5)
    | brk => cases fl
    | cont => cases fl
    | ret v => cases fl
  | brk =>
    cases f with
    | brk => exact hQ _ _ _ _ _ h' fl e' y' f'
    | next => cases fl
    | cont => cases fl
    | ret v => cases fl
  | cont =>
    cases f with
    | cont => exact hQ _ _ _ _ _ h' fl e' y' f'
    | next => cases fl
    | brk => cases fl
    | ret v => cases fl
  | ret d =>
    cases f with
    | ret v => exact hQ _ _ _ _ _ h' fl e' y' f'
    | next => cases fl
    | brk => cases fl
    | cont => cases fl

theorem Wp1.assign {x : Str} {p pos : Pos} {value : Expr} (h : WpE prog w hb sc k value ρ μ (fun d μ₁ => Ψ .next ((x, d) :: ρ) μ₁)) (hx : sc.names.lookup x = some .local ∨ sc.names.lookup x = some .cell := by first | exact .inl rfl | exact .inr rfl)
    (hs : ∀ env : Env, env.scope.names = sc.names → swapsWith value (some (.Name x p)) pos.line env = pure false := by intro _ _; rfl) : Wp1 prog w hb sc k (.Assign [.Name x p] value pos) ρ μ Ψ := by
  intro env A s E c e y
  refine ⟨fun Q hQ => ?_⟩
  refine wpAny_Assign_Name ((h env A s E c e y).run _ fun v d μ₁ s₁ h₁ r₁ y₁ f₁ => ?_) (hs env e.scope)
  exact store (e.step f₁) y₁ r₁ hx fun s' e' y' f' => hQ .next .next _ μ₁ s' h₁ trivial e' y' ((f₁.lift _).trans f')
theorem Wp1.ite {t : Expr} {a b : List Stmt} {pos : Pos} (h : WpB prog w hb sc k t ρ μ (fun q μ₁ => if q then WpS prog w hb sc k a ρ μ₁ Ψ else WpS prog w hb sc k b ρ μ₁ Ψ)) : Wp1 prog w hb sc k (.If t a b pos) ρ μ Ψ := by
  intro env A s E c e y
  refine ⟨fun Q hQ => ?_⟩
  refine wpAny_If ((h env A s E c e y).run _ fun q μ₁ s₁ h₁ y₁ f₁ => ?_)
  cases q
  · exact (h₁ env A s₁ E c (e.step f₁) y₁).run Q fun f2 af2 ρ2 μ2 s2 b1 b2 b3 b4 b5 => hQ f2 af2 ρ2 μ2 s2 b1 b2 b3 b4 ((f₁.lift _).trans b5)
  · exact (h₁ env A s₁ E c (e.step f₁) y₁).run Q fun f2 af2 ρ2 μ2 s2 b1 b2 b3 b4 b5 => hQ f2 af2 ρ2 μ2 s2 b1 b2 b3 b4 ((f₁.lift _).trans b5)
theorem Wp1.ret {v : Expr} {pos : Pos} (h : WpE prog w hb sc k v ρ μ (fun d μ₁ => Ψ (.ret d) ρ μ₁)) : Wp1 prog w hb sc k (.Return (some v) pos) ρ μ Ψ := by
  intro env A s E c e y
  refine ⟨fun Q hQ => ?_⟩
  exact wpAny_Return_some ((h env A s E c e y).run _ fun v d μ₁ s₁ h₁ r₁ y₁ f₁ => hQ (.ret v) (.ret d) ρ μ₁ s₁ h₁ r₁ (e.step f₁) y₁ (f₁.lift _))
theorem Wp1.brk {pos : Pos} (h : Ψ .brk ρ μ) : Wp1 prog w hb sc k (.Break pos) ρ μ Ψ := fun _ _ _ _ _ e y => ⟨fun _ hQ => wpAny_Break (hQ .brk .brk ρ μ _ h trivial e y (Fw.refl _ _))⟩
/-- an expression for its effect alone; its value is None -/
theorem Wp1.expr {v : Expr} {pos : Pos} (h : WpE prog w hb sc k v ρ μ (fun d μ₁ => d = .none ∧ Ψ .next ρ μ₁)) (hs : ∀ env, swapsWith v none pos.line env = pure false := by intro _; rfl) : Wp1 prog w hb sc k (.Expr v pos) ρ μ Ψ := by
  intro env A s E c e y
  refine ⟨fun Q hQ => ?_⟩
  refine wpAny_Expr ((h env A s E c e y).run _ fun v d μ₁ s₁ h₁ r₁ y₁ f₁ => ?_) (by unfold interactive; rw [e.kind]; rfl) (hs env)
  obtain ⟨rfl, h₁⟩ := h₁
  cases r₁
  exact hQ .next .next ρ μ₁ s₁ h₁ trivial (e.step f₁) y₁ (f₁.lift _)

theorem WpE.call {x : Str} {np pos : Pos} {args : List Expr} (hf : WpE prog w hb sc k (.Name x np) ρ μ (fun d μ₁ => μ₁ = μ ∧ ∃ fa, d = .obj fa ∧ (∃ o fd, hb.get? fa = some o ∧ o.data = .func fd) ∧
      WpA prog w hb sc k args pos ρ μ (fun ds μ₂ => WpC prog w hb k fa ds μ₂ Φ)))
    (hst : ∀ env, ∃ y r, backTo pos (starEach args env) = (false, y) :: r := by intro _; exact ⟨_, _, rfl⟩) :
    WpE prog w hb sc k (.Call (.Name x np) args [] pos) ρ μ Φ := by
  intro env A s E c e y
  refine ⟨fun Q hQ => ?_⟩
  refine wpAny_Call_NameR ((hf env A s E c e y).run _ fun v₁ d₁ μ₁ s₁ h₁ r₁ y₁ f₁ => ?_)
  obtain ⟨rfl, fa, rfl, ⟨o, fd, ho, hd⟩, h₁⟩ := h₁
  cases r₁
  refine Calls.callWith_function (o := o) (fd := fd) ?_
  obtain ⟨yy, r, hy⟩ := hst env
  have key := h₁ env A s₁ E c (e.step f₁) y₁
  rw [hy] at key ⊢
  refine Calls.evalArgs_plain (key.run _ fun vs ds μ₂ s₂ h₂ r₂ y₂ f₂ => ⟨⟨y₂.base _ _ ho, hd⟩, ?_⟩)
  exact (h₂ A s₂ vs E c y₂ r₂).run Q fun v d μ' s' a1 a2 a3 a4 => hQ v d μ' s' a1 a2 a3 ((f₁.trans f₂).trans a4)

end
end Mine

end

noncomputable section
namespace Mine

theorem dom_there {hb : Heap} {μ : Mem} {s : Shared} (y : Ok hb μ s) {x : Addr} (h : x ∈ dom μ) : ∃ o, s.heap.get? x = some o := by
  have key : ∀ (μ' : Mem), (∀ p ∈ μ', p ∈ μ) → x ∈ dom μ' → ∃ o, s.heap.get? x = some o := by
    intro μ'
    induction μ' with
    | nil => intro _ h; cases h
    | cons p r ih =>
      intro hs hm
      obtain ⟨a, o⟩ := p
      have hp := y.mem (a, o) (hs _ (.head _))
      rcases List.mem_cons.mp hm with e | hm
      · subst e
        cases o with
        | acc dx n ds => obtain ⟨vs, kk, e1, _⟩ := hp; exact ⟨_, e1⟩
        | lst ds => obtain ⟨vs, ⟨n, e1⟩, _⟩ := hp; exact ⟨_, e1⟩
        | tab c ps => obtain ⟨more, _, ⟨_, e1⟩⟩ := hp; exact ⟨_, e1⟩
        | pin p => obtain ⟨o, e1, _⟩ := hp; exact ⟨_, e1⟩
        | itr l ds => obtain ⟨o, e1, _⟩ := hp; exact ⟨_, e1⟩
      · rcases List.mem_append.mp hm with hm | hm
        · cases o with
          | acc dx n ds =>
            obtain ⟨vs, kk, _, _, m, ⟨o, es, ee, e2, _⟩, _⟩ := hp
            rw [List.mem_singleton.mp hm]
            exact ⟨_, e2⟩
          | lst ds => cases hm
          | tab c ps => cases hm
          | pin o => cases hm
          | itr l ds => cases hm
        · exact ih (fun p hp => hs p (.tail _ hp)) hm
  exact key μ (fun _ h => h) h
theorem dom_lt {hb : Heap} {μ : Mem} {s : Shared} (y : Ok hb μ s) {x : Addr} (h : x ∈ dom μ) : x < s.heap.objs.size := let ⟨_, e⟩ := dom_there y h; Heap.lt_size e
theorem none_ge {h : Heap} {a : Addr} (ha : h.objs.size ≤ a) : h.get? a = none := by
  cases q : h.get? a with
  | none => rfl
  | some o => exact absurd (Heap.lt_size q) (Nat.not_lt.mpr ha)
theorem base_none {hb : Heap} {μ : Mem} {s : Shared} (y : Ok hb μ s) {a : Addr} (ha : s.heap.objs.size ≤ a) : hb.get? a = none := by
  cases q : hb.get? a with
  | none => rfl
  | some o => have := y.base a o q; rw [none_ge ha] at this; cases this

theorem bindL_off {kindOf : Str → Option NameKind} : ∀ (binds : List (Str × Value)) (m : Str → Option Value) (x : Str), x ∉ binds.map (·.1) → bindL kindOf binds m x = m x
  | [], _, _, _ => rfl
  | (n, u) :: r, m, x, h => by
    have h1 : x ≠ n := fun e => h (by rw [e]; exact .head _)
    have h2 : x ∉ r.map (·.1) := fun e => h (.tail _ e)
    unfold bindL
    rw [bindL_off r _ x h2]
    split
    · simp [h1]
    · rfl
theorem bindC_off {kindOf : Str → Option NameKind} : ∀ (binds : List (Str × Value)) (m : Str → Option Value) (x : Str), x ∉ binds.map (·.1) → bindC kindOf binds m x = m x
  | [], _, _, _ => rfl
  | (n, u) :: r, m, x, h => by
    have h1 : x ≠ n := fun e => h (by rw [e]; exact .head _)
    have h2 : x ∉ r.map (·.1) := fun e => h (.tail _ e)
    unfold bindC
    rw [bindC_off r _ x h2]
    split
    · rfl
    · simp [h1]
theorem bindL_get {kindOf : Str → Option NameKind} {x : Str} {v : Value} (hk : kindOf x = some .local) : ∀ (binds : List (Str × Value)) (m : Str → Option Value), (binds.map (·.1)).Nodup → (x, v) ∈ binds → bindL kindOf binds m x = some v
  | (n, u) :: r, m, hn, h => by
    obtain ⟨n1, n2⟩ := List.nodup_cons.mp (by simpa using hn : (n :: r.map (·.1)).Nodup)
    unfold bindL
    rcases List.mem_cons.mp h with e | h
    · cases e
      rw [bindL_off r _ x n1, if_pos hk]
      simp
    · exact bindL_get hk r _ n2 h
theorem bindC_get {kindOf : Str → Option NameKind} {x : Str} {v : Value} (hk : kindOf x ≠ some .local) : ∀ (binds : List (Str × Value)) (m : Str → Option Value), (binds.map (·.1)).Nodup → (x, v) ∈ binds → bindC kindOf binds m x = some v
  | (n, u) :: r, m, hn, h => by
    obtain ⟨n1, n2⟩ := List.nodup_cons.mp (by simpa using hn : (n :: r.map (·.1)).Nodup)
    unfold bindC
    rcases List.mem_cons.mp h with e | h
    · cases e
      rw [bindC_off r _ x n1, if_neg hk]
      simp
    · exact bindC_get hk r _ n2 h

theorem zip_mem {X : List Addr} {h : Heap} : ∀ {names : List Str} {vs : List Value} {ds : List Dat} {x : Str} {d : Dat}, RdA X h vs ds → (names.zip ds).lookup x = some d → ∃ v, (x, v) ∈ names.zip vs ∧ Rd X h v d
  | [], _, _, _, _, _, e => by simp at e
  | n :: ns, _, _, x, d, .nil, e => by simp at e
  | n :: ns, _, _, x, d, .cons (v := v) hv r, e => by
    rw [List.zip_cons_cons, List.lookup_cons] at e
    cases q : x == n with
    | true =>
      rw [q] at e
      cases e
      exact ⟨v, by rw [List.zip_cons_cons, beq_iff_eq.mp q]; exact .head _, hv⟩
    | false =>
      rw [q] at e
      obtain ⟨v', h1, h2⟩ := zip_mem r e
      exact ⟨v', .tail _ h1, h2⟩
theorem zip_names {names : List Str} {vs : List Value} (h : names.length = vs.length) : (names.zip vs).map (·.1) = names := by
  rw [List.map_fst_zip]; omega

noncomputable def retD : AFlow → Dat
  | .ret d => d
  | _ => .none
theorem FlR.ret {X : List Addr} {h : Heap} {f : Flow} {af : AFlow} : FlR X h f af → Rd X h (match f with | .ret v => v | _ => .none) (retD af) := by
  intro r
  cases f <;> cases af <;> first | exact r | exact .none | cases r

section
variable {prog : Program} {w : World} {hb : Heap} {k : Nat} {μ : Mem} {Φ : Dat → Mem → Prop}
/-- a def without a closure, called by position -/
theorem WpC.fn {fa : Addr} {o : Obj} {fd : FuncData} {body : List Stmt} {ds : List Dat} (names : List Str) (ho : hb.get? fa = some o) (hd : o.data = .func fd) (hbody : fd.body = .stmts body)
    (h : WpS prog w hb ⟨fd.scope.names, fd.code⟩ k body (names.zip ds) μ (fun af _ μ' => Φ (retD af) μ')) (lim : hb.NoLimit) (hcd : hb.CodeRec fd.code fd.qualname)
    (hlen : names.length = ds.length) (hbind : ∀ vs : List Value, vs.length = names.length → bindArgs fd ⟨vs, []⟩ = pure (names.zip vs))
    (hnd : names.Nodup) (hkinds : ∀ x ∈ names, fd.scope.names.lookup x = some .local ∨ fd.scope.names.lookup x = some .cell) (hfree : ∀ x, fd.scope.names.lookup x ≠ some .free)
    (hglob : fd.globals = mainGlobals := by rfl) (hbi : fd.builtins = builtinsNs := by rfl) (hclo : fd.closure = [] := by rfl)
    (hco : fd.scope.isCoroutine = false := by rfl) (hgen : fd.scope.isGenerator = false := by rfl) (hk : fd.scope.kind = .function := by rfl) : WpC prog w hb (k + 1) fa ds μ Φ := by
  intro A s vs E c y r
  refine ⟨fun Q hQ => ?_⟩
  have hvl : vs.length = names.length := by rw [r.length, hlen]
  refine wpAny_call (codeAny_call_cells (fd := fd) (binds := names.zip vs) c.room (y.base _ _ ho) hd (lim.keeps y.base) (hcd.keeps y.base) hbody (hbind vs hvl) hclo (fun x hx => ?_) (fun s₁ X => ?_) hco hgen hk)
  · have hm : x.1 ∈ names := (List.of_mem_zip hx).1
    rcases hkinds x.1 hm with q | q
    · exact .inl q
    · exact .inr ⟨q, cellsFrom_some _ _ _ (.inl q)⟩
  · obtain ⟨h₁, tk₁, rfl⟩ := X.toInCall.same
    have kp : ∀ b o, s.heap.get? b = some o → h₁.get? b = some o := X.toInCall.keep
    have g₁ : Fw (dom μ) (dom μ) s { s with heap := h₁, toks := tk₁ } := Fw.keeps kp
    have r₁ := r.step g₁
    have hL : (callEnvC fd s.heap.objs.size fa).locals = s.heap.objs.size := rfl
    have hcs : (callEnvC fd s.heap.objs.size fa).cells = cellsFrom (s.heap.objs.size + 1) fd.scope.names [] := rfl
    have hge : ∀ n c, (n, c) ∈ (callEnvC fd s.heap.objs.size fa).cells → s.heap.objs.size < c := fun n c hm => X.above n c hm
    have hgl : ∀ n c, (callEnvC fd s.heap.objs.size fa).cells.lookup n = some c → s.heap.objs.size < c := fun n c hm => hge n c (mem_of_lookup hm)
    have nin : ∀ a, s.heap.objs.size ≤ a → a ∉ dom μ := fun a ha hm => absurd (dom_lt y hm) (Nat.not_lt.mpr ha)
    have e₁ : EnvOk hb ⟨fd.scope.names, fd.code⟩ (callEnvC fd s.heap.objs.size fa) (names.zip ds) (dom μ) h₁ := by
      refine ⟨rfl, hk, rfl, hglob, hbi, nin _ (Nat.le_refl _), base_none y (Nat.le_refl _), fun x c hx hc => ?_, X.apart, fun x hx => ?_, _, X.toInCall.ns, fun x d hx => ?_⟩
      · have := hgl x c hc
        exact ⟨nin _ (Nat.le_of_lt this), base_none y (Nat.le_of_lt this), Nat.ne_of_gt this, _, X.cell x c hc⟩
      · rcases hx with hx | hx
        · exact cellsFrom_some _ _ _ (.inl hx)
        · exact absurd hx (hfree x)
      · obtain ⟨v, hv, rv⟩ := zip_mem r₁ hx
        have hm : x ∈ names := (List.of_mem_zip hv).1
        have hz : (names.zip vs).map (·.1) = names := zip_names hvl.symm
        rcases hkinds x hm with q | q
        · exact .inl ⟨q, v, bindL_get (by show fd.scope.names.lookup x = _; exact q) _ _ (by rw [hz]; exact hnd) hv, rv⟩
        · obtain ⟨c', hc'⟩ := Option.isSome_iff_exists.mp (cellsFrom_some fd.scope.names (s.heap.objs.size + 1) [] (.inl q))
          have := hgl x c' hc'
          refine .inr ⟨.inl q, c', v, hc', nin _ (Nat.le_of_lt this), Nat.ne_of_gt this, ?_, rv⟩
          have hcell := X.cell x c' hc'
          rwa [bindC_get (by show fd.scope.names.lookup x ≠ _; rw [q]; intro z; cases z) _ _ (by rw [hz]; exact hnd) hv] at hcell
    refine (h _ _ _ _ (c.deeper _) e₁ (y.keeps kp)).run _ fun f af ρ' μ' s' a1 a2 a3 a4 a5 => ?_
    refine hQ _ _ μ' s' a1 a2.ret a4 ⟨fun b o' hb' e => a5.keep b o' (fun hm => ?_) (kp b o' e), fun a ha => ?_, a5.os, a5.gens⟩
    · rcases List.mem_append.mp hm with hm | hm
      · rcases own_mem hm with q | ⟨xn, _, hq⟩
        · rw [q, hL, none_ge (Nat.le_refl _)] at e; cases e
        · rw [none_ge (Nat.le_of_lt (hgl xn _ hq))] at e; cases e
      · exact hb' hm
    · rcases a5.dom a (List.mem_append_right _ ha) with hm | hm
      · rcases List.mem_append.mp hm with hm | hm
        · right
          rcases own_mem hm with q | ⟨xn, _, hq⟩
          · rw [q, hL]; exact none_ge (Nat.le_refl _)
          · exact none_ge (Nat.le_of_lt (hgl xn _ hq))
        · exact .inl hm
      · right
        cases q : s.heap.get? a with
        | none => rfl
        | some o' => have := kp a o' q; rw [this] at hm; cases hm
end
end Mine

end

noncomputable section
namespace Mine

theorem dom_append : ∀ (P μ : Mem), dom (P ++ μ) = dom P ++ dom μ
  | [], _ => rfl
  | (a, o) :: r, μ => by simp only [List.cons_append, dom, dom_append r μ, List.append_assoc]

/-- the entry of an address is another one now -/
noncomputable def setM (μ : Mem) (a : Addr) (o : MO) : Mem := μ.map fun p => if p.1 = a then (a, o) else p
theorem setM_append (P μ : Mem) (a : Addr) (o : MO) : setM (P ++ μ) a o = setM P a o ++ setM μ a o := List.map_append ..
theorem setM_off {μ : Mem} {a : Addr} {o : MO} (h : ∀ p ∈ μ, p.1 ≠ a) : setM μ a o = μ := by
  unfold setM
  induction μ with
  | nil => rfl
  | cons p r ih =>
    rw [List.map_cons, if_neg (h p (.head _)), ih fun q hq => h q (.tail _ hq)]
theorem nodup_fst {μ : Mem} (hn : (dom μ).Nodup) {a : Addr} {o o' : MO} (h : (a, o) ∈ μ) (h' : (a, o') ∈ μ) : o = o' := by
  induction μ with
  | nil => cases h
  | cons p r ih =>
    obtain ⟨b, q⟩ := p
    have hn' : (b :: (q.more ++ dom r)).Nodup := hn
    obtain ⟨n1, n2⟩ := List.nodup_cons.mp hn'
    have n3 : (dom r).Nodup := (List.nodup_append.mp n2).2.1
    rcases List.mem_cons.mp h with e | h1
    · rcases List.mem_cons.mp h' with e' | h2
      · cases e; cases e'; rfl
      · cases e; exact absurd (List.mem_append_right _ (mem_dom h2)) n1
    · rcases List.mem_cons.mp h' with e' | h2
      · cases e'; exact absurd (List.mem_append_right _ (mem_dom h1)) n1
      · exact ih n3 h1 h2
theorem nodup_more {μ : Mem} (hn : (dom μ).Nodup) {a b : Addr} {o q : MO} (h : (a, o) ∈ μ) (h' : (b, q) ∈ μ) : a ∉ q.more := by
  intro hm
  induction μ with
  | nil => cases h
  | cons p r ih =>
    obtain ⟨c, z⟩ := p
    have hn' : (c :: (z.more ++ dom r)).Nodup := hn
    obtain ⟨n1, n2⟩ := List.nodup_cons.mp hn'
    obtain ⟨_, n3, n4⟩ := List.nodup_append.mp n2
    rcases List.mem_cons.mp h with e | h1
    · rcases List.mem_cons.mp h' with e' | h2
      · cases e; cases e'; exact n1 (List.mem_append_left _ hm)
      · cases e; exact n1 (List.mem_append_right _ (mem_more h2 hm))
    · rcases List.mem_cons.mp h' with e' | h2
      · cases e'; exact n4 _ hm _ (mem_dom h1) rfl
      · exact ih n3 h1 h2
theorem dom_setM : ∀ {μ : Mem} {a : Addr} {o : MO}, (∀ q, (a, q) ∈ μ → q.more = o.more) → dom (setM μ a o) = dom μ
  | [], _, _, _ => rfl
  | (b, q) :: r, a, o, h => by
    have ih := dom_setM (μ := r) (a := a) (o := o) fun q' hq' => h q' (.tail _ hq')
    unfold setM at ih ⊢
    rw [List.map_cons]
    by_cases e : b = a
    · subst e
      simp only [if_true, dom, ih, h q (.head _)]
    · simp only [if_neg e, dom, ih]

theorem Ok.setM {hb : Heap} {μ : Mem} {s : Shared} {h' : Heap} {tk : Nat} {a : Addr} {o o' : MO} (y : Ok hb μ s) (ha : (a, o) ∈ μ) (hm : o.more = o'.more) (hs : ∀ b q, b ≠ a → s.heap.get? b = some q → h'.get? b = some q)
    (hn : MAt (dom μ) h' a o') (hc : ∀ c ps, o' ≠ .tab c ps) : Ok hb (setM μ a o') { s with heap := h', toks := tk } := by
  have he : dom (Mine.setM μ a o') = dom μ := dom_setM fun q hq => by rw [nodup_fst y.nodup hq ha, hm]
  have sk : SeqK (dom μ) s.heap h' := fun b q xs n hb' _ e => hs b q (fun z => hb' (z ▸ mem_dom ha)) e
  refine ⟨fun b q e => hs b q (fun z => ?_) (y.base b q e), fun x hx => y.off x (by rwa [he] at hx), fun p hp => ?_, by rw [he]; exact y.nodup, y.bare, fun c ps x hx => ?_⟩
  · rw [z, y.off a (mem_dom ha)] at e; cases e
  · rw [he]
    obtain ⟨p0, hp0, rfl⟩ := List.mem_map.mp hp
    split
    · exact hn
    · rename_i hne
      have hmem := y.mem p0 hp0
      refine hmem.seq sk (fun q e => hs _ q hne e) (fun x hx q e => hs _ q (fun z => nodup_more y.nodup ha (show (p0.1, p0.2) ∈ μ from hp0) (z ▸ hx)) e) (fun c ps e q z => hs _ q (fun w => ?_) z)
      obtain ⟨oc, hoc⟩ := y.codes c ps p0.1 (by rw [← e]; exact hp0)
      rw [w, y.off a (mem_dom ha)] at hoc; cases hoc
  · obtain ⟨p0, hp0, e⟩ := List.mem_map.mp hx
    split at e
    · cases e; exact absurd rfl (hc c ps)
    · subst e; exact y.codes c ps x hp0

theorem MAt.less {X Y : List Addr} {h : Heap} {a : Addr} (k : ∀ b o, b ∉ X → h.get? b = some o → b ∉ Y) : ∀ {o : MO}, MAt X h a o → MAt Y h a o
  | .acc _ _ _, ⟨vs, kk, e1, r, z⟩ => ⟨vs, kk, e1, RdA.less k r, z⟩
  | .lst _, ⟨vs, e, r⟩ => ⟨vs, e, RdA.less k r⟩
  | .tab _ _, x => x
  | .pin _, e => e
  | .itr _ _, ⟨o, e, z, r⟩ => ⟨o, e, z, Rd.less k r⟩

/-- a new object, pinned -/
theorem Ok.pushPin {hb : Heap} {μ : Mem} {s : Shared} {o : Obj} {p : Obj → Prop} {tk : Nat} (y : Ok hb μ s) (hp : p o) (hf : o.isFreed = false := by rfl) : Ok hb ((s.heap.objs.size, .pin p) :: μ) { s with heap := s.heap.push o, toks := tk } := by
  have y' := y.keeps (tk := tk) (push_keeps (h := s.heap) o)
  refine ⟨y'.base, fun a ha => ?_, fun q hq => ?_, ?_, y.bare, fun c ps a ha => ?_⟩
  · rcases List.mem_cons.mp ha with rfl | ha
    · exact base_none y (Nat.le_refl _)
    · exact y.off a ha
  · rcases List.mem_cons.mp hq with rfl | hp'
    · exact ⟨o, Heap.get?_push_size _ hf, hp⟩
    · have m := (y.mem q hp').less (Y := dom ((s.heap.objs.size, MO.pin p) :: μ)) fun b q hb' e hm => by
        rcases List.mem_cons.mp hm with rfl | hm
        · exact absurd (Heap.lt_size e) (Nat.lt_irrefl _)
        · exact hb' hm
      exact m.seq (.of_keeps (push_keeps o)) (fun q e => push_keeps o _ q e) (fun _ _ q e => push_keeps o _ q e) fun _ _ _ q e => push_keeps o _ q e
  · exact List.nodup_cons.mpr ⟨not_dom y, y.nodup⟩
  · rcases List.mem_cons.mp ha with e | ha
    · cases e
    · exact y.codes c ps a ha
theorem Fw.pushPin {μ : Mem} {s : Shared} {o : Obj} {tk : Nat} {q : MO} (hq : q.more = []) : Fw (Mine.dom μ) (Mine.dom ((s.heap.objs.size, q) :: μ)) s { s with heap := s.heap.push o, toks := tk } :=
  ⟨fun b o' _ e => push_keeps o b o' e, fun a ha => by
    simp only [Mine.dom, hq, List.nil_append] at ha
    rcases List.mem_cons.mp ha with rfl | ha
    · exact .inr fresh_size
    · exact .inl ha, rfl, fun h => h⟩
/-- entries are forgotten: what they tell of may change no more, or is not asked -/
theorem Ok.drop {hb : Heap} {P μ : Mem} {s : Shared} (y : Ok hb (P ++ μ) s) : Ok hb μ s := by
  refine ⟨y.base, fun a ha => y.off a (by rw [dom_append]; exact List.mem_append_right _ ha), fun p hp => ?_, ?_, y.bare, fun c ps a ha => y.codes c ps a (List.mem_append_right _ ha)⟩
  · exact (y.mem p (List.mem_append_right _ hp)).less fun b o hb' _ hm => hb' (by rw [dom_append]; exact List.mem_append_right _ hm)
  · have := y.nodup; rw [dom_append] at this; exact (List.nodup_append.mp this).2.1
theorem Fw.drop {X : List Addr} {P μ : Mem} {s s' : Shared} (f : Fw X (Mine.dom (P ++ μ)) s s') : Fw X (Mine.dom μ) s s' :=
  ⟨f.keep, fun a ha => f.dom a (by rw [dom_append]; exact List.mem_append_right _ ha), f.os, f.gens⟩
theorem Rd.drop {P μ : Mem} {h : Heap} {v : Value} {d : Dat} (r : Rd (dom (P ++ μ)) h v d) : Rd (dom μ) h v d :=
  r.less fun b _ hb' _ hm => hb' (by rw [dom_append]; exact List.mem_append_right _ hm)
theorem RdA.drop' {P μ : Mem} {h : Heap} {v : List Value} {d : List Dat} (r : RdA (dom (P ++ μ)) h v d) : RdA (dom μ) h v d :=
  r.less fun b _ hb' _ hm => hb' (by rw [dom_append]; exact List.mem_append_right _ hm)

noncomputable def AllPin (P : Mem) : Prop := ∀ p ∈ P, ∃ o, p.2 = .pin o
noncomputable def Off (P μ : Mem) : Prop := ∀ p ∈ P, p.1 ∉ dom μ
theorem Ok.offP {hb : Heap} {P μ : Mem} {s : Shared} (y : Ok hb (P ++ μ) s) : Off P μ := fun p hp hm => by
  have := y.nodup
  rw [dom_append] at this
  exact (List.nodup_append.mp this).2.2 _ (mem_dom (show (p.1, p.2) ∈ P from hp)) _ hm rfl

section
variable (prog : Program) (w : World) (hb : Heap)
/-- an iterator at I that will hand out these data, under this target; srcs must still read as they did -/
noncomputable def Iter (srcs : List (Value × Dat)) (tgt : Expr) (I : Addr) : List Dat → Mem → Prop
  | [], P => AllPin P ∧ (∀ (A : Around) (E : Value → Shared → Prop) (s : Shared) (μ : Mem) (Q : Value → Shared → Prop), Ok hb (P ++ μ) s → Q (.ref I) s → wpAny (model prog w) A (pyIter (.ref I)) Q E s) ∧
    ∀ (k : Nat) (A : Around) (E : Value → Shared → Prop) (s : Shared) (μ : Mem) (Q : Option Value → Shared → Prop), Calm k A → Ok hb (P ++ μ) s → (∀ p ∈ srcs, Rd (dom (P ++ μ)) s.heap p.1 p.2) →
      (∀ s', Ok hb μ s' → Fw (dom (P ++ μ)) (dom μ) s s' → Q none s') → wpAny (model prog w) A (pyNext (.ref I)) Q E s
  | d :: ds, P => AllPin P ∧ (∀ (A : Around) (E : Value → Shared → Prop) (s : Shared) (μ : Mem) (Q : Value → Shared → Prop), Ok hb (P ++ μ) s → Q (.ref I) s → wpAny (model prog w) A (pyIter (.ref I)) Q E s) ∧
    ∀ (k : Nat) (A : Around) (E : Value → Shared → Prop) (s : Shared) (μ : Mem) (Q : Value → Shared → Prop), Calm k A → Ok hb (P ++ μ) s → (∀ p ∈ srcs, Rd (dom (P ++ μ)) s.heap p.1 p.2) →
      (∀ v s' P', Iter srcs tgt I ds P' → dom P' = dom P → Rd (dom (P' ++ μ)) s'.heap v d → Ok hb (P' ++ μ) s' → Fw (dom (P ++ μ)) (dom (P' ++ μ)) s s' → Q v s') →
      wpAny (model prog w) A (pyNext (.ref I)) (fun r s₁ => ∃ v, r = some v ∧ wpAny (model prog w) A (letOwnedTupleGo tgt (.ref I) v) (fun _ s' => Q v s') E s₁) E s

/-- an expression that is iterated over -/
structure WpIt (sc : Sh) (k : Nat) (tgt e : Expr) (ρ : Ren) (μ : Mem) (Φ : List Dat → Mem → Prop) : Prop where
  run : ∀ (env : Env) (A : Around) (s : Shared) (E : Value → Shared → Prop) (Q : Value → Shared → Prop), Calm k A → EnvOk hb sc env ρ (dom μ) s.heap → Ok hb μ s →
    (∀ I items P srcs μ' s', Φ items μ' → Iter prog w hb srcs tgt I items P → Ok hb (P ++ μ') s' → (∀ p ∈ srcs, Rd (dom (P ++ μ')) s'.heap p.1 p.2) → Fw (dom μ) (dom (P ++ μ')) s s' → Q (.ref I) s') →
    wpAny (model prog w) A (eval e env) (fun x s₁ => wpAny (model prog w) A (pyIter x) Q E s₁) E s
end

theorem Iter.pins {prog : Program} {w : World} {hb : Heap} {srcs : List (Value × Dat)} {tgt : Expr} {I : Addr} : ∀ {items : List Dat} {P : Mem}, Iter prog w hb srcs tgt I items P → AllPin P
  | [], _, h => h.1
  | _ :: _, _, h => h.1
theorem Iter.self {prog : Program} {w : World} {hb : Heap} {srcs : List (Value × Dat)} {tgt : Expr} {I : Addr} {A : Around} {E : Value → Shared → Prop} {s : Shared} {μ : Mem} {Q : Value → Shared → Prop} : ∀ {items : List Dat} {P : Mem}, Iter prog w hb srcs tgt I items P →
    Ok hb (P ++ μ) s → Q (.ref I) s → wpAny (model prog w) A (pyIter (.ref I)) Q E s
  | [], _, h, y, q => h.2.1 A E s μ Q y q
  | _ :: _, _, h, y, q => h.2.1 A E s μ Q y q

theorem Fw.sameIn {μ : Mem} {s : Shared} {h' : Heap} {tk : Nat} {a : Addr} (ha : a ∈ Mine.dom μ) (hs : ∀ b q, b ≠ a → s.heap.get? b = some q → h'.get? b = some q) : Fw (Mine.dom μ) (Mine.dom μ) s { s with heap := h', toks := tk } :=
  ⟨fun b o hb' e => hs b o (fun z => hb' (z ▸ ha)) e, fun _ h => .inl h, rfl, fun h => h⟩

/-! lists -/
noncomputable def listIt (l : Addr) (i : Nat) (o : Obj) : Prop := o.cls = .type "list_iterator" ∧ o.data = .fields #[.ref l, .int i 0]
noncomputable def tupOrName : Expr → Bool
  | .Name .. => true
  | .Tuple .. => true
  | _ => false
theorem go_list {prog : Program} {w : World} {A : Around} {E : Value → Shared → Prop} {s : Shared} {tgt : Expr} {I l : Addr} {i : Nat} {v : Value} {Q : Unit → Shared → Prop} (ht : tupOrName tgt = true) (hit : s.heap.IsListIter I l i) (h : Q () s) :
    wpAny (model prog w) A (letOwnedTupleGo tgt (.ref I) v) Q E s := by
  cases tgt with
  | Name x p => exact wpAny_pure h
  | Tuple es n p =>
    cases v with
    | ref T => exact wpAny_letOwnedTupleGo_listiter hit h
    | _ => exact wpAny_pure h
  | _ => cases ht
theorem Iter.list {prog : Program} {w : World} {hb : Heap} {tgt : Expr} (ht : tupOrName tgt = true) {l I : Addr} {ds : List Dat} : ∀ (n i : Nat), n + i = ds.length → Iter prog w hb [(.ref l, .list ds)] tgt I (ds.drop i) [(I, .pin (listIt l i))]
  | 0, i, hn => by
    rw [List.drop_eq_nil_of_le (by omega)]
    refine ⟨fun p hp => ⟨listIt l i, by rw [List.mem_singleton.mp hp]⟩, fun A E s μ Q y h => ?_, fun k A E s μ Q c y hs h => ?_⟩
    · exact wpAny_pyIter_listiter (y.mem (I, _) (.head _)) h
    · have r := hs _ (.head _)
      cases r with
      | list h1 hl q =>
        rename_i vs
        have hit : s.heap.IsListIter I l i := (y.mem (I, _) (.head _))
        refine wpAny_pyNext_list_end c.han hit hl (by simp [q.length]; omega) fun h' he' => ?_
        refine h _ ?_ ⟨fun b o hb' e => he' b o (fun z => hb' (z ▸ .head _)) e, fun a ha => .inl (.tail _ ha), rfl, fun z => z⟩
        have yd := y.drop (P := [(I, .pin (listIt l i))]) (μ := μ)
        refine ⟨fun b o e => he' b o (fun z => ?_) (y.base b o e), yd.off, fun p hp => ?_, yd.nodup, y.bare, yd.codes⟩
        · rw [z, y.off I (.head _)] at e; cases e
        · have hI : I ∉ dom μ := fun hm => y.offP (P := [(I, .pin (listIt l i))]) (I, _) (.head _) hm
          refine (yd.mem p hp).seq (fun b o xs n _ hd e => he' b o (fun z => ?_) e) (fun o e => he' _ o (fun z => hI (z ▸ mem_dom hp)) e) (fun x hx o e => he' _ o (fun z => hI (z ▸ mem_more hp hx)) e) (fun cc ps e o z => he' _ o (fun q => ?_) z)
          · obtain ⟨oI, hoI, _, hdI⟩ := hit; rw [z, hoI] at e; cases e; rw [hdI] at hd; cases hd
          · obtain ⟨oc, hoc⟩ := yd.codes cc ps p.1 (by rw [← e]; exact hp)
            rw [q, y.off I (.head _)] at hoc; cases hoc
  | n + 1, i, hn => by
    have hlt : i < ds.length := by omega
    rw [List.drop_eq_getElem_cons hlt]
    refine ⟨fun p hp => ⟨listIt l i, by rw [List.mem_singleton.mp hp]⟩, fun A E s μ Q y h => ?_, fun k A E s μ Q c y hs h => ?_⟩
    · exact wpAny_pyIter_listiter (y.mem (I, _) (.head _)) h
    · have r := hs _ (.head _)
      cases r with
      | list h1 hl q =>
        rename_i vs
        have hit : s.heap.IsListIter I l i := (y.mem (I, _) (.head _))
        obtain ⟨v, hv, rv⟩ := q.get i (List.getElem?_eq_getElem hlt)
        refine wpAny_pyNext_list_item hit hl (by simpa using hv) fun h' hit' hs' => ⟨v, rfl, go_list ht hit' ?_⟩
        have e : setM ([(I, MO.pin (listIt l i))] ++ μ) I (.pin (listIt l (i + 1))) = [(I, .pin (listIt l (i + 1)))] ++ μ := by
          have hI : I ∉ dom μ := fun hm => y.offP (P := [(I, .pin (listIt l i))]) (I, _) (.head _) hm
          rw [setM_append, setM_off (μ := μ) (a := I) fun p hp z => hI (by rw [← z]; exact mem_dom (show (p.1, p.2) ∈ μ from hp))]
          simp [setM]
        have y' : Ok hb ([(I, .pin (listIt l (i + 1)))] ++ μ) { s with heap := h' } := by
          rw [← e]
          exact y.setM (tk := s.toks) (o := .pin (listIt l i)) (.head _) rfl (fun b o hne z => (hs'.2 b hne).trans z) hit' (fun _ _ z => by cases z)
        have f : Fw (dom ([(I, MO.pin (listIt l i))] ++ μ)) (dom ([(I, MO.pin (listIt l (i + 1)))] ++ μ)) s { s with heap := h' } := Fw.sameIn (tk := s.toks) (.head _) fun b o hne z => (hs'.2 b hne).trans z
        exact h v _ _ (Iter.list ht n (i + 1) (by omega)) rfl (rv.step f) y' f
end Mine

end

noncomputable section
namespace Mine

theorem dom_pins : ∀ {P : Mem}, AllPin P → dom P = P.map (·.1)
  | [], _ => rfl
  | (a, o) :: r, h => by
    obtain ⟨q, hq⟩ := h (a, o) (.head _)
    have hq' : o = .pin q := hq
    subst hq'
    simp only [dom, MO.more, List.nil_append, List.map_cons, dom_pins (fun p hp => h p (.tail _ hp))]

noncomputable def PinsAt (P : Mem) (h : Heap) : Prop := ∀ p ∈ P, ∃ q o, p.2 = .pin q ∧ h.get? p.1 = some o ∧ q o
theorem PinsAt.all {P : Mem} {h : Heap} (x : PinsAt P h) : AllPin P := fun p hp => let ⟨q, _, e, _⟩ := x p hp; ⟨q, e⟩
theorem PinsAt.nil {h : Heap} : PinsAt [] h := fun _ hp => nomatch hp
theorem PinsAt.cons {P : Mem} {h : Heap} {a : Addr} {q : Obj → Prop} {o : Obj} (x : PinsAt P h) (e : h.get? a = some o) (hq : q o) : PinsAt ((a, .pin q) :: P) h := fun p hp => by
  rcases List.mem_cons.mp hp with rfl | hp
  · exact ⟨q, o, rfl, e, hq⟩
  · exact x p hp
theorem Ok.pinned {hb : Heap} {P μ : Mem} {s : Shared} (y : Ok hb (P ++ μ) s) (hp : AllPin P) : PinsAt P s.heap := fun p hm => by
  obtain ⟨q, e⟩ := hp p hm
  have := y.mem p (List.mem_append_left _ hm)
  rw [e] at this
  obtain ⟨o, h1, h2⟩ := this
  exact ⟨q, o, e, h1, h2⟩

section
variable {hb : Heap} {P P' μ : Mem} {s : Shared} {h' : Heap} {tk : Nat}
theorem Ok.repin (y : Ok hb (P ++ μ) s) (hd : dom P' = dom P) (hk : ∀ b o, b ∉ dom P → s.heap.get? b = some o → h'.get? b = some o) (hp : PinsAt P' h') :
    Ok hb (P' ++ μ) { s with heap := h', toks := tk } ∧ Fw (dom (P ++ μ)) (dom (P' ++ μ)) s { s with heap := h', toks := tk } := by
  have he : dom (P' ++ μ) = dom (P ++ μ) := by rw [dom_append, dom_append, hd]
  have nd := y.nodup
  rw [dom_append] at nd
  have apart : ∀ x ∈ dom μ, x ∉ dom P := fun x hx hx' => (List.nodup_append.mp nd).2.2 x hx' x hx rfl
  have offP : ∀ x ∈ dom P, hb.get? x = none := fun x hx => y.off x (by rw [dom_append]; exact List.mem_append_left _ hx)
  refine ⟨⟨fun b o e => hk b o (fun z => by rw [offP b z] at e; cases e) (y.base b o e), fun a ha => y.off a (he ▸ ha), fun p hm => ?_, he ▸ y.nodup, y.bare, fun c ps a ha => ?_⟩, fun b o hb' e => hk b o (fun z => hb' (by rw [dom_append]; exact List.mem_append_left _ z)) e, fun a ha => .inl (he ▸ ha), rfl, fun z => z⟩
  · rw [he]
    rcases List.mem_append.mp hm with hm | hm
    · obtain ⟨q, o, e, h1, h2⟩ := hp p hm
      rw [e]; exact ⟨o, h1, h2⟩
    · have m := y.mem p (List.mem_append_right _ hm)
      refine m.seq (fun b o xs n hb' _ e => hk b o (fun z => hb' (by rw [dom_append]; exact List.mem_append_left _ z)) e) (fun o e => hk _ o (apart _ (mem_dom (show (p.1, p.2) ∈ μ from hm))) e) (fun x hx o e => hk _ o (apart _ (mem_more (show (p.1, p.2) ∈ μ from hm) hx)) e) (fun c ps e o z => hk _ o (fun q => ?_) z)
      obtain ⟨oc, hoc⟩ := y.codes c ps p.1 (by rw [← e]; exact List.mem_append_right _ hm)
      rw [offP c q] at hoc; cases hoc
  · rcases List.mem_append.mp ha with ha | ha
    · obtain ⟨q, o, e, _⟩ := hp _ ha
      cases e
    · exact y.codes c ps a (List.mem_append_right _ ha)
theorem Ok.unpin (y : Ok hb (P ++ μ) s) (hk : ∀ b o, b ∉ dom P → s.heap.get? b = some o → h'.get? b = some o) :
    Ok hb μ { s with heap := h', toks := tk } ∧ Fw (dom (P ++ μ)) (dom μ) s { s with heap := h', toks := tk } := by
  have nd := y.nodup
  rw [dom_append] at nd
  have apart : ∀ x ∈ dom μ, x ∉ dom P := fun x hx hx' => (List.nodup_append.mp nd).2.2 x hx' x hx rfl
  have offP : ∀ x ∈ dom P, hb.get? x = none := fun x hx => y.off x (by rw [dom_append]; exact List.mem_append_left _ hx)
  refine ⟨⟨fun b o e => hk b o (fun z => by rw [offP b z] at e; cases e) (y.base b o e), fun a ha => y.off a (by rw [dom_append]; exact List.mem_append_right _ ha), fun p hm => ?_, (List.nodup_append.mp nd).2.1, y.bare, fun c ps a ha => y.codes c ps a (List.mem_append_right _ ha)⟩, fun b o hb' e => hk b o (fun z => hb' (by rw [dom_append]; exact List.mem_append_left _ z)) e, fun a ha => .inl (by rw [dom_append]; exact List.mem_append_right _ ha), rfl, fun z => z⟩
  have m := y.mem p (List.mem_append_right _ hm)
  have m' : MAt (dom (P ++ μ)) h' p.1 p.2 := by
    refine m.seq (fun b o xs n hb' _ e => hk b o (fun z => hb' (by rw [dom_append]; exact List.mem_append_left _ z)) e) (fun o e => hk _ o (apart _ (mem_dom (show (p.1, p.2) ∈ μ from hm))) e) (fun x hx o e => hk _ o (apart _ (mem_more (show (p.1, p.2) ∈ μ from hm) hx)) e) (fun c ps e o z => hk _ o (fun q => ?_) z)
    obtain ⟨oc, hoc⟩ := y.codes c ps p.1 (by rw [← e]; exact List.mem_append_right _ hm)
    rw [offP c q] at hoc; cases hoc
  exact m'.less fun b o hb' _ hm' => hb' (by rw [dom_append]; exact List.mem_append_right _ hm')
theorem Ok.addPins (y : Ok hb μ s) (hk : ∀ b o, s.heap.get? b = some o → h'.get? b = some o) (hp : PinsAt P h') (hge : ∀ p ∈ P, s.heap.objs.size ≤ p.1) (hn : (P.map (·.1)).Nodup) :
    Ok hb (P ++ μ) { s with heap := h', toks := tk } ∧ Fw (dom μ) (dom (P ++ μ)) s { s with heap := h', toks := tk } := by
  have hP := dom_pins hp.all
  have ge : ∀ x ∈ dom P, s.heap.objs.size ≤ x := fun x hx => by
    rw [hP] at hx
    obtain ⟨p, hm, rfl⟩ := List.mem_map.mp hx
    exact hge p hm
  have y' := y.keeps (tk := tk) hk
  refine ⟨⟨y'.base, fun a ha => ?_, fun p hm => ?_, ?_, y.bare, fun c ps a ha => ?_⟩, fun b o _ e => hk b o e, fun a ha => ?_, rfl, fun z => z⟩
  · rw [dom_append] at ha
    rcases List.mem_append.mp ha with ha | ha
    · exact base_none y (ge a ha)
    · exact y.off a ha
  · rcases List.mem_append.mp hm with hm | hm
    · obtain ⟨q, o, e, h1, h2⟩ := hp p hm
      rw [e]; exact ⟨o, h1, h2⟩
    · have m := (y.mem p hm).less (Y := dom (P ++ μ)) fun b q hb' e hm' => by
        rw [dom_append] at hm'
        rcases List.mem_append.mp hm' with hm' | hm'
        · exact absurd (Heap.lt_size e) (Nat.not_lt.mpr (ge b hm'))
        · exact hb' hm'
      exact m.seq (.of_keeps hk) (fun q e => hk _ q e) (fun _ _ q e => hk _ q e) fun _ _ _ q e => hk _ q e
  · rw [dom_append]
    refine List.nodup_append.mpr ⟨by rw [hP]; exact hn, y.nodup, fun a ha b hb' e => ?_⟩
    subst e
    exact absurd (dom_lt y hb') (Nat.not_lt.mpr (ge a ha))
  · rcases List.mem_append.mp ha with ha | ha
    · obtain ⟨q, o, e, _⟩ := hp _ ha
      cases e
    · exact y.codes c ps a ha
  · rw [dom_append] at ha
    rcases List.mem_append.mp ha with ha | ha
    · exact .inr (none_ge (ge a ha))
    · exact .inl ha
end

section
variable {prog : Program} {w : World} {hb : Heap} {sc : Sh} {k : Nat} {ρ : Ren} {μ : Mem}

/-- over a list -/
theorem WpIt.list {tgt e : Expr} {Φ : List Dat → Mem → Prop} (ht : tupOrName tgt = true) (h : WpE prog w hb sc k e ρ μ (fun d μ₁ => ∃ ds, d = .list ds ∧ Φ ds μ₁)) : WpIt prog w hb sc k tgt e ρ μ Φ := by
  refine ⟨?_⟩
  intro env A s E Q c en y hQ
  refine (h env A s E c en y).run _ fun v d μ₁ s₁ h₁ r₁ y₁ f₁ => ?_
  obtain ⟨ds, rfl, hΦ⟩ := h₁
  have r₁' := r₁
  cases r₁ with
  | list h1 hl q =>
    rename_i l vs
    refine wpAny_pyIter_list hl ?_
    obtain ⟨y2, f2⟩ := y₁.addPins (tk := s₁.toks) (P := [(s₁.heap.objs.size, .pin (listIt l 0))]) (push_keeps { cls := .type "list_iterator", data := .fields #[.ref l, .int 0 0] }) (PinsAt.nil.cons (Heap.get?_push_size _ rfl) ⟨rfl, rfl⟩) (fun p hp => by rw [List.mem_singleton.mp hp]; exact Nat.le_refl _) (by simp)
    refine hQ _ ds _ [(.ref l, .list ds)] μ₁ _ hΦ ?_ y2 (fun p hp => ?_) (f₁.trans f2)
    · simpa using Iter.list (prog := prog) (w := w) (hb := hb) ht (l := l) (I := s₁.heap.objs.size) (ds := ds) ds.length 0 (by omega)
    · rw [List.mem_singleton.mp hp]
      exact r₁'.step f2

/-- a name of the built-ins -/
theorem ev_builtin {x : Str} {pos : Pos} {v : Value} {mg mb : Str → Option Value} {env : Env} {A : Around} {E : Value → Shared → Prop} {s : Shared} {Q : Value → Shared → Prop} {X : List Addr} (e : EnvOk hb sc env ρ X s.heap) (y : Ok hb μ s) (G : hb.Ns mainGlobals mg) (B : hb.Ns builtinsNs mb) (hm : mg x = none) (hv : mb x = some v) (h : Q v s)
    (hk : sc.names.lookup x = some .globalImplicit := by rfl) (hd : (x == ("__debug__" : Str)) = false := by decide) : wpAny (model prog w) A (eval (.Name x pos) env) Q E s :=
  Calls.Name_function_global e.kind (by show env.scope.names.lookup x = _; rw [e.scope, hk]) (Calls.loadGlobal_builtin (by rw [e.glob]; exact G.keeps y.base) hm (by rw [e.bi]; exact B.keeps y.base) hv h) hd

noncomputable def rangeIt (x left : Int) (o : Obj) : Prop := o = { cls := .type "range_iterator", data := .fields #[rawInt x, rawInt left, rawInt 1] }
theorem rangeAt {h : Heap} {I : Addr} {x l : Int} {o : Obj} (e : h.get? I = some o) (z : rangeIt x l o) : IsRangeIter h I x l 1 := by
  unfold rangeIt at z; subst z; exact e
theorem go_name {prog : Program} {w : World} {A : Around} {E : Value → Shared → Prop} {s : Shared} {x : Str} {p : Pos} {it v : Value} {Q : Unit → Shared → Prop} (h : Q () s) : wpAny (model prog w) A (letOwnedTupleGo (.Name x p) it v) Q E s := wpAny_pure h
theorem Iter.range {x : Str} {p : Pos} {I : Addr} {m : Nat} : ∀ (n i : Nat), n + i = m → Iter prog w hb [] (.Name x p) I (((List.range m).drop i).map fun (j : Nat) => Dat.int (j : Int)) [(I, .pin (rangeIt i ((m : Int) - i)))]
  | 0, i, hn => by
    rw [List.drop_eq_nil_of_le (by simp; omega)]
    refine ⟨fun q hq => ⟨rangeIt i ((m : Int) - i), by rw [List.mem_singleton.mp hq]⟩, fun A E s μ Q y h => ?_, fun k A E s μ Q c y _ h => ?_⟩
    · obtain ⟨o, e, z⟩ := y.mem (I, _) (.head _)
      exact wpAny_pyIter_rangeiter (rangeAt e z) h
    · obtain ⟨o, e, z⟩ := y.mem (I, _) (.head _)
      refine wpAny_pyNext_range_end c.han (rangeAt e z) (by omega) fun h' he' => ?_
      obtain ⟨y2, f2⟩ := y.unpin (P := [(I, .pin (rangeIt i ((m : Int) - i)))]) (tk := s.toks) (h' := h') fun b o hb' e => he' b o (fun z => hb' (z ▸ .head _)) e
      exact h _ y2 f2
  | n + 1, i, hn => by
    have hlt : i < m := by omega
    have e1 : (List.range m).drop i = i :: (List.range m).drop (i + 1) := by
      rw [List.drop_eq_getElem_cons (by simpa using hlt)]; simp
    rw [e1, List.map_cons]
    refine ⟨fun q hq => ⟨rangeIt i ((m : Int) - i), by rw [List.mem_singleton.mp hq]⟩, fun A E s μ Q y h => ?_, fun k A E s μ Q c y _ h => ?_⟩
    · obtain ⟨o, e, z⟩ := y.mem (I, _) (.head _)
      exact wpAny_pyIter_rangeiter (rangeAt e z) h
    · obtain ⟨o, e, z⟩ := y.mem (I, _) (.head _)
      refine wpAny_pyNext_range_item (rangeAt e z) (by omega) fun h' hit' hs' => ⟨_, rfl, go_name ?_⟩
      have e2 : ((i : Int) + 1, (m : Int) - i - 1) = (((i + 1 : Nat) : Int), (m : Int) - ((i + 1 : Nat) : Int)) := by
        rw [Prod.mk.injEq]; constructor <;> omega
      obtain ⟨e3, e4⟩ := Prod.mk.injEq .. ▸ e2
      rw [e3, e4] at hit'
      obtain ⟨y2, f2⟩ := y.repin (P := [(I, .pin (rangeIt i ((m : Int) - i)))]) (P' := [(I, .pin (rangeIt ((i + 1 : Nat) : Int) ((m : Int) - ((i + 1 : Nat) : Int))))]) (tk := s.toks + 1) (h' := h') rfl (fun b o hb' e => (hs'.2 b fun z => hb' (z ▸ .head _)).trans e) (PinsAt.nil.cons hit' rfl)
      exact h _ _ _ (Iter.range n (i + 1) (by omega)) rfl (.int _ _) y2 f2
theorem WpIt.range {x : Str} {p np pos : Pos} {arg : Expr} {Φ : List Dat → Mem → Prop} {mg mb : Str → Option Value} (G : hb.Ns mainGlobals mg) (B : hb.Ns builtinsNs mb) (hm : mg ("range" : Str) = none) (hv : mb ("range" : Str) = some (.type "range"))
    (h : WpE prog w hb sc k arg ρ μ (fun d μ₁ => ∃ m : Nat, d = .int m ∧ m < 1000 ∧ Φ ((List.range m).map fun (j : Nat) => Dat.int (j : Int)) μ₁)) (hk : sc.names.lookup ("range" : Str) = some .globalImplicit := by rfl)
    (he : ∀ env, starEach [arg] env = [(false, eval arg env)] := by intro _; rfl) : WpIt prog w hb sc k (.Name x p) (.Call (.Name "range" np) [arg] [] pos) ρ μ Φ := by
  refine ⟨?_⟩
  intro env A s E Q c en y hQ
  refine wpAny_Call_NameR (ev_builtin en y G B hm hv ?_ hk)
  refine PyProof.Rows.callWith_type (by rw [he]; rfl) ?_
  rw [he]
  refine Calls.evalArgs_plain (Calls.spliced_cons ((h env A s E c en y).run _ fun v d μ₁ s₁ h₁ r₁ y₁ f₁ => Calls.spliced_nil ?_))
  obtain ⟨m, rfl, hm', hΦ⟩ := h₁
  cases r₁ with
  | int _ t =>
  refine call_range_1 ?_
  have y2 := y₁.keeps (tk := s₁.toks + 1 + 1) (push_keeps (h := s₁.heap) { cls := .type "range", data := .fields #[.int 0 s₁.toks, .int m t, .int 1 (s₁.toks + 1)] })
  have f2 : Fw (dom μ₁) (dom μ₁) s₁ _ := Fw.keeps (tk := s₁.toks + 1 + 1) (push_keeps (h := s₁.heap) { cls := .type "range", data := .fields #[.int 0 s₁.toks, .int m t, .int 1 (s₁.toks + 1)] })
  refine wpAny_pyIter_range (IsRange.new _ 0 m 1 _ _ _) ?_ ?_
  · unfold Builtin.Range.small
    have e1 : Builtin.Range.rangeSize 0 (m : Int) 1 = (m : Int) := by unfold Builtin.Range.rangeSize; simp; omega
    have e2 : Builtin.Range.rangeFitsLong (m : Int) = true := by unfold Builtin.Range.rangeFitsLong; simp; omega
    have e3 : Builtin.Range.rangeFitsLong 0 = true := by decide
    have e4 : Builtin.Range.rangeFitsLong 1 = true := by decide
    simp [e1, e2, e3, e4]
  · obtain ⟨y3, f3⟩ := y2.addPins (tk := s₁.toks + 1 + 1) (P := [((s₁.heap.push { cls := .type "range", data := .fields #[.int 0 s₁.toks, .int m t, .int 1 (s₁.toks + 1)] }).objs.size, .pin (rangeIt 0 ((m : Int) - 0)))]) (push_keeps { cls := .type "range_iterator", data := .fields #[rawInt 0, rawInt (Builtin.Range.rangeSize 0 m 1), rawInt 1] }) (PinsAt.nil.cons (Heap.get?_push_size _ rfl) (by
      unfold rangeIt
      have : Builtin.Range.rangeSize 0 (m : Int) 1 = (m : Int) - 0 := by unfold Builtin.Range.rangeSize; simp; omega
      rw [this])) (fun q hq => by rw [List.mem_singleton.mp hq]; exact Nat.le_refl _) (by simp)
    refine hQ _ _ _ [] μ₁ _ hΦ ?_ y3 (fun q hq => nomatch hq) ((f₁.trans f2).trans f3)
    simpa using Iter.range (prog := prog) (w := w) (hb := hb) (x := x) (p := p) (I := (s₁.heap.push { cls := .type "range", data := .fields #[.int 0 s₁.toks, .int m t, .int 1 (s₁.toks + 1)] }).objs.size) (m := m) m 0 (by omega)
end
end Mine

end

noncomputable section
namespace Mine

noncomputable def enumIt (it : Addr) (i : Int) (o : Obj) : Prop := ∃ old, o = { cls := .type "enumerate", dict := none, data := .fields #[.none, .bool false, .ref it, rawInt i, .none, old], slots := #[] }
noncomputable def enumPins (e it l : Addr) (i : Nat) : Mem := [(e, .pin (enumIt it i)), (it, .pin (listIt l i))]
noncomputable def enumItem (p : Dat × Nat) : Dat := .tuple [.int (p.2 : Int), p.1]

section
variable {prog : Program} {w : World} {hb : Heap} {sc : Sh} {k : Nat} {ρ : Ren} {μ : Mem}

theorem enum_facts {e it l : Addr} {i : Nat} {s : Shared} (y : Ok hb (enumPins e it l i ++ μ) s) : (∃ old, IsEnum s.heap e it i old) ∧ s.heap.IsListIter it l i ∧ e ≠ it := by
  obtain ⟨o, e1, old, rfl⟩ := y.mem (e, _) (.head _)
  refine ⟨⟨old, e1⟩, y.mem (it, _) (.tail _ (.head _)), fun z => ?_⟩
  have := y.nodup
  simp only [enumPins, dom, MO.more, List.nil_append, List.cons_append] at this
  exact (List.nodup_cons.mp this).1 (z ▸ .head _)

theorem Iter.enum {es : List Expr} {nn : Nat} {pp : Pos} {l e it : Addr} {ds : List Dat} : ∀ (n i : Nat), n + i = ds.length → Iter prog w hb [(.ref l, .list ds)] (.Tuple es nn pp) e (((ds.drop i).zipIdx i).map enumItem) (enumPins e it l i)
  | 0, i, hn => by
    rw [List.drop_eq_nil_of_le (by omega)]
    refine ⟨fun p hp => ?_, fun A E s μ Q y h => ?_, fun k A E s μ Q c y hs h => ?_⟩
    · rcases List.mem_cons.mp hp with rfl | hp
      · exact ⟨_, rfl⟩
      · rw [List.mem_singleton.mp hp]; exact ⟨_, rfl⟩
    · obtain ⟨⟨old, he⟩, _⟩ := enum_facts y
      exact wpAny_pyIter_enum he h
    · obtain ⟨⟨old, he⟩, hit, hne⟩ := enum_facts y
      have r := hs _ (.head _)
      cases r with
      | list h1 hl q =>
        refine wpAny_pyNext_enum_end c.han he hit hl (by simp [q.length]; omega) fun h' he' => ?_
        obtain ⟨y2, f2⟩ := y.unpin (P := enumPins e it l i) (tk := s.toks) (h' := h') fun b o hb' z => he' b o (fun q => hb' (q ▸ .tail _ (.head _))) z
        exact h _ y2 f2
  | n + 1, i, hn => by
    have hlt : i < ds.length := by omega
    rw [List.drop_eq_getElem_cons hlt, List.zipIdx_cons, List.map_cons]
    refine ⟨fun p hp => ?_, fun A E s μ Q y h => ?_, fun k A E s μ Q c y hs h => ?_⟩
    · rcases List.mem_cons.mp hp with rfl | hp
      · exact ⟨_, rfl⟩
      · rw [List.mem_singleton.mp hp]; exact ⟨_, rfl⟩
    · obtain ⟨⟨old, he⟩, _⟩ := enum_facts y
      exact wpAny_pyIter_enum he h
    · obtain ⟨⟨old, he⟩, hit, hne⟩ := enum_facts y
      have r := hs _ (.head _)
      cases r with
      | list h1 hl q =>
        rename_i vs
        obtain ⟨v, hv, rv⟩ := q.get i (List.getElem?_eq_getElem hlt)
        refine wpAny_pyNext_enum_item he hit hl (by simpa using hv) hne fun h' ho hit' hT hsz hk => ⟨_, rfl, ?_⟩
        refine wpAny_letOwnedTupleGo_enum ho fun h'' he'' hs'' => ?_
        have hTe : s.heap.objs.size ≠ e := Nat.ne_of_gt (Heap.lt_size he)
        obtain ⟨y2, f2⟩ := y.repin (P := enumPins e it l i) (P' := enumPins e it l (i + 1)) (tk := s.toks + 1) (h' := h'') rfl (fun b o hb' z => (hs''.2 b fun q => hb' (q ▸ .head _)).trans (hk b o (fun q => hb' (q ▸ .head _)) (fun q => hb' (q ▸ .tail _ (.head _))) z))
          (PinsAt.cons (PinsAt.nil.cons (o := (hit'.choose)) ((hs''.2 it hne.symm).trans hit'.choose_spec.1) hit'.choose_spec.2) (by simpa using he'') ⟨_, rfl⟩)
        refine h _ _ _ (Iter.enum n (i + 1) (by omega)) rfl ?_ y2 f2
        refine .tuple (fun hm => ?_) ⟨_, (hs''.2 _ hTe).trans hT, rfl, _, rfl⟩ (.cons (.int _ _) (.cons (rv.step f2) .nil))
        have hm' : s.heap.objs.size ∈ dom (enumPins e it l i ++ μ) := hm
        exact absurd (dom_lt y hm') (Nat.lt_irrefl _)

theorem WpIt.enum {es : List Expr} {nn : Nat} {pp np pos : Pos} {arg : Expr} {Φ : List Dat → Mem → Prop} {mg mb : Str → Option Value} (G : hb.Ns mainGlobals mg) (B : hb.Ns builtinsNs mb) (hm : mg ("enumerate" : Str) = none) (hv : mb ("enumerate" : Str) = some (.type "enumerate"))
    (h : WpE prog w hb sc k arg ρ μ (fun d μ₁ => ∃ ds, d = .list ds ∧ Φ (ds.zipIdx.map enumItem) μ₁)) (hk : sc.names.lookup ("enumerate" : Str) = some .globalImplicit := by rfl)
    (he : ∀ env, starEach [arg] env = [(false, eval arg env)] := by intro _; rfl) : WpIt prog w hb sc k (.Tuple es nn pp) (.Call (.Name "enumerate" np) [arg] [] pos) ρ μ Φ := by
  refine ⟨?_⟩
  intro env A s E Q c en y hQ
  refine wpAny_Call_NameR (ev_builtin en y G B hm hv ?_ hk)
  refine PyProof.Rows.callWith_type (by rw [he]; rfl) ?_
  rw [he]
  refine Calls.evalArgs_plain (Calls.spliced_cons ((h env A s E c en y).run _ fun v d μ₁ s₁ h₁ r₁ y₁ f₁ => Calls.spliced_nil ?_))
  obtain ⟨ds, rfl, hΦ⟩ := h₁
  have r₁' := r₁
  cases r₁ with
  | list h1 hl q =>
  rename_i l vs
  refine call_enumerate_list hl fun h' he' hit' hsz hk' => wpAny_pyIter_enum he' ?_
  obtain ⟨y2, f2⟩ := y₁.addPins (tk := s₁.toks) (P := enumPins (s₁.heap.objs.size + 1) s₁.heap.objs.size l 0) hk' (PinsAt.cons (PinsAt.nil.cons hit'.choose_spec.1 hit'.choose_spec.2) he' ⟨_, rfl⟩)
    (fun p hp => by
      rcases List.mem_cons.mp hp with rfl | hp
      · exact Nat.le_succ _
      · rw [List.mem_singleton.mp hp]; exact Nat.le_refl _) (by simp [enumPins])
  refine hQ _ _ _ [(.ref l, .list ds)] μ₁ _ hΦ ?_ y2 (fun p hp => ?_) (f₁.trans f2)
  · simpa using Iter.enum (prog := prog) (w := w) (hb := hb) (es := es) (nn := nn) (pp := pp) (l := l) (e := s₁.heap.objs.size + 1) (it := s₁.heap.objs.size) (ds := ds) ds.length 0 (by omega)
  · rw [List.mem_singleton.mp hp]
    exact r₁'.step f2

noncomputable def zipIt (TI TO : Addr) (o : Obj) : Prop := o = { cls := .type "zip", dict := none, data := .fields #[.none, .bool false, .bool false, .ref TI, .ref TO], slots := #[] }
noncomputable def pairIs (a b : Value) (o : Obj) : Prop := o = { cls := .type "tuple", data := .seq #[a, b] }
noncomputable def pairAny (o : Obj) : Prop := ∃ a b, o = { cls := .type "tuple", data := .seq #[a, b] }
noncomputable def zipPins (z TI TO i1 i2 l1 l2 : Addr) (i : Nat) : Mem := [(z, .pin (zipIt TI TO)), (TI, .pin (pairIs (.ref i1) (.ref i2))), (TO, .pin pairAny), (i1, .pin (listIt l1 i)), (i2, .pin (listIt l2 i))]
theorem zipPins_all {z TI TO i1 i2 l1 l2 : Addr} {i : Nat} : AllPin (zipPins z TI TO i1 i2 l1 l2 i) := by
  intro p hp
  simp only [zipPins, List.mem_cons, List.not_mem_nil, or_false] at hp
  rcases hp with rfl | rfl | rfl | rfl | rfl <;> exact ⟨_, rfl⟩
theorem zip_facts {z TI TO i1 i2 l1 l2 : Addr} {i : Nat} {s : Shared} {xs ys : Array Value} (y : Ok hb (zipPins z TI TO i1 i2 l1 l2 i ++ μ) s) (h1 : l1 ∉ dom (zipPins z TI TO i1 i2 l1 l2 i ++ μ)) (h2 : l2 ∉ dom (zipPins z TI TO i1 i2 l1 l2 i ++ μ)) :
    ZipApart z TI TO i1 i2 l1 l2 ∧ IsZip s.heap z TI TO .none ∧ IsPair s.heap TI (.ref i1) (.ref i2) ∧ (∃ a b, IsPair s.heap TO a b) ∧ s.heap.IsListIter i1 l1 i ∧ s.heap.IsListIter i2 l2 i := by
  obtain ⟨oz, ez, rz⟩ := y.mem (z, _) (.head _)
  obtain ⟨oI, eI, rI⟩ := y.mem (TI, _) (.tail _ (.head _))
  obtain ⟨oO, eO, a, b, rO⟩ := y.mem (TO, _) (.tail _ (.tail _ (.head _)))
  have e1 := y.mem (i1, _) (.tail _ (.tail _ (.tail _ (.head _))))
  have e2 := y.mem (i2, _) (.tail _ (.tail _ (.tail _ (.tail _ (.head _)))))
  unfold zipIt at rz; unfold pairIs at rI
  subst rz; subst rI; subst rO
  have nd := y.nodup
  simp only [zipPins, dom, MO.more, List.nil_append, List.cons_append, List.nodup_cons, List.mem_cons, not_or] at nd h1 h2
  exact ⟨⟨fun q => nd.1.1 q.symm, fun q => nd.1.2.1 q.symm, fun q => nd.1.2.2.1 q.symm, fun q => nd.1.2.2.2.1 q.symm, nd.2.1.1, nd.2.1.2.1, nd.2.1.2.2.1, nd.2.2.1.1, nd.2.2.1.2.1, nd.2.2.2.1.1, h1.1, h1.2.2.1, h1.2.2.2.1, h1.2.2.2.2.1, h2.1, h2.2.2.1, h2.2.2.2.1, h2.2.2.2.2.1⟩, ez, eI, ⟨a, b, eO⟩, e1, e2⟩
noncomputable def pairItem (a b : Dat) : Dat := .tuple [a, b]
theorem Iter.zip {es : List Expr} {nn : Nat} {pp : Pos} {z TI TO i1 i2 l1 l2 : Addr} {ds es' : List Dat} (hlen : ds.length = es'.length) : ∀ (n i : Nat), n + i = ds.length → Iter prog w hb [(.ref l1, .list ds), (.ref l2, .list es')] (.Tuple es nn pp) z (List.zipWith pairItem (ds.drop i) (es'.drop i)) (zipPins z TI TO i1 i2 l1 l2 i)
  | 0, i, hn => by
    rw [List.drop_eq_nil_of_le (by omega)]
    refine ⟨zipPins_all, fun A E s μ Q y h => ?_, fun k A E s μ Q c y hs h => ?_⟩
    · obtain ⟨oz, ez, rz⟩ := y.mem (z, _) (.head _)
      unfold zipIt at rz; subst rz
      exact wpAny_pyIter_zip ez h
    · have r1 := hs _ (.head _)
      have r2 := hs _ (.tail _ (.head _))
      cases r1 with
      | list h1 hl1 q1 =>
      cases r2 with
      | list h2 hl2 q2 =>
      obtain ⟨D, hz, hTI, ⟨a, b, hTO⟩, hi1, hi2⟩ := zip_facts (xs := #[]) (ys := #[]) y h1 h2
      refine wpAny_pyNext_zip_end c.han D hz hTI hTO hi1 hi2 hl1 hl2 (.inl (by simp [q1.length]; omega)) fun h' he' => ?_
      obtain ⟨y2, f2⟩ := y.unpin (P := zipPins z TI TO i1 i2 l1 l2 i) (tk := s.toks) (h' := h') fun b o hb' zz => he' b o (fun q => hb' (q ▸ .head _)) (fun q => hb' (q ▸ .tail _ (.tail _ (.head _)))) (fun q => hb' (q ▸ .tail _ (.tail _ (.tail _ (.head _))))) (fun q => hb' (q ▸ .tail _ (.tail _ (.tail _ (.tail _ (.head _)))))) zz
      exact h _ y2 f2
  | n + 1, i, hn => by
    have hlt : i < ds.length := by omega
    have hlt2 : i < es'.length := by omega
    rw [List.drop_eq_getElem_cons hlt, List.drop_eq_getElem_cons hlt2, List.zipWith_cons_cons]
    refine ⟨zipPins_all, fun A E s μ Q y h => ?_, fun k A E s μ Q c y hs h => ?_⟩
    · obtain ⟨oz, ez, rz⟩ := y.mem (z, _) (.head _)
      unfold zipIt at rz; subst rz
      exact wpAny_pyIter_zip ez h
    · have r1 := hs _ (.head _)
      have r2 := hs _ (.tail _ (.head _))
      cases r1 with
      | list h1 hl1 q1 =>
      cases r2 with
      | list h2 hl2 q2 =>
      rename_i vs ws
      obtain ⟨D, hz, hTI, ⟨a, b, hTO⟩, hi1, hi2⟩ := zip_facts (xs := #[]) (ys := #[]) y h1 h2
      obtain ⟨v, hv, rv⟩ := q1.get i (List.getElem?_eq_getElem hlt)
      obtain ⟨u, hu, ru⟩ := q2.get i (List.getElem?_eq_getElem hlt2)
      refine wpAny_pyNext_zip_item D hz hTI hTO hi1 hi2 hl1 hl2 (by simpa using hv) (by simpa using hu) fun h' hz' hTO' hi1' hi2' hT hsz hk => ⟨_, rfl, ?_⟩
      refine wpAny_letOwnedTupleGo_zip hz' fun h'' hz'' hs'' => ?_
      have hTz : s.heap.objs.size ≠ z := Nat.ne_of_gt (Heap.lt_size hz)
      have hTI' : IsPair h'' TI (.ref i1) (.ref i2) := (hs''.2 TI D.TIz).trans (hk TI _ D.TIz D.TITO D.TIi1 D.TIi2 hTI)
      obtain ⟨y2, f2⟩ := y.repin (P := zipPins z TI TO i1 i2 l1 l2 i) (P' := zipPins z TI TO i1 i2 l1 l2 (i + 1)) (tk := s.toks) (h' := h'') rfl
        (fun b o hb' zz => (hs''.2 b fun q => hb' (q ▸ .head _)).trans (hk b o (fun q => hb' (q ▸ .head _)) (fun q => hb' (q ▸ .tail _ (.tail _ (.head _)))) (fun q => hb' (q ▸ .tail _ (.tail _ (.tail _ (.head _))))) (fun q => hb' (q ▸ .tail _ (.tail _ (.tail _ (.tail _ (.head _)))))) zz))
        (PinsAt.cons (PinsAt.cons (PinsAt.cons (PinsAt.cons (PinsAt.nil.cons (o := hi2'.choose) ((hs''.2 i2 D.i2z).trans hi2'.choose_spec.1) hi2'.choose_spec.2) (o := hi1'.choose) ((hs''.2 i1 D.i1z).trans hi1'.choose_spec.1) hi1'.choose_spec.2) ((hs''.2 TO D.TOz).trans hTO') ⟨_, _, rfl⟩) hTI' rfl) hz'' rfl)
      refine h _ _ _ (Iter.zip hlen n (i + 1) (by omega)) rfl ?_ y2 f2
      refine .tuple (fun hm => ?_) ⟨_, (hs''.2 _ hTz).trans hT, rfl, _, rfl⟩ (.cons (rv.step f2) (.cons (ru.step f2) .nil))
      have hm' : s.heap.objs.size ∈ dom (zipPins z TI TO i1 i2 l1 l2 i ++ μ) := hm
      exact absurd (dom_lt y hm') (Nat.lt_irrefl _)
theorem WpIt.zip {es : List Expr} {nn : Nat} {pp np pos : Pos} {a b : Expr} {Φ : List Dat → Mem → Prop} {mg mb : Str → Option Value} (G : hb.Ns mainGlobals mg) (B : hb.Ns builtinsNs mb) (hm : mg ("zip" : Str) = none) (hv : mb ("zip" : Str) = some (.type "zip"))
    (h : WpA prog w hb sc k [a, b] pos ρ μ (fun dd μ₁ => ∃ ds es', dd = [.list ds, .list es'] ∧ ds.length = es'.length ∧ Φ (List.zipWith pairItem ds es') μ₁)) (hk : sc.names.lookup ("zip" : Str) = some .globalImplicit := by rfl)
    (he : ∀ env, starEach [a, b] env = [(false, eval a env), (false, eval b env)] := by intro _; rfl) : WpIt prog w hb sc k (.Tuple es nn pp) (.Call (.Name "zip" np) [a, b] [] pos) ρ μ Φ := by
  refine ⟨?_⟩
  intro env A s E Q c en y hQ
  refine wpAny_Call_NameR (ev_builtin en y G B hm hv ?_ hk)
  refine PyProof.Rows.callWith_type (by rw [he]; rfl) ?_
  have key := h env A s E c en y
  rw [he] at key ⊢
  refine Calls.evalArgs_plain (key.run _ fun vv dd μ₁ s₁ h₁ r₁ y₁ f₁ => ?_)
  obtain ⟨ds, es', rfl, hlen, hΦ⟩ := h₁
  cases r₁ with
  | cons ra r₁ =>
  cases r₁ with
  | cons rb r₁ =>
  cases r₁
  have ra' := ra
  have rb' := rb
  cases ra with
  | list h1 hl1 q1 =>
  cases rb with
  | list h2 hl2 q2 =>
  rename_i l1 vs l2 ws
  refine call_zip_2 hl1 hl2 fun h' hz' hTI' hTO' hi1' hi2' hsz hk' => wpAny_pyIter_zip hz' ?_
  obtain ⟨y2, f2⟩ := y₁.addPins (tk := s₁.toks) (P := zipPins (s₁.heap.objs.size + 4) (s₁.heap.objs.size + 2) (s₁.heap.objs.size + 3) s₁.heap.objs.size (s₁.heap.objs.size + 1) l1 l2 0) hk'
    (PinsAt.cons (PinsAt.cons (PinsAt.cons (PinsAt.cons (PinsAt.nil.cons hi2'.choose_spec.1 hi2'.choose_spec.2) hi1'.choose_spec.1 hi1'.choose_spec.2) hTO' ⟨_, _, rfl⟩) hTI' rfl) hz' rfl)
    (fun p hp => by
      simp only [zipPins, List.mem_cons, List.not_mem_nil, or_false] at hp
      rcases hp with rfl | rfl | rfl | rfl | rfl <;> simp) (by simp [zipPins])
  refine hQ _ _ _ [(.ref l1, .list ds), (.ref l2, .list es')] μ₁ _ hΦ ?_ y2 (fun p hp => ?_) (f₁.trans f2)
  · simpa using Iter.zip (prog := prog) (w := w) (hb := hb) (es := es) (nn := nn) (pp := pp) (z := s₁.heap.objs.size + 4) (TI := s₁.heap.objs.size + 2) (TO := s₁.heap.objs.size + 3) (i1 := s₁.heap.objs.size) (i2 := s₁.heap.objs.size + 1) (l1 := l1) (l2 := l2) hlen ds.length 0 (by omega)
  · rcases List.mem_cons.mp hp with rfl | hp
    · exact ra'.step f2
    · rw [List.mem_singleton.mp hp]; exact rb'.step f2
end
end Mine

end

noncomputable section
namespace Mine

noncomputable def bindTs : List Expr → List Dat → Option Ren
  | [], [] => some []
  | .Name x _ :: es, d :: ds => (bindTs es ds).map (· ++ [(x, d)])
  | _, _ => none
/-- what a target of names binds: the last one first -/
noncomputable def bindT : Expr → Dat → Option Ren
  | .Name x _, d => some [(x, d)]
  | .Tuple es _ _, .tuple ds => bindTs es ds
  | _, _ => none

section
variable {prog : Program} {w : World} {hb : Heap} {sc : Sh} {k : Nat} {μ : Mem} {A : Around} {E : Value → Shared → Prop}

theorem bindTs_cons {x : Expr} {es : List Expr} {d : Dat} {ds : List Dat} {ρ₁ : Ren} (e : bindTs (x :: es) (d :: ds) = some ρ₁) : ∃ n p ρ₂, x = .Name n p ∧ bindTs es ds = some ρ₂ ∧ ρ₁ = ρ₂ ++ [(n, d)] := by
  cases x with
  | Name n p =>
    have e' : (bindTs es ds).map (· ++ [(n, d)]) = some ρ₁ := e
    obtain ⟨ρ₂, e2, e3⟩ := Option.map_eq_some_iff.mp e'
    exact ⟨n, p, ρ₂, rfl, e2, e3.symm⟩
  | _ => cases e
theorem bindTs_len : ∀ (es : List Expr) (ds : List Dat) (ρ₁ : Ren), bindTs es ds = some ρ₁ → es.length = ds.length := by
  intro es
  induction es with
  | nil => intro ds ρ₁ e; cases ds with
    | nil => rfl
    | cons d ds => cases e
  | cons x es ih => intro ds ρ₁ e; cases ds with
    | nil => cases x <;> cases e
    | cons d ds =>
      obtain ⟨_, _, ρ₂, _, e2, _⟩ := bindTs_cons e
      rw [List.length_cons, List.length_cons, ih ds ρ₂ e2]
theorem assignTs {env : Env} (es : List Expr) : ∀ (ds : List Dat) (vs : List Value) (ρ ρ₁ : Ren) (s : Shared) (Q : Unit → Shared → Prop), bindTs es ds = some ρ₁ → (∀ p ∈ ρ₁, sc.names.lookup p.1 = some .local) →
    EnvOk hb sc env ρ (dom μ) s.heap → Ok hb μ s → RdA (dom μ) s.heap vs ds →
    (∀ h' tk, EnvOk hb sc env (ρ₁ ++ ρ) (dom μ) h' → Ok hb μ { s with heap := h', toks := tk } → (∀ b o, b ≠ env.locals → s.heap.get? b = some o → h'.get? b = some o) → Q () { s with heap := h', toks := tk }) →
    wpAny (model prog w) A (assignInOrder ((assignEach es env).map (·.2)) vs) Q E s := by
  induction es with
  | nil =>
    intro ds vs ρ ρ₁ s Q e hl en y r h
    cases ds with
    | cons d ds => cases e
    | nil =>
      cases e
      cases r
      exact wpAny_assignInOrder_none (h s.heap s.toks en y fun _ _ _ z => z)
  | cons x es ih =>
    intro ds vs ρ ρ₁ s Q e hl en y r h
    cases r with
    | nil => cases x <;> cases e
    | cons rv rs =>
      rename_i v vs d ds
      obtain ⟨n, p, ρ₂, rfl, e2, rfl⟩ := bindTs_cons e
      show wpAny (model prog w) A (assignInOrder (assign (.Name n p) env :: (assignEach es env).map (·.2)) (v :: vs)) Q E s
      refine wpAny_assignInOrder_more (wpAny_assign_Name (storeL en y rv (hl (n, d) (List.mem_append_right _ (.head _))) fun h₁ tk₁ en₁ y₁ hs₁ sk₁ => ?_))
      refine ih ds vs ((n, d) :: ρ) ρ₂ _ Q e2 (fun p hp => hl p (List.mem_append_left _ hp)) en₁ y₁ (rs.seq sk₁) fun h' tk en' y' hk' => ?_
      exact h h' tk (by simpa using en') y' fun b o hb' z => hk' b o hb' ((hs₁.2 b hb').trans z)

theorem assignT {env : Env} {tgt : Expr} {d : Dat} {v : Value} {ρ ρ₁ : Ren} {s : Shared} {Q : Unit → Shared → Prop} (hh : A.handled = none) (e : bindT tgt d = some ρ₁) (hl : ∀ p ∈ ρ₁, sc.names.lookup p.1 = some .local)
    (hs : ∀ es n p, tgt = .Tuple es n p → ((assignEach es env).findIdx? (·.1) = none ∧ (assignEach es env).length = es.length))
    (en : EnvOk hb sc env ρ (dom μ) s.heap) (y : Ok hb μ s) (r : Rd (dom μ) s.heap v d)
    (h : ∀ h' tk, EnvOk hb sc env (ρ₁ ++ ρ) (dom μ) h' → Ok hb μ { s with heap := h', toks := tk } → (∀ b o, b ≠ env.locals → s.heap.get? b = some o → h'.get? b = some o) → Q () { s with heap := h', toks := tk }) :
    wpAny (model prog w) A (assign tgt env v) Q E s := by
  cases tgt with
  | Name x p =>
    cases e
    exact wpAny_assign_Name (storeL en y r (hl (x, d) (.head _)) fun h₁ tk₁ en₁ y₁ hs₁ sk₁ => h h₁ tk₁ en₁ y₁ fun b o hb' z => (hs₁.2 b hb').trans z)
  | Tuple es n p =>
    cases r with
    | tuple h1 ht q =>
      rename_i a vs ds
      obtain ⟨h2, h3⟩ := hs es n p rfl
      have e' : bindTs es ds = some ρ₁ := e
      have hlen : es.length = ds.length := bindTs_len es ds ρ₁ e'
      refine wpAny_assign_Tuple hh ht (by simp [h3, hlen, q.length]) h2 fun h₁ hx => ?_
      have kp : ∀ b o, s.heap.get? b = some o → h₁.get? b = some o := fun b o z => hx b o (Nat.ne_of_lt (Heap.lt_size z)) z
      have f : Fw (dom μ) (dom μ) s { s with heap := h₁ } := Fw.keeps (tk := s.toks) kp
      exact assignTs es ds vs ρ ρ₁ _ Q e' hl (en.step f) (y.keeps (tk := s.toks) kp) (q.step f) fun h' tk en' y' hk' => h h' tk en' y' fun b o hb' z => hk' b o hb' (kp b o z)
    | _ => cases e
  | _ => cases e
end
end Mine

end

noncomputable section
namespace Mine

mutual
theorem Rd.lessS {X Y : List Addr} {h : Heap} (k : ∀ b o xs n, b ∉ X → o.data = .seq xs n → h.get? b = some o → b ∉ Y) : ∀ {v d}, Rd X h v d → Rd Y h v d
  | _, _, .none => .none
  | _, _, .bool b => .bool b
  | _, _, .int i t => .int i t
  | _, _, .str x t => .str x t
  | _, _, .tuple ha ⟨o, ho, hc, n, hd⟩ r => .tuple (k _ _ _ _ ha hd ho) ⟨o, ho, hc, n, hd⟩ (RdA.lessS k r)
  | _, _, .list ha ⟨o, ho, hc, n, hd⟩ r => .list (k _ _ _ _ ha hd ho) ⟨o, ho, hc, n, hd⟩ (RdA.lessS k r)
  | _, _, .obj a => .obj a
theorem RdA.lessS {X Y : List Addr} {h : Heap} (k : ∀ b o xs n, b ∉ X → o.data = .seq xs n → h.get? b = some o → b ∉ Y) : ∀ {vs ds}, RdA X h vs ds → RdA Y h vs ds
  | _, _, .nil => .nil
  | _, _, .cons h r => .cons (Rd.lessS k h) (RdA.lessS k r)
end
theorem Rd.sub {X Y : List Addr} {h : Heap} {v : Value} {d : Dat} (r : Rd X h v d) (k : ∀ b, b ∈ Y → b ∈ X) : Rd Y h v d := r.less fun b _ hb' _ hm => hb' (k b hm)
theorem RdA.sub {X Y : List Addr} {h : Heap} {v : List Value} {d : List Dat} (r : RdA X h v d) (k : ∀ b, b ∈ Y → b ∈ X) : RdA Y h v d := r.less fun b _ hb' _ hm => hb' (k b hm)

section
variable {hb : Heap} {sc : Sh} {env : Env} {ρ : Ren} {X X' : List Addr} {s s' : Shared}
theorem EnvOk.notSeq {h : Heap} (en : EnvOk hb sc env ρ X h) : ∀ o xs n, h.get? env.locals = some o → o.data ≠ .seq xs n := by
  obtain ⟨m, ⟨o, es, ep, ho, hd, _⟩, _⟩ := en.vars
  intro o' xs nn ho' hd'
  rw [ho] at ho'; cases ho'; rw [hd] at hd'; cases hd'
theorem Rd.stepL {v : Value} {d : Dat} (en : EnvOk hb sc env ρ X s.heap) (f : Fw (env.locals :: X) (env.locals :: X') s s') (r : Rd X s.heap v d) : Rd X' s'.heap v d := by
  have r1 : Rd (env.locals :: X) s.heap v d := r.lessS fun b o xs n hb' hd e hm => by
    rcases List.mem_cons.mp hm with q | hm
    · subst q; exact en.notSeq o xs n e hd
    · exact hb' hm
  exact (r1.step f).sub fun b hm => .tail _ hm
theorem RdA.stepL {v : List Value} {d : List Dat} (en : EnvOk hb sc env ρ X s.heap) (f : Fw (env.locals :: X) (env.locals :: X') s s') (r : RdA X s.heap v d) : RdA X' s'.heap v d := by
  have r1 : RdA (env.locals :: X) s.heap v d := r.lessS fun b o xs n hb' hd e hm => by
    rcases List.mem_cons.mp hm with q | hm
    · subst q; exact en.notSeq o xs n e hd
    · exact hb' hm
  exact (r1.step f).sub fun b hm => .tail _ hm
theorem EnvOk.sub {h : Heap} {Y : List Addr} (en : EnvOk hb sc env ρ X h) (k : ∀ b, b ∈ Y → b ∈ X) : EnvOk hb sc env ρ Y h := by
  obtain ⟨m, n, hv⟩ := en.vars
  refine ⟨en.scope, en.kind, en.code, en.glob, en.bi, fun q => en.locX (k _ q), en.locB, fun x c h1 h2 => ?_, en.apart, en.has, m, n, fun x d hx => ?_⟩
  · obtain ⟨a1, a2⟩ := en.cells x c h1 h2
    exact ⟨fun q => a1 (k _ q), a2⟩
  · rcases hv x d hx with ⟨h1, v, h2, h3⟩ | ⟨h1, c, v, h2, h3, h4, h5, h6⟩
    · exact .inl ⟨h1, v, h2, h3.sub k⟩
    · exact .inr ⟨h1, c, v, h2, fun q => h3 (k _ q), h4, h5, h6.sub k⟩
end

theorem dom_flat : ∀ μ : Mem, dom μ = μ.flatMap fun p => p.1 :: p.2.more
  | [] => rfl
  | (a, o) :: r => by rw [List.flatMap_cons, ← dom_flat r]; rfl
theorem dom_perm {μ μ' : Mem} (h : μ.Perm μ') : (dom μ).Perm (dom μ') := by rw [dom_flat, dom_flat]; exact h.flatMap_right _
theorem Ok.perm {hb : Heap} {μ μ' : Mem} {s : Shared} (h : μ.Perm μ') (y : Ok hb μ s) : Ok hb μ' s := by
  have hd := dom_perm h
  exact ⟨y.base, fun a ha => y.off a (hd.mem_iff.mpr ha), fun p hp => (y.mem p (h.mem_iff.mpr hp)).less fun b _ hb' _ hm => hb' (hd.mem_iff.mpr hm), hd.nodup_iff.mp y.nodup, y.bare, fun c ps a ha => y.codes c ps a (h.mem_iff.mpr ha)⟩
theorem Fw.permR {X : List Addr} {μ μ' : Mem} {s s' : Shared} (h : μ.Perm μ') (f : Fw X (Mine.dom μ) s s') : Fw X (Mine.dom μ') s s' := ⟨f.keep, fun a ha => f.dom a ((dom_perm h).mem_iff.mpr ha), f.os, f.gens⟩
theorem Fw.sets {X X' Y Y' : List Addr} {s s' : Shared} (f : Fw X X' s s') (h1 : ∀ b, b ∈ X → b ∈ Y) (h2 : ∀ b, b ∈ Y' → b ∈ X' ∨ b ∈ Y) : Fw Y Y' s s' :=
  ⟨fun b o hb' e => f.keep b o (fun q => hb' (h1 b q)) e, fun a ha => (h2 a ha).elim (fun q => (f.dom a q).imp (h1 a) id) .inl, f.os, f.gens⟩

section
variable (prog : Program) (w : World) (hb : Heap)
noncomputable def WpIfs (sc : Sh) (k : Nat) (ifs : List Expr) (ρ : Ren) (μ : Mem) (Ψ : Bool → Mem → Prop) : Prop :=
  match ifs with
  | [] => Ψ true μ
  | [c] => ∀ P, Off P μ → WpB prog w hb sc k c ρ (P ++ μ) (fun b μ2 => ∃ μ', μ2 = P ++ μ' ∧ Ψ b μ')
  | _ => False
noncomputable abbrev AccP := List Dat → Mem → Prop
/-- the turns of a clause, one a datum -/
noncomputable def loopW (inner : Ren → List Dat → Mem → AccP → Prop) (sc : Sh) (k : Nat) (tgt : Expr) (ifs : List Expr) (ρ : Ren) : List Dat → List Dat → Mem → AccP → Prop
  | [], acc, μ, Φ => Φ acc μ
  | d :: ds, acc, μ, Φ => ∃ ρ₁, bindT tgt d = some ρ₁ ∧ (∀ p ∈ ρ₁, sc.names.lookup p.1 = some .local ∧ ρ.lookup p.1 = none) ∧
      WpIfs prog w hb sc k ifs (ρ₁ ++ ρ) μ (fun b μ₁ => if b then inner (ρ₁ ++ ρ) acc μ₁ (fun acc' μ' => loopW inner sc k tgt ifs ρ ds acc' μ' Φ) else loopW inner sc k tgt ifs ρ ds acc μ₁ Φ)
/-- the clauses behind the first one, and the element -/
noncomputable def WpG (sc : Sh) (k : Nat) (elt : Expr) : List Comprehension → Ren → List Dat → Mem → AccP → Prop
  | [], ρ, acc, μ, Φ => ∀ P, Off P μ → WpE prog w hb sc k elt ρ (P ++ μ) (fun d μ2 => ∃ μ', μ2 = P ++ μ' ∧ acc.length ≤ sizeLine ∧ Φ (acc ++ [d]) μ')
  | g :: gs, ρ, acc, μ, Φ => ∀ P, Off P μ → WpIt prog w hb sc k g.target g.iter ρ (P ++ μ) (fun items μ2 => ∃ μ', μ2 = P ++ μ' ∧ loopW prog w hb (WpG sc k elt gs) sc k g.target g.ifs ρ items acc μ' Φ)
end

noncomputable def plainTgt : Expr → Bool
  | .Name .. => true
  | .Tuple es _ _ => es.all fun | .Name .. => true | _ => false
  | _ => false
theorem plain_each {env : Env} : ∀ (es : List Expr), (es.all fun | .Name .. => true | _ => false) = true → (assignEach es env).findIdx? (·.1) = none ∧ (assignEach es env).length = es.length := by
  intro es
  induction es with
  | nil => intro _; exact ⟨rfl, rfl⟩
  | cons x es ih =>
    intro h
    cases x with
    | Name n p =>
      obtain ⟨a, b⟩ := ih (by simpa using h)
      have e : assignEach (.Name n p :: es) env = (false, assign (.Name n p) env) :: assignEach es env := rfl
      rw [e]
      exact ⟨by rw [List.findIdx?_cons]; simp [a], by rw [List.length_cons, List.length_cons, b]⟩
    | _ => simp at h

end Mine

end

noncomputable section
namespace Mine
noncomputable def innerT (elt : Expr) (gens : List Comprehension) (scope : Scope) (pos : Pos) (depth : Nat) (acc : Value) (env : Env) : Sem Unit :=
  match gens[depth + 1]? with
  | some g' => do
    let x ← eval g'.iter env
    standAt g'.iter.pos
    let x ← foldedSetIterable g'.iter env x
    let _ ← runOwn (.compStart (.ListComp elt gens scope pos) (depth + 1) (← holding [x] (pyIter x)) acc env) env
  | none => do let _ ← call (.builtin "list.append") [acc, ← eval elt env]
theorem compTurn_at {elt : Expr} {gens : List Comprehension} {scope : Scope} {pos : Pos} {depth : Nat} {it acc : Value} {env : Env} {g : Comprehension} (hg : gens[depth]? = some g) (ha : ∀ g ∈ gens, g.is_async = 0) :
    compTurn (.ListComp elt gens scope pos) depth it acc env = (do
      standAt g.iter.pos
      match ← pyNext it with
      | none => pure (.done .next)
      | some v =>
        letOwnedTupleGo g.target it v
        assign g.target env v
        let ok ← forIn g.ifs true fun c r => if r = true then do let ok ← isTrue c env (eval c env); pure (ForInStep.yield ok) else pure (ForInStep.yield r)
        if ok = true then innerT elt gens scope pos depth acc env
        again (.compLoop (.ListComp elt gens scope pos) depth it acc env)) := by
  have h0 : g.is_async = 0 := ha g (List.mem_of_getElem? hg)
  unfold compTurn
  simp only [hg, h0]
  simp only [bne_self_eq_false, Bool.false_eq_true, if_false]
  congr 1
  funext _
  congr 1
  funext r
  cases r with
  | none => rfl
  | some v =>
    show (letOwnedTupleGo g.target it v >>= _) = (letOwnedTupleGo g.target it v >>= _)
    congr 1
    funext _
    congr 1
    funext _
    congr 1
    funext ok
    cases ok with
    | false => rfl
    | true =>
      simp only [if_true, innerT]
      cases hq : gens[depth + 1]? with
      | none => rfl
      | some g' =>
        have h1 : g'.is_async = 0 := ha g' (List.mem_of_getElem? hq)
        simp only [h1, bne_self_eq_false, Bool.false_eq_true, if_false, bind_assoc, pure_bind]

section
variable {prog : Program} {w : World} {hb : Heap} {sc : Sh} {k : Nat} {elt : Expr} {gens : List Comprehension} {scope : Scope} {pos : Pos}

theorem comp_start {R' : Result → Shared → Prop} {A : Around} {s : Shared} {depth : Nat} {it acc : Value} {env : Env} {g : Comprehension} (hg : gens[depth]? = some g) (ha : g.is_async = 0)
    (h0 : codeAny (model prog w) A (.compLoop (.ListComp elt gens scope pos) depth it acc env) R' s)
    (h : wpAny (model prog w) A (pyIter it) (fun it' s' => codeAny (model prog w) A (.compLoop (.ListComp elt gens scope pos) depth it' acc env) R' s') (notedBy (model prog w) A env fun x s' => R' (.error x) s') s) :
    codeAny (model prog w) A (.compStart (.ListComp elt gens scope pos) depth it acc env) R' s := by
  refine codeAny_of_tree ?_
  show wpAny _ _ ((compStart (.ListComp elt gens scope pos) depth it acc env).onRaise (fun x => do noteFrame x env; standAt theWindowsPlace)) _ _ s
  refine wpAny_notedAt ?_
  unfold compStart
  simp only [clausesOf, hg, Option.elim_some, ha, bne_self_eq_false, Bool.false_eq_true, if_false]
  refine wpAny_bind (wpAny_askSetting (wpAny_ite ?_))
  split
  · exact wpAny_pure (And.intro rfl h0)
  · exact wpAny_bind (wpAny_rule (wpAny_bind (wpAny_standAt (wpAny_bind (wpAny_mono h (fun it' s' h' => wpAny_pure (And.intro rfl h')) fun _ _ e => e)))))

noncomputable def MM (R : Mem) (D : Addr) (acc : List Dat) (μ : Mem) : Mem := R ++ (D, .lst acc) :: μ
noncomputable def InnerOk (prog : Program) (w : World) (hb : Heap) (sc : Sh) (k : Nat) (elt : Expr) (gens : List Comprehension) (scope : Scope) (pos : Pos) (gs : List Comprehension) : Prop :=
  ∀ (depth : Nat), gens.drop (depth + 1) = gs → ∀ (env : Env) (A : Around) (s : Shared) (E : Value → Shared → Prop) (R : Mem) (D : Addr) (ρ : Ren) (acc : List Dat) (μ : Mem) (Φ : AccP) (Q : Unit → Shared → Prop),
    Calm k A → EnvOk hb sc env ρ (dom (MM R D acc μ)) s.heap → Ok hb (MM R D acc μ) s → WpG prog w hb sc k elt gs ρ acc μ Φ →
    (∀ acc' μ' s', Φ acc' μ' → EnvOk hb sc env ρ (dom (MM R D acc' μ')) s'.heap → Ok hb (MM R D acc' μ') s' → Fw (env.locals :: dom (MM R D acc μ)) (env.locals :: dom (MM R D acc' μ')) s s' → Q () s') →
    wpAny (model prog w) A (innerT elt gens scope pos depth (.ref D) env) Q E s

theorem MM_split (P R : Mem) (D : Addr) (acc : List Dat) (μ : Mem) : P ++ MM R D acc μ = (P ++ (R ++ [(D, .lst acc)])) ++ μ := by simp [MM]
theorem MM_in (P R : Mem) (D : Addr) (acc : List Dat) (μ : Mem) : P ++ MM R D acc μ = MM (P ++ R) D acc μ := by simp [MM]
theorem consFw {L : Addr} {X X' : List Addr} {s s' : Shared} (f : Fw X X' s s') : Fw (L :: X) (L :: X') s s' := f.lift [L]

theorem loop_ok {gs : List Comprehension} {g : Comprehension} {depth : Nat} (hd : gens.drop depth = g :: gs) (hin : InnerOk prog w hb sc k elt gens scope pos gs) (ha : ∀ g ∈ gens, g.is_async = 0) (hp : plainTgt g.target = true) (hif : g.ifs = [] ∨ ∃ c, g.ifs = [c])
    {srcs : List (Value × Dat)} {I : Addr} {env : Env} {A : Around} {R' : Result → Shared → Prop} {R : Mem} {D : Addr} {ρ : Ren} {Φ : AccP} (c : Calm k A) :
    ∀ (items : List Dat) (P : Mem) (acc : List Dat) (μ : Mem) (s : Shared), EnvOk hb sc env ρ (dom (P ++ MM R D acc μ)) s.heap → Ok hb (P ++ MM R D acc μ) s → Iter prog w hb srcs g.target I items P →
      (∀ p ∈ srcs, Rd (dom (P ++ MM R D acc μ)) s.heap p.1 p.2) → loopW prog w hb (WpG prog w hb sc k elt gs) sc k g.target g.ifs ρ items acc μ Φ →
      (∀ acc' μ' s', Φ acc' μ' → EnvOk hb sc env ρ (dom (MM R D acc' μ')) s'.heap → Ok hb (MM R D acc' μ') s' → Fw (env.locals :: dom (P ++ MM R D acc μ)) (env.locals :: dom (MM R D acc' μ')) s s' → R' (.ok .next) s') →
      codeAny (model prog w) A (.compLoop (.ListComp elt gens scope pos) depth (.ref I) (.ref D) env) R' s := by
  have hg : gens[depth]? = some g := by
    have := congrArg (fun l => l[0]?) hd
    simpa using this
  have hd1 : gens.drop (depth + 1) = gs := by
    have h1 := congrArg (List.drop 1) hd
    rw [List.drop_drop] at h1
    simpa [Nat.add_comm] using h1
  intro items
  induction items with
  | nil =>
    intro P acc μ s en y it hs hl hR
    refine codeAny_of_tree ?_
    show wpAny _ A ((compTurn (.ListComp elt gens scope pos) depth (.ref I) (.ref D) env).onRaise (fun x => do noteFrame x env; theTreesLotGoes x)) _ _ s
    refine wpAny_noted ?_
    rw [compTurn_at hg ha]
    refine wpAny_bind (wpAny_standAt (wpAny_bind (it.2.2 k A _ s _ _ c y hs fun s' y' f' => ?_)))
    exact wpAny_pure (hR acc μ s' hl (en.step f') y' (consFw f'))
  | cons d ds ih =>
    intro P acc μ s en y it hs hl hR
    refine codeAny_of_tree ?_
    show wpAny _ A ((compTurn (.ListComp elt gens scope pos) depth (.ref I) (.ref D) env).onRaise (fun x => do noteFrame x env; theTreesLotGoes x)) _ _ s
    refine wpAny_noted ?_
    rw [compTurn_at hg ha]
    refine wpAny_bind (wpAny_standAt (wpAny_bind (wpAny_mono (it.2.2 k A (notedBy (model prog w) A env fun e s' => R' (.error e) s') s (MM R D acc μ) (fun v s' => wpAny (model prog w) A (do
        assign g.target env v
        let ok ← forIn g.ifs true fun c r => if r = true then do let ok ← isTrue c env (eval c env); pure (ForInStep.yield ok) else pure (ForInStep.yield r)
        if ok = true then innerT elt gens scope pos depth (.ref D) env
        again (.compLoop (.ListComp elt gens scope pos) depth (.ref I) (.ref D) env)) (fun fin s' => match fin with | .done f => R' (.ok f) s' | .again c' => c'.quiet = true ∧ codeAny (model prog w) A c' R' s') (notedBy (model prog w) A env fun e s' => R' (.error e) s') s') c y hs fun v s' P' it' hP' rv y' f' => ?_) (fun r s₁ h₁ => ?_) fun _ _ e => e)))
    rotate_left
    · obtain ⟨v, rfl, h₁⟩ := h₁
      exact wpAny_bind h₁
    · obtain ⟨ρ₁, hb1, hb2, hW⟩ := hl
      have en1 := en.step f'
      have hs1 : ∀ p ∈ srcs, Rd (dom (P' ++ MM R D acc μ)) s'.heap p.1 p.2 := fun p hm => (hs p hm).step f'
      refine wpAny_bind (assignT c.han hb1 (fun p hm => (hb2 p hm).1) (fun es n p e => plain_each es (by rw [e] at hp; exact hp)) en1 y' rv fun h2 tk2 en2 y2 k2 => ?_)
      have f2 : Fw (env.locals :: dom (P' ++ MM R D acc μ)) (env.locals :: dom (P' ++ MM R D acc μ)) s' { s' with heap := h2, toks := tk2 } := ⟨fun b o hb' z => k2 b o (fun q => hb' (q ▸ .head _)) z, fun _ h => .inl h, rfl, fun z => z⟩
      have hs2 : ∀ p ∈ srcs, Rd (dom (P' ++ MM R D acc μ)) h2 p.1 p.2 := fun p hm => (hs1 p hm).stepL (s' := { s' with heap := h2, toks := tk2 }) en1 f2
      have f12 := (consFw (L := env.locals) f').trans f2
      -- the rest of a turn, behind the test
      have rest : ∀ (b : Bool) (μ₁ : Mem) (s₃ : Shared), (if b then WpG prog w hb sc k elt gs (ρ₁ ++ ρ) acc μ₁ (fun acc' μ' => loopW prog w hb (WpG prog w hb sc k elt gs) sc k g.target g.ifs ρ ds acc' μ' Φ) else loopW prog w hb (WpG prog w hb sc k elt gs) sc k g.target g.ifs ρ ds acc μ₁ Φ) →
          Ok hb (P' ++ MM R D acc μ₁) s₃ → EnvOk hb sc env (ρ₁ ++ ρ) (dom (P' ++ MM R D acc μ₁)) s₃.heap → (∀ p ∈ srcs, Rd (dom (P' ++ MM R D acc μ₁)) s₃.heap p.1 p.2) → Fw (env.locals :: dom (P ++ MM R D acc μ)) (env.locals :: dom (P' ++ MM R D acc μ₁)) s s₃ →
          wpAny (model prog w) A (do
            if b = true then innerT elt gens scope pos depth (.ref D) env
            again (.compLoop (.ListComp elt gens scope pos) depth (.ref I) (.ref D) env)) (fun fin s' => match fin with | .done f => R' (.ok f) s' | .again c' => c'.quiet = true ∧ codeAny (model prog w) A c' R' s') (notedBy (model prog w) A env fun e s' => R' (.error e) s') s₃ := by
        intro b μ₁ s₃ hb3 y3 en3 hs3 f3
        have back : ∀ {X : List Addr} {h : Heap}, EnvOk hb sc env (ρ₁ ++ ρ) X h → EnvOk hb sc env ρ X h := fun x => x.less fun yy dd hy => by
          have hnone : ρ₁.lookup yy = none := by
            cases hq : ρ₁.lookup yy with
            | none => rfl
            | some dq =>
              have := (hb2 (yy, dq) (mem_of_lookup hq)).2
              rw [this] at hy; cases hy
          rw [List.lookup_append, hnone]; simpa using hy
        cases b with
        | false => exact wpAny_pure ⟨rfl, ih P' acc μ₁ s₃ (back en3) y3 it' hs3 hb3 fun acc' μ' s4 a1 a2 a3 a4 => hR acc' μ' s4 a1 a2 a3 (f3.trans a4)⟩
        | true =>
          simp only [if_true]
          rw [MM_in] at y3 en3 hs3 f3
          refine wpAny_bind (hin depth hd1 env A s₃ _ (P' ++ R) D (ρ₁ ++ ρ) acc μ₁ _ _ c en3 y3 hb3 fun acc' μ' s4 a1 a2 a3 a4 => ?_)
          have hs4 : ∀ p ∈ srcs, Rd (dom (P' ++ MM R D acc' μ')) s4.heap p.1 p.2 := fun p hm => by rw [MM_in]; exact (hs3 p hm).stepL en3 a4
          rw [← MM_in] at a2 a3
          simp only [← MM_in] at a4 f3
          exact wpAny_pure ⟨rfl, ih P' acc' μ' s4 (back a2) a3 it' hs4 a1 fun acc2 μ2 s5 b1 b2 b3 b4 => hR acc2 μ2 s5 b1 b2 b3 ((f3.trans a4).trans b4)⟩
      rcases hif with hif | ⟨cnd, hif⟩
      · rw [hif] at hW ⊢
        exact wpAny_bind (wpAny_tests_nil (rest true μ _ (by rw [hif]; exact hW) y2 en2 hs2 f12))
      · rw [hif] at hW ⊢
        refine wpAny_bind (wpAny_tests_one ?_)
        have y2' := y2
        have en2' := en2
        rw [MM_split] at y2' en2'
        refine (hW (P' ++ (R ++ [(D, .lst acc)])) y2'.offP env A _ _ c en2' y2').run _ fun b μ2 s3 h3 y3 f3 => ?_
        obtain ⟨μ₁, rfl, h3⟩ := h3
        rw [← MM_split] at y3 f3
        rw [← MM_split] at f3
        exact rest b μ₁ s3 (by rw [hif]; exact h3) y3 (en2.step f3) (fun p hm => (hs2 p hm).step f3) (f12.trans (consFw f3))

theorem inner_nil : InnerOk prog w hb sc k elt gens scope pos [] := by
  intro depth hd env A s E R D ρ acc μ Φ Q c en y h hQ
  have hn : gens[depth + 1]? = none := by
    have := congrArg (fun l => l[0]?) hd
    simpa using this
  unfold innerT
  rw [hn]
  have y' := y
  have en' := en
  have e0 : MM R D acc μ = (R ++ [(D, .lst acc)]) ++ μ := by simp [MM]
  rw [e0] at y' en'
  refine wpAny_bind ((h (R ++ [(D, .lst acc)]) y'.offP env A s E c en' y').run _ fun v d μ2 s2 h2 r2 y2 f2 => ?_)
  obtain ⟨μ', rfl, hsz, hΦ⟩ := h2
  have e1 : (R ++ [(D, .lst acc)]) ++ μ' = MM R D acc μ' := by simp [MM]
  rw [e1] at r2 y2 f2
  rw [← e0] at f2
  have hmem : (D, MO.lst acc) ∈ MM R D acc μ' := List.mem_append_right _ (.head _)
  obtain ⟨vs, hpl, ra⟩ := y2.mem _ hmem
  have hD : D ∈ dom (MM R D acc μ') := mem_dom hmem
  refine wpAny_bind (wpAny_list_append_plain (hsz := by simp [ra.length]; omega) hpl fun h' hpl' hs' => wpAny_pure ?_)
  have hk : ∀ b q, b ≠ D → s2.heap.get? b = some q → h'.get? b = some q := fun b q hne z => (hs'.2 b hne).trans z
  have f3 : Fw (dom (MM R D acc μ')) (dom (MM R D acc μ')) s2 { s2 with heap := h' } := Fw.sameIn (tk := s2.toks) hD hk
  have y3 := y2.setM (tk := s2.toks) (o' := .lst (acc ++ [d])) hmem rfl hk ⟨vs ++ [v], by simpa using hpl', (ra.append (RdA.one r2)).step f3⟩ (fun _ _ z => by cases z)
  have offD : ∀ p ∈ R, p.1 ≠ D := fun p hp z => by
    have := y2.offP (P := R) (μ := (D, .lst acc) :: μ') p hp
    exact this (z ▸ .head _)
  have offD2 : ∀ p ∈ μ', p.1 ≠ D := fun p hp z => by
    have nd := y2.nodup
    unfold MM at nd
    rw [dom_append] at nd
    have n2 := (List.nodup_append.mp nd).2.1
    have n3 : (D :: (([] : List Addr) ++ dom μ')).Nodup := n2
    exact (List.nodup_cons.mp n3).1 (z ▸ mem_dom (show (p.1, p.2) ∈ μ' from hp))
  have e3 : setM (MM R D acc μ') D (.lst (acc ++ [d])) = MM R D (acc ++ [d]) μ' := by
    unfold MM
    rw [setM_append, setM_off offD]
    show R ++ (List.map _ ((D, MO.lst acc) :: μ')) = _
    rw [List.map_cons]
    simp only [if_true]
    have := setM_off (o := .lst (acc ++ [d])) offD2
    unfold setM at this
    rw [this]
  have ed : dom (MM R D (acc ++ [d]) μ') = dom (MM R D acc μ') := by
    rw [← e3]; exact dom_setM fun q hq => by rw [nodup_fst y2.nodup hq hmem]; rfl
  rw [e3] at y3
  exact hQ (acc ++ [d]) μ' _ hΦ (by rw [ed]; exact (en.step f2).step f3) y3 (by rw [ed]; exact (consFw f2).trans (consFw f3))

theorem inner_cons {g : Comprehension} {gs : List Comprehension} (hin : InnerOk prog w hb sc k elt gens scope pos gs) (ha : ∀ g ∈ gens, g.is_async = 0) (hp : plainTgt g.target = true) (hif : g.ifs = [] ∨ ∃ c, g.ifs = [c]) (hset : ∀ env x, foldedSetIterable g.iter env x = pure x) :
    InnerOk prog w hb sc k elt gens scope pos (g :: gs) := by
  intro depth hd env A s E R D ρ acc μ Φ Q c en y h hQ
  have hn : gens[depth + 1]? = some g := by
    have := congrArg (fun l => l[0]?) hd
    simpa using this
  unfold innerT
  rw [hn]
  have y' := y
  have en' := en
  have e0 : MM R D acc μ = (R ++ [(D, .lst acc)]) ++ μ := by simp [MM]
  rw [e0] at y' en'
  refine wpAny_bind (wpAny_mono ((h (R ++ [(D, .lst acc)]) y'.offP).run env A s E (fun it s2 => wpAny (model prog w) A (do let _ ← runOwn (.compStart (.ListComp elt gens scope pos) (depth + 1) it (.ref D) env) env) Q E s2) c en' y' fun I items P srcs μ2 s2 h2 it2 y2 hs2 f2 => ?_) (fun x s1 h1 => ?_) fun _ _ e => e)
  rotate_left
  · exact wpAny_bind (wpAny_standAt (wpAny_bind (wpAny_of_eq (hset env x) (wpAny_bind (wpAny_holding h1)))))
  · obtain ⟨μ', rfl, hl⟩ := h2
    have e1 : P ++ ((R ++ [(D, .lst acc)]) ++ μ') = P ++ MM R D acc μ' := by simp [MM]
    rw [e1] at y2 hs2 f2
    rw [← e0] at f2
    refine wpAny_bind (wpAny_runOwn ?_)
    have loop : codeAny (model prog w) A (.compLoop (.ListComp elt gens scope pos) (depth + 1) (.ref I) (.ref D) env) (fun r s' => match r with | .ok f => wpAny (model prog w) A (pure ()) Q E s' | .error e => cameBackBy (model prog w) A env E e s') s2 := by
      refine loop_ok hd hin ha hp hif c items P acc μ' s2 (en.step f2) y2 it2 hs2 hl fun acc' μ3 s3 a1 a2 a3 a4 => ?_
      exact wpAny_pure (hQ acc' μ3 s3 a1 a2 a3 ((consFw f2).trans a4))
    exact comp_start hn (ha g (List.mem_of_getElem? hn)) loop (it2.self y2 loop)
end
end Mine

end

noncomputable section
namespace Mine

/-! The cells of a comprehension. -/
noncomputable def clOf (cs : List (Str × Addr)) : List (Str × NameKind) → List (Str × Addr) → List (Str × Addr)
  | [], acc => acc
  | (n, .free) :: r, acc => match cs.lookup n with
    | some c => clOf cs r ((n, c) :: acc)
    | none => clOf cs r acc
  | (_, _) :: r, acc => clOf cs r acc
noncomputable def relab (outer : List (Str × NameKind)) (names : List (Str × NameKind)) : List (Str × NameKind) :=
  names.map fun (n, k) => if (k == .free && outer.lookup n == some .cell) then (n, .cell) else (n, k)
noncomputable def nodupB : List Str → Bool
  | [] => true
  | x :: r => !r.contains x && nodupB r
noncomputable def compOk (outer names : List (Str × NameKind)) : Bool :=
  nodupB (names.map (·.1)) && names.all fun p => match p.2 with
    | .free => outer.lookup p.1 == some .cell || outer.lookup p.1 == some .free
    | .cell => false
    | _ => true
theorem nodupB_ok : ∀ {l : List Str}, nodupB l = true → l.Nodup
  | [], _ => List.nodup_nil
  | x :: r, h => by
    simp only [nodupB, Bool.and_eq_true, Bool.not_eq_true', List.contains_eq_mem, decide_eq_false_iff_not] at h
    exact List.nodup_cons.mpr ⟨h.1, nodupB_ok h.2⟩
theorem lookup_of_mem {β : Type} : ∀ {l : List (Str × β)} {x : Str} {b : β}, (l.map (·.1)).Nodup → (x, b) ∈ l → l.lookup x = some b
  | (n, c) :: r, x, b, hn, h => by
    rw [List.map_cons] at hn
    obtain ⟨n1, n2⟩ := List.nodup_cons.mp hn
    rcases List.mem_cons.mp h with e | h2
    · cases e; simp
    · have : (x == n) = false := by
        simp only [beq_eq_false_iff_ne, ne_eq]
        intro e; subst e
        exact n1 (List.mem_map.mpr ⟨_, h2, rfl⟩)
      rw [List.lookup_cons, this]
      exact lookup_of_mem n2 h2
theorem clOf_mem {cs : List (Str × Addr)} : ∀ (names : List (Str × NameKind)) (acc : List (Str × Addr)) {n : Str} {c : Addr}, (n, c) ∈ clOf cs names acc → (n, c) ∈ acc ∨ (cs.lookup n = some c ∧ (n, NameKind.free) ∈ names)
  | [], acc, n, c, h => .inl h
  | (m, k) :: r, acc, n, c, h => by
    cases k with
    | free =>
      unfold clOf at h
      cases q : cs.lookup m with
      | none =>
        rw [q] at h
        rcases clOf_mem r acc h with h | ⟨h1, h2⟩
        · exact .inl h
        · exact .inr ⟨h1, .tail _ h2⟩
      | some c' =>
        rw [q] at h
        rcases clOf_mem r _ h with h | ⟨h1, h2⟩
        · rcases List.mem_cons.mp h with e | h
          · cases e; exact .inr ⟨q, .head _⟩
          · exact .inl h
        · exact .inr ⟨h1, .tail _ h2⟩
    | _ =>
      rcases clOf_mem r acc h with h | ⟨h1, h2⟩
      · exact .inl h
      · exact .inr ⟨h1, .tail _ h2⟩
theorem clOf_acc {cs : List (Str × Addr)} : ∀ (names : List (Str × NameKind)) (acc : List (Str × Addr)) {p : Str × Addr}, p ∈ acc → p ∈ clOf cs names acc
  | [], _, _, h => h
  | (m, k) :: r, acc, p, h => by
    cases k with
    | free =>
      unfold clOf
      cases q : cs.lookup m with
      | none => exact clOf_acc r acc h
      | some c => exact clOf_acc r _ (.tail _ h)
    | _ => exact clOf_acc r acc h
theorem clOf_has {cs : List (Str × Addr)} : ∀ (names : List (Str × NameKind)) (acc : List (Str × Addr)) {n : Str} {c : Addr}, (n, NameKind.free) ∈ names → cs.lookup n = some c → (n, c) ∈ clOf cs names acc
  | (m, k) :: r, acc, n, c, h, e => by
    rcases List.mem_cons.mp h with h1 | h2
    · cases h1
      unfold clOf
      rw [e]
      exact clOf_acc r _ (.head _)
    · cases k with
      | free =>
        unfold clOf
        cases q : cs.lookup m with
        | none => exact clOf_has r acc h2 e
        | some c' => exact clOf_has r _ h2 e
      | _ => exact clOf_has r acc h2 e
theorem clOf_apart {cs : List (Str × Addr)} (ha : cs.Pairwise fun x y => x.2 ≠ y.2) : ∀ (names : List (Str × NameKind)) (acc : List (Str × Addr)), (names.map (·.1)).Nodup →
    (∀ p ∈ acc, cs.lookup p.1 = some p.2 ∧ p.1 ∉ names.map (·.1)) → acc.Pairwise (fun x y => x.2 ≠ y.2) → (clOf cs names acc).Pairwise fun x y => x.2 ≠ y.2
  | [], _, _, _, h => h
  | (m, k) :: r, acc, hn, hacc, h => by
    rw [List.map_cons] at hn
    obtain ⟨n1, n2⟩ := List.nodup_cons.mp hn
    have hacc' : ∀ p ∈ acc, cs.lookup p.1 = some p.2 ∧ p.1 ∉ r.map (·.1) := fun p hp => ⟨(hacc p hp).1, fun z => (hacc p hp).2 (.tail _ z)⟩
    cases k with
    | free =>
      unfold clOf
      cases q : cs.lookup m with
      | none => exact clOf_apart ha r acc n2 hacc' h
      | some c =>
        refine clOf_apart ha r _ n2 (fun p hp => ?_) (List.pairwise_cons.mpr ⟨fun p hp e => ?_, h⟩)
        · rcases List.mem_cons.mp hp with rfl | hp
          · exact ⟨q, n1⟩
          · exact hacc' p hp
        · have h1 := (hacc p hp).1
          have : m = p.1 := name_of_addr ha (mem_of_lookup q) (by rw [show c = p.2 from e]; exact mem_of_lookup h1)
          exact (hacc p hp).2 (by rw [← this]; exact .head _)
    | _ => exact clOf_apart ha r acc n2 hacc' h
theorem closure_cl {scope : Scope} {env : Env} (h : ∀ n, (n, NameKind.free) ∈ scope.names → (env.cells.lookup n).isSome = true) : closureFor scope env = pure (clOf env.cells scope.names []) := by
  have key : ∀ (names : List (Str × NameKind)) (acc : List (Str × Addr)), (∀ n, (n, NameKind.free) ∈ names → (env.cells.lookup n).isSome = true) →
      (forIn names acc (fun (x : Str × NameKind) (cs : List (Str × Addr)) => match x with
        | (name, kind) => if (kind == NameKind.free) = true then (do let a ← cellOf env name; pure (ForInStep.yield ((name, a) :: cs)) : Sem _) else pure (ForInStep.yield cs))) = pure (clOf env.cells names acc) := by
    intro names
    induction names with
    | nil => intro acc _; rfl
    | cons p r ih =>
      intro acc hn
      obtain ⟨n, kd⟩ := p
      rw [List.forIn_cons]
      by_cases hk : kd = .free
      · subst hk
        obtain ⟨c, hc⟩ := Option.isSome_iff_exists.mp (hn n (.head _))
        have e1 : cellOf env n = pure c := by unfold cellOf; rw [hc]
        simp only [e1, pure_bind, beq_self_eq_true, if_true]
        rw [ih _ fun m hm => hn m (.tail _ hm)]
        show _ = pure (match env.cells.lookup n with | some c => clOf env.cells r ((n, c) :: acc) | none => clOf env.cells r acc)
        rw [hc]
      · have hb' : (kd == NameKind.free) = false := by simpa using hk
        simp only [hb', Bool.false_eq_true, if_false, pure_bind]
        rw [ih _ fun m hm => hn m (.tail _ hm)]
        cases kd <;> first | rfl | exact absurd rfl hk
  unfold closureFor
  have := key scope.names [] h
  simp only [this, pure_bind]
  

end Mine

end

noncomputable section
namespace Mine

theorem MAt.lessS {X Y : List Addr} {h : Heap} {a : Addr} (k : ∀ b o xs n, b ∉ X → o.data = .seq xs n → h.get? b = some o → b ∉ Y) : ∀ {o : MO}, MAt X h a o → MAt Y h a o
  | .acc _ _ _, ⟨vs, kk, e1, r, z⟩ => ⟨vs, kk, e1, RdA.lessS k r, z⟩
  | .lst _, ⟨vs, e, r⟩ => ⟨vs, e, RdA.lessS k r⟩
  | .tab _ _, x => x
  | .pin _, e => e
  | .itr _ _, ⟨o, e, z, r⟩ => ⟨o, e, z, Rd.lessS k r⟩
/-- an object that is no row of values comes under watch -/
theorem Ok.addOld {hb : Heap} {μ : Mem} {s : Shared} {C : Addr} {o : Obj} {p : Obj → Prop} (y : Ok hb μ s) (h1 : C ∉ dom μ) (h2 : hb.get? C = none) (ho : s.heap.get? C = some o) (hs : ∀ xs n, o.data ≠ .seq xs n) (hp : p o) : Ok hb ((C, .pin p) :: μ) s := by
  refine ⟨y.base, fun a ha => ?_, fun q hq => ?_, List.nodup_cons.mpr ⟨h1, y.nodup⟩, y.bare, fun c ps a ha => ?_⟩
  · rcases List.mem_cons.mp ha with rfl | ha
    · exact h2
    · exact y.off a ha
  · rcases List.mem_cons.mp hq with rfl | hq
    · exact ⟨o, ho, hp⟩
    · refine (y.mem q hq).lessS fun b ob xs n hb' hd e hm => ?_
      rcases List.mem_cons.mp hm with rfl | hm
      · rw [ho] at e; cases e; exact hs xs n hd
      · exact hb' hm
  · rcases List.mem_cons.mp ha with e | ha
    · cases e
    · exact y.codes c ps a ha
theorem Ok.pushLst {hb : Heap} {μ : Mem} {s : Shared} {tk : Nat} (y : Ok hb μ s) : Ok hb ((s.heap.objs.size, .lst []) :: μ) { s with heap := s.heap.push { cls := .type "list", data := .seq #[] }, toks := tk } := by
  have kp := push_keeps (h := s.heap) { cls := .type "list", data := .seq #[] }
  have y' := y.keeps (tk := tk) kp
  refine ⟨y'.base, fun a ha => ?_, fun q hq => ?_, List.nodup_cons.mpr ⟨not_dom y, y.nodup⟩, y.bare, fun c ps a ha => ?_⟩
  · rcases List.mem_cons.mp ha with rfl | ha
    · exact base_none y (Nat.le_refl _)
    · exact y.off a ha
  · rcases List.mem_cons.mp hq with rfl | hp'
    · exact ⟨[], ⟨_, Heap.get?_push_size _ rfl⟩, .nil⟩
    · have m := (y.mem q hp').less (Y := dom ((s.heap.objs.size, MO.lst []) :: μ)) fun b q hb' e hm => by
        rcases List.mem_cons.mp hm with rfl | hm
        · exact absurd (Heap.lt_size e) (Nat.lt_irrefl _)
        · exact hb' hm
      exact m.seq (.of_keeps kp) (fun q e => kp _ q e) (fun _ _ q e => kp _ q e) fun _ _ _ q e => kp _ q e
  · rcases List.mem_cons.mp ha with e | ha
    · cases e
    · exact y.codes c ps a ha

section
variable {prog : Program} {w : World} {hb : Heap} {sc : Sh} {k : Nat} {ρ : Ren} {μ : Mem}

noncomputable def cleanG (g : Comprehension) : Bool := g.is_async == 0 && plainTgt g.target && (match g.ifs with | [] => true | [_] => true | _ => false)
theorem inner_all {elt : Expr} {gens : List Comprehension} {scope : Scope} {pos : Pos} (hc : ∀ g ∈ gens, cleanG g = true) (hset : ∀ g ∈ gens, ∀ env x, foldedSetIterable g.iter env x = pure x) :
    ∀ gs : List Comprehension, (∀ g ∈ gs, g ∈ gens) → InnerOk prog w hb sc k elt gens scope pos gs
  | [], _ => inner_nil
  | g :: gs, hs => by
    have h1 := hc g (hs g (.head _))
    simp only [cleanG, Bool.and_eq_true, beq_iff_eq] at h1
    refine inner_cons (inner_all hc hset gs fun g' hg' => hs g' (.tail _ hg')) (fun g' hg' => ?_) h1.1.2 ?_ (hset g (hs g (.head _)))
    · have := hc g' hg'
      simp only [cleanG, Bool.and_eq_true, beq_iff_eq] at this
      exact this.1.1
    · have h2 := h1.2
      cases q : g.ifs with
      | nil => exact .inl rfl
      | cons a r =>
        cases r with
        | nil => exact .inr ⟨a, rfl⟩
        | cons b r => rw [q] at h2; cases h2

noncomputable def inSh (sc : Sh) (scope : Scope) : Sh := ⟨relab sc.names scope.names, sc.code⟩
noncomputable def inRen (scope : Scope) (ρ : Ren) : Ren := ρ.filter fun p => scope.names.lookup p.1 == some .free

theorem lookup_filter {names : List (Str × NameKind)} : ∀ {ρ : Ren} {x : Str} {d : Dat}, (ρ.filter fun p => names.lookup p.1 == some NameKind.free).lookup x = some d → ρ.lookup x = some d ∧ names.lookup x = some .free
  | [], _, _, h => by cases h
  | (n, e) :: r, x, d, h => by
    rw [List.filter_cons] at h
    by_cases q : (names.lookup n == some NameKind.free) = true
    · rw [if_pos q, List.lookup_cons] at h
      rw [List.lookup_cons]
      cases hx : x == n with
      | true =>
        rw [hx] at h
        rw [beq_iff_eq.mp hx]
        exact ⟨h, by simpa using q⟩
      | false => rw [hx] at h; exact lookup_filter h
    · rw [if_neg q] at h
      obtain ⟨h1, h2⟩ := lookup_filter h
      refine ⟨?_, h2⟩
      rw [List.lookup_cons]
      have : (x == n) = false := by
        simp only [beq_eq_false_iff_ne, ne_eq]
        intro e; subst e; exact q (by simp [h2])
      rw [this]; exact h1

theorem relab_lookup {outer : List (Str × NameKind)} : ∀ {names : List (Str × NameKind)} {x : Str}, (relab outer names).lookup x = (names.lookup x).map fun k => if (k == .free && outer.lookup x == some .cell) then .cell else k
  | [], _ => rfl
  | (n, k) :: r, x => by
    have ih := relab_lookup (outer := outer) (names := r) (x := x)
    unfold relab at ih ⊢
    rw [List.map_cons]
    by_cases q : (k == NameKind.free && outer.lookup n == some NameKind.cell) = true
    · simp only [q, if_true, List.lookup_cons]
      cases hx : x == n with
      | true => simp only [beq_iff_eq.mp hx, Option.map_some, q, if_true]
      | false => exact ih
    · have q' : (k == NameKind.free && outer.lookup n == some NameKind.cell) = false := by simpa using q
      simp only [q', Bool.false_eq_true, if_false, List.lookup_cons]
      cases hx : x == n with
      | true => simp only [beq_iff_eq.mp hx, Option.map_some, q', Bool.false_eq_true, if_false]
      | false => exact ih

theorem comp_core {elt : Expr} {g : Comprehension} {gs : List Comprehension} {scope : Scope} {pos fp : Pos} {use : Option (Value → Sem Unit)} {Φ : List Dat → Mem → Prop} {env : Env} {A : Around} {s : Shared} {E : Value → Shared → Prop} {Q : Value → Shared → Prop}
    (h : WpIt prog w hb sc k g.target g.iter ρ μ (fun items μ₁ => loopW prog w hb (WpG prog w hb (inSh sc scope) k elt gs) (inSh sc scope) k g.target g.ifs (inRen scope ρ) items [] μ₁ Φ))
    (hc : ∀ g' ∈ g :: gs, cleanG g' = true) (hset : ∀ g' ∈ g :: gs, ∀ env x, foldedSetIterable g'.iter env x = pure x) (hok : compOk sc.names scope.names = true) (hkind : scope.kind = .function)
    (c : Calm k A) (en : EnvOk hb sc env ρ (dom μ) s.heap) (y : Ok hb μ s)
    (hpost : ∀ D C acc μ' s' m, Φ acc μ' → s'.heap.Ns C m → Ok hb ([(C, .pin fun _ => True)] ++ μ') s' → Rd (dom ([(C, MO.pin fun _ => True)] ++ μ')) s'.heap (.ref D) (.list acc) → Fw (dom μ) (dom ([(C, MO.pin fun _ => True)] ++ μ')) s s' →
      compPost (model prog w) A E use Q (.ref D) C (.ok .next) s') :
    wpAny (model prog w) A (comprehension (.ListComp elt (g :: gs) scope pos) scope env fp (newList []) false (eval g.iter env) use) Q E s := by
  have hok' := hok
  simp only [compOk, Bool.and_eq_true, List.all_eq_true] at hok
  obtain ⟨hnd, hall⟩ := hok
  have hnd := nodupB_ok hnd
  have hfree : ∀ n, (n, NameKind.free) ∈ scope.names → sc.names.lookup n = some .cell ∨ sc.names.lookup n = some .free := fun n hn => by
    have := hall _ hn
    simpa using this
  have hnocell : ∀ x ∈ scope.names, x.2 ≠ .cell := fun x hx e => by
    have := hall x hx
    rw [e] at this; cases this
  have hcells : ∀ n, (n, NameKind.free) ∈ scope.names → (env.cells.lookup n).isSome = true := fun n hn => en.has n (hfree n hn)
  refine wpAny_comprehension_free (g := g) (gs := gs) (use := use) rfl (hset g (.head _) env) (closure_cl hcells) hkind (fun x hx hl => by rw [← hl]; exact lookup_of_mem hnd hx) ?_
  refine h.run env A s E _ c en y fun I items P srcs μ₁ s₂ h₂ it₂ y₂ hs₂ f₂ => ?_
  -- the new list
  refine wpAny_newObj_type ?_
  have y3 := y₂.pushLst (tk := s₂.toks)
  have hpm : ((s₂.heap.objs.size, MO.lst []) :: (P ++ μ₁)).Perm (P ++ MM [] s₂.heap.objs.size [] μ₁) := by
    show ((s₂.heap.objs.size, MO.lst []) :: (P ++ μ₁)).Perm (P ++ (s₂.heap.objs.size, MO.lst []) :: μ₁)
    exact List.perm_middle.symm
  have f3 : Fw (dom (P ++ μ₁)) (dom ((s₂.heap.objs.size, MO.lst []) :: (P ++ μ₁))) s₂ { s₂ with heap := s₂.heap.push { cls := .type "list", data := .seq #[] } } := Fw.pushPin (tk := s₂.toks) rfl
  have y3' := y3.perm hpm
  have f3' := f3.permR hpm
  generalize hD : s₂.heap.objs.size = D at *
  have f03 := f₂.trans f3'
  have hs3 : ∀ p ∈ srcs, Rd (dom (P ++ MM [] D [] μ₁)) (s₂.heap.push { cls := .type "list", data := .seq #[] }) p.1 p.2 := fun p hm => (hs₂ p hm).step f3'
  clear hpm f3 y3 f3' hs₂
  generalize hH3 : ({ s₂ with heap := s₂.heap.push { cls := .type "list", data := .seq #[] } } : Shared) = s₃ at *
  have hH3' : s₂.heap.push { cls := .type "list", data := .seq #[] } = s₃.heap := by rw [← hH3]
  rw [hH3'] at hs3
  refine wpAny_newFunctionEnv hnocell (by intro z hz; cases hz) (fun h₄ ns₄ sb₄ => ?_) hkind
  have kp : ∀ b o, s₃.heap.get? b = some o → h₄.get? b = some o := fun b o e => sb₄.extBut b o (Nat.ne_of_lt (Heap.lt_size e)) (Heap.get?_push_of_some _ e)
  generalize hC : s₃.heap.objs.size = C at *
  have hCn : s₃.heap.get? C = none := by rw [← hC]; exact fresh_size
  have hCd : C ∉ dom (P ++ MM [] D [] μ₁) := by rw [← hC]; exact not_dom y3'
  have hCb : hb.get? C = none := base_none y3' (by rw [hC]; exact Nat.le_refl _)
  have y4 : Ok hb (P ++ MM [] D [] μ₁) { s₃ with heap := h₄, toks := s₃.toks + ([] : List (Str × Value)).length } := y3'.keeps kp
  have f34 : Fw (dom (P ++ MM [] D [] μ₁)) (C :: dom (P ++ MM [] D [] μ₁)) s₃ { s₃ with heap := h₄, toks := s₃.toks + ([] : List (Str × Value)).length } := ⟨fun b o _ e => kp b o e, fun a ha => by
    rcases List.mem_cons.mp ha with rfl | ha
    · exact .inr hCn
    · exact .inl ha, rfl, fun z => z⟩
  have f04 := f03.trans f34
  have hs4 : ∀ p ∈ srcs, Rd (dom (P ++ MM [] D [] μ₁)) h₄ p.1 p.2 := fun p hm => ((hs3 p hm).step f34).sub fun b hb' => .tail _ hb'
  have en0 : EnvOk hb sc env ρ (C :: dom (P ++ MM [] D [] μ₁)) h₄ := en.step f04
  -- the frame of the comprehension
  have en4 : EnvOk hb (inSh sc scope) (compEnvC scope (clOf env.cells scope.names []) C env) (inRen scope ρ) (dom (P ++ MM [] D [] μ₁)) h₄ := by
    obtain ⟨m0, n0, hv0⟩ := en0.vars
    have cl_lk : ∀ {x : Str} {cc : Addr}, (clOf env.cells scope.names []).lookup x = some cc → env.cells.lookup x = some cc ∧ (x, NameKind.free) ∈ scope.names := fun hx => by
      rcases clOf_mem _ _ (mem_of_lookup hx) with z | z
      · cases z
      · exact z
    have has' : ∀ x, (x, NameKind.free) ∈ scope.names → ∀ cc, env.cells.lookup x = some cc → (clOf env.cells scope.names []).lookup x = some cc := fun x hx cc hcc => by
      have hm := clOf_has scope.names [] hx hcc
      cases q : (clOf env.cells scope.names []).lookup x with
      | none =>
        have := List.lookup_eq_none_iff.mp q (x, cc) hm
        simp at this
      | some c2 =>
        have := (cl_lk q).1
        rw [hcc] at this; exact this.symm ▸ rfl
    have names_free : ∀ x, (inSh sc scope).names.lookup x = some .cell ∨ (inSh sc scope).names.lookup x = some .free → (x, NameKind.free) ∈ scope.names := fun x hx => by
      unfold inSh at hx
      rw [relab_lookup] at hx
      cases q : scope.names.lookup x with
      | none => rw [q] at hx; simp at hx
      | some kd =>
        rw [q] at hx
        have hm := mem_of_lookup q
        cases kd with
        | free => exact hm
        | cell => exact absurd rfl (hnocell _ hm)
        | _ => simp at hx
    refine ⟨?_, ?_, en0.code, en0.glob, en0.bi, hCd, hCb, fun x cc hx hcc => ?_, ?_, fun x hx => ?_, _, ns₄, fun x d hx => ?_⟩
    · show (scope.names.map _) = (scope.names.map _)
      refine List.map_congr_left fun p _ => ?_
      obtain ⟨n, kd⟩ := p
      have e1 : env.scope.kind = .function := en.kind
      have e2 : env.kindOf n = sc.names.lookup n := by show env.scope.names.lookup n = _; rw [en.scope]
      simp only [e1, e2, beq_self_eq_true, Bool.and_true]
    · show scope.kind = .function
      exact hkind
    · obtain ⟨h1, h2⟩ := cl_lk hcc
      have hx' : sc.names.lookup x = some .cell := by
        unfold inSh at hx
        rw [relab_lookup, lookup_of_mem hnd h2] at hx
        rcases hfree x h2 with z | z
        · exact z
        · rw [z] at hx; simp at hx
      obtain ⟨a1, a2, a3, v, a4⟩ := en0.cells x cc hx' h1
      exact ⟨fun z => a1 (.tail _ z), a2, fun z => a1 (z ▸ .head _), v, a4⟩
    · exact clOf_apart en.apart _ _ hnd (fun p hp => nomatch hp) .nil
    · have hm := names_free x hx
      obtain ⟨cc, hcc⟩ := Option.isSome_iff_exists.mp (hcells x hm)
      show ((clOf env.cells scope.names []).lookup x).isSome = true
      rw [has' x hm cc hcc]; rfl
    · obtain ⟨h1, h2⟩ := lookup_filter hx
      have hm := mem_of_lookup h2
      have hk' : (inSh sc scope).names.lookup x = some .cell ∨ (inSh sc scope).names.lookup x = some .free := by
        unfold inSh
        rw [relab_lookup, h2]
        rcases hfree x hm with z | z
        · left; simp [z]
        · right; simp [z]
      rcases hv0 x d h1 with ⟨z, _⟩ | ⟨_, cc, v, b1, b2, b3, b4, b5⟩
      · rcases hfree x hm with z' | z' <;> rw [z'] at z <;> cases z
      · exact .inr ⟨hk', cc, v, has' x hm cc b1, fun z => b2 (.tail _ z), fun z => b2 (z ▸ .head _), b4, b5.sub fun b hb' => .tail _ hb'⟩
  have h1 := hc g (.head _)
  simp only [cleanG, Bool.and_eq_true, beq_iff_eq] at h1
  have hif : g.ifs = [] ∨ ∃ c, g.ifs = [c] := by
    have h2 := h1.2
    cases q : g.ifs with
    | nil => exact .inl rfl
    | cons a r =>
      cases r with
      | nil => exact .inr ⟨a, rfl⟩
      | cons b r => rw [q] at h2; cases h2
  have loop : codeAny (model prog w) A (.compLoop (.ListComp elt (g :: gs) scope pos) 0 (.ref I) (.ref D) (compEnvC scope (clOf env.cells scope.names []) C env)) (compPost (model prog w) A E use Q (.ref D) C) { s₃ with heap := h₄, toks := s₃.toks + ([] : List (Str × Value)).length } := by
    refine loop_ok (depth := 0) (gs := gs) (g := g) rfl (inner_all hc hset gs fun g' hg' => .tail _ hg') (fun g' hg' => ?_) h1.1.2 hif c items P [] μ₁ _ en4 y4 it₂ hs4 h₂ fun acc μ' s5 a1 a2 a3 a4 => ?_
    · have := hc g' hg'
      simp only [cleanG, Bool.and_eq_true, beq_iff_eq] at this
      exact this.1.1
    · obtain ⟨m5, n5, _⟩ := a2.vars
      obtain ⟨oC, es, ep, hoC, hdC, hrest⟩ := id n5
      have hoC' : s5.heap.get? C = some oC := hoC
      have hyl : Ok hb μ' s5 := (show Ok hb ([(D, .lst acc)] ++ μ') s5 from a3).drop
      have hCm : C ∉ dom (MM [] D acc μ') := a2.locX
      have hCμ : C ∉ dom μ' := fun z => hCm (.tail _ z)
      have hns : ∀ xs n, oC.data ≠ .seq xs n := fun xs n z => by rw [hdC] at z; cases z
      refine hpost D C acc μ' s5 m5 a1 n5 (hyl.addOld hCμ hCb hoC' hns trivial) ?_ ?_
      · obtain ⟨vs, ⟨n, epl⟩, ra⟩ := a3.mem (D, .lst acc) (.head _)
        have hDm : D ∉ dom μ' := by
          have nd : (D :: dom μ').Nodup := a3.nodup
          exact (List.nodup_cons.mp nd).1
        have hDC : D ≠ C := fun z => hCm (z ▸ .head _)
        refine .list (fun z => ?_) ⟨_, epl, rfl, n, rfl⟩ (ra.lessS fun b o xs n hb' hd e hm => ?_)
        · rcases List.mem_cons.mp z with z | z
          · exact hDC z
          · exact hDm z
        · rcases List.mem_cons.mp hm with z | z
          · rw [z, hoC'] at e; cases e; exact hns xs n hd
          · exact hb' (.tail _ z)
      · exact (f04.trans a4).sets (fun _ h => h) fun b hb' => by
          rcases List.mem_cons.mp hb' with z | z
          · exact .inl (z ▸ .head _)
          · exact .inl (.tail _ (.tail _ z))
  exact comp_start rfl h1.1.1 loop (it₂.self y4 loop)
end
end Mine

end

noncomputable section
namespace Mine
noncomputable def noSet : Expr → Bool
  | .Name .. => true
  | .Call .. => true
  | .Subscript .. => true
  | _ => false
theorem noSet_ok {e : Expr} (h : noSet e = true) : ∀ env x, foldedSetIterable e env x = pure x := by
  intro env x
  cases e <;> first | rfl | cases h
section
variable {prog : Program} {w : World} {hb : Heap} {sc : Sh} {k : Nat} {ρ : Ren} {μ : Mem}

theorem WpE.listcomp {elt : Expr} {g : Comprehension} {gs : List Comprehension} {scope : Scope} {pos : Pos} {Φ : Dat → Mem → Prop}
    (h : WpIt prog w hb sc k g.target g.iter ρ μ (fun items μ₁ => loopW prog w hb (WpG prog w hb (inSh sc scope) k elt gs) (inSh sc scope) k g.target g.ifs (inRen scope ρ) items [] μ₁ (fun acc μ₂ => Φ (.list acc) μ₂)))
    (hc : ((g :: gs).all cleanG) = true := by rfl) (hset : ((g :: gs).all fun g' => noSet g'.iter) = true := by rfl) (hok : compOk sc.names scope.names = true := by rfl) (hkind : scope.kind = .function := by rfl) :
    WpE prog w hb sc k (.ListComp elt (g :: gs) scope pos) ρ μ Φ := by
  intro env A s E c en y
  refine ⟨fun Q hQ => ?_⟩
  have hc' : ∀ g' ∈ g :: gs, cleanG g' = true := fun g' hg' => List.all_eq_true.mp hc g' hg'
  have h0 : g.is_async = 0 := by
    have := hc' g (.head _)
    simp only [cleanG, Bool.and_eq_true, beq_iff_eq] at this
    exact this.1.1
  rw [eval_ListComp]
  have e1 : firstAsync (g :: gs) = false := by
    obtain ⟨t, i, f, a⟩ := g
    have : a = 0 := h0
    subst this; rfl
  have e2 : firstIter (g :: gs) env = eval g.iter env := by cases g; rfl
  rw [e1, e2]
  refine comp_core (use := Option.none) h hc' (fun g' hg' => noSet_ok (List.all_eq_true.mp hset g' hg')) hok hkind c en y fun D C acc μ' s' m a1 a2 a3 a4 a5 => ?_
  refine ⟨m, a2, fun h' hs' => ?_⟩
  obtain ⟨y2, f2⟩ := a3.unpin (tk := s'.toks) (h' := h') fun b o hb' e => (hs'.2 b fun z => hb' (z ▸ .head _)).trans e
  exact hQ _ _ μ' _ a1 (a4.step f2) y2 (a5.trans f2)

noncomputable def swB (value : Expr) (x : Str) (p : Pos) (sc : Sh) : Bool :=
  match (match value with
    | .ListComp _ _ s _ | .SetComp _ _ s _ | .DictComp _ _ _ s _ => some s
    | _ => none : Option Scope) with
  | none => false
  | some scope => (sc.names.lookup x == some .local) && p.line == value.pos.line && !(scope.names.any fun (n, k) => n == x && (k == .local || k == .cell))
theorem swB_ok {value : Expr} {x : Str} {p : Pos} {line : Nat} {env : Env} {X : List Addr} {h : Heap} (en : EnvOk hb sc env ρ X h) : swapsWith value (some (.Name x p)) line env = pure (swB value x p sc) := by
  have e1 : env.kindOf x = sc.names.lookup x := by show env.scope.names.lookup x = _; rw [en.scope]
  have e2 : env.blockKind = .function := by unfold Env.blockKind; rw [en.kind]; rfl
  unfold swapsWith swB
  simp only [e1, e2, beq_self_eq_true, Bool.true_and]
  cases value <;> rfl

theorem Wp1.assignV {x : Str} {p pos : Pos} {value : Expr} {Ψ : AFlow → Ren → Mem → Prop} (h : WpE prog w hb sc k value ρ μ (fun d μ₁ => Ψ .next ((x, d) :: ρ) μ₁)) (hx : sc.names.lookup x = some .local ∨ sc.names.lookup x = some .cell := by first | exact .inl rfl | exact .inr rfl)
    (hs : swB value x p sc = false := by rfl) : Wp1 prog w hb sc k (.Assign [.Name x p] value pos) ρ μ Ψ := by
  intro env A s E c e y
  refine ⟨fun Q hQ => ?_⟩
  refine wpAny_Assign_Name ((h env A s E c e y).run _ fun v d μ₁ s₁ h₁ r₁ y₁ f₁ => ?_) (by rw [swB_ok e, hs])
  exact store (e.step f₁) y₁ r₁ hx fun s' e' y' f' => hQ .next .next _ μ₁ s' h₁ trivial e' y' ((f₁.lift _).trans f')

theorem Wp1.assignC {x : Str} {p pos : Pos} {elt : Expr} {g : Comprehension} {gs : List Comprehension} {scope : Scope} {cp : Pos} {Ψ : AFlow → Ren → Mem → Prop}
    (h : WpIt prog w hb sc k g.target g.iter ρ μ (fun items μ₁ => loopW prog w hb (WpG prog w hb (inSh sc scope) k elt gs) (inSh sc scope) k g.target g.ifs (inRen scope ρ) items [] μ₁ (fun acc μ₂ => Ψ .next ((x, .list acc) :: ρ) μ₂)))
    (hs : swB (.ListComp elt (g :: gs) scope cp) x p sc = true := by rfl) (hx : sc.names.lookup x = some .local := by rfl)
    (hc : ((g :: gs).all cleanG) = true := by rfl) (hset : ((g :: gs).all fun g' => noSet g'.iter) = true := by rfl) (hok : compOk sc.names scope.names = true := by rfl) (hkind : scope.kind = .function := by rfl) :
    Wp1 prog w hb sc k (.Assign [.Name x p] (.ListComp elt (g :: gs) scope cp) pos) ρ μ Ψ := by
  intro env A s E c en y
  refine ⟨fun Q hQ => ?_⟩
  have hc' : ∀ g' ∈ g :: gs, cleanG g' = true := fun g' hg' => List.all_eq_true.mp hc g' hg'
  have h0 : g.is_async = 0 := by
    have := hc' g (.head _)
    simp only [cleanG, Bool.and_eq_true, beq_iff_eq] at this
    exact this.1.1
  rw [exec_Assign_Name_used _ _ _ _ (by rw [swB_ok en, hs])]
  refine wpAny_bind (wpAny_standAt (wpAny_bind ?_))
  have e1 : firstAsync (g :: gs) = false := by
    obtain ⟨t, i, f, a⟩ := g
    have : a = 0 := h0
    subst this; rfl
  have e2 : firstIter (g :: gs) env = eval g.iter env := by cases g; rfl
  show wpAny _ A (do let _ ← comprehension (.ListComp elt (g :: gs) scope cp) scope env _ (newList []) (firstAsync (g :: gs)) (firstIter (g :: gs) env) (some (PySem.assign (.Name x p) env))) _ _ s
  rw [e1, e2]
  refine wpAny_bind (wpAny_mono (comp_core (use := some (PySem.assign (.Name x p) env)) (Q := fun _ s' => Q .next s') h hc' (fun g' hg' => noSet_ok (List.all_eq_true.mp hset g' hg')) hok hkind c en y fun D C acc μ' s' m a1 a2 a3 a4 a5 => ?_) (fun _ s' hq => wpAny_pure (wpAny_pure hq)) fun _ _ e => e)
  have en' := en.step a5
  show wpAny _ A (PySem.assign (.Name x p) env (.ref D)) _ _ _
  refine wpAny_assign_Name (storeL en' a3 a4 hx fun h2 tk2 en2 y2 hs2 sk2 => ?_)
  have hLC : C ≠ env.locals := fun z => en'.locX (z ▸ .head _)
  refine ⟨m, a2.sameBut hs2 hLC, fun h' hs' => ?_⟩
  obtain ⟨y3, f3⟩ := y2.unpin (tk := tk2) (h' := h') fun b o hb' e => (hs'.2 b fun z => hb' (z ▸ .head _)).trans e
  have f2 : Fw (own sc env ++ dom ([(C, MO.pin fun _ => True)] ++ μ')) (own sc env ++ dom ([(C, MO.pin fun _ => True)] ++ μ')) s' { s' with heap := h2, toks := tk2 } := ⟨fun b o hb' e => (hs2.2 b fun z => hb' (z ▸ List.mem_append_left _ (.head _))).trans e, fun _ h => .inl h, rfl, fun z => z⟩
  exact hQ .next .next _ μ' _ a1 trivial (en2.step f3) y3 (((a5.lift _).trans f2).trans (f3.lift _))
end
end Mine

end

noncomputable section
namespace Mine

/-! An exception on its way. -/
noncomputable def frs (env : Env) (outer : List Env) : List Addr := (env :: outer).filterMap (·.frame)
structure Flight (env : Env) (outer : List Env) (cls : String) (sr : Shared) (x : Value) (s' : Shared) : Prop where
  os : s'.os = sr.os
  gens : s'.gens = sr.gens
  st : ∃ e, x = .ref e ∧ (Heap.NewExc sr.heap s'.heap e cls ∨
    ∃ B a0, Heap.HeldW B (env :: outer) e (.type cls) a0 env.locals s'.heap ∧ (∀ b o, b ∉ frs env outer → sr.heap.get? b = some o → B.get? b = some o) ∧ sr.heap.UpToSlots s'.heap)

/-- the frames below, when exceptions are in play -/
noncomputable def OutOk (hb : Heap) (fo : Option (List Env)) (sc : Sh) (env : Env) (A : Around) (X : List Addr) (h : Heap) : Prop :=
  match fo with
  | none => True
  | some outer => A.frames = some (env :: outer) ∧ env.frame = some env.locals ∧ ∀ f ∈ outer, f.scope.kind ≠ .module ∧ ∃ L o, f.frame = some L ∧ L ∉ X ∧ L ∉ own sc env ∧ hb.get? L = none ∧ h.get? L = some o ∧ ∃ es ep, o.data = .dict es ep

theorem OutOk.step {hb : Heap} {fo : Option (List Env)} {sc : Sh} {env : Env} {A : Around} {X X' : List Addr} {s s' : Shared} (x : OutOk hb fo sc env A X s.heap) (f : Fw (own sc env ++ X) (own sc env ++ X') s s') : OutOk hb fo sc env A X' s'.heap := by
  cases fo with
  | none => trivial
  | some outer =>
    obtain ⟨h1, h2, h3⟩ := x
    refine ⟨h1, h2, fun g hg => ?_⟩
    obtain ⟨a1, L, o, a2, a3, a4, a5, a6, a7⟩ := h3 g hg
    have hn : L ∉ own sc env ++ X := fun z => (List.mem_append.mp z).elim a4 a3
    obtain ⟨b1, b2⟩ := f.get hn a6
    exact ⟨a1, L, o, a2, fun z => b1 (List.mem_append_right _ z), a4, a5, b2, a7⟩

theorem funFrames_of {base h : Heap} : ∀ {l : List Env}, (∀ f ∈ l, f.scope.kind ≠ .module ∧ ∃ L o, f.frame = some L ∧ base.get? L = none ∧ h.get? L = some o ∧ ∀ vs, o.data ≠ .fields vs) → h.FunFrames base l
  | [], _ => trivial
  | f :: l, H => by
    obtain ⟨h1, L, o, h2, h3, h4, h5⟩ := H f (.head _)
    exact ⟨h1, ⟨L, o, h2, h3, h4, h5⟩, funFrames_of fun g hg => H g (.tail _ hg)⟩

section
variable {M : Model} {A : Around} {E : Value → Shared → Prop} {s : Shared}
theorem note_firstW {base : Heap} {env : Env} {outer : List Env} {L e : Addr} {oe : Obj} {vs : Array Value} {a0 : Value} {Q : Unit → Shared → Prop}
    (hfr : A.frames = some (env :: outer)) (hl : s.heap.FunFrames base (env :: outer)) (hf : env.frame = some L)
    (he : s.heap.get? e = some oe) (hkb : base.StaysIn s.heap) (hen : base.get? e = none) (hd : oe.data = .fields vs) (h1 : vs[1]? = some .none) (h0 : vs[0]? = some a0)
    (h : ∀ h', Heap.NotedW base (env :: outer) e oe.cls a0 (rawInt L) s.heap h' → Q () { s with heap := h' }) : wpAny M A (noteFrame (.ref e) env) Q E s := by
  unfold noteFrame
  simp only [hf]
  refine wpAny_bind (wpAny_field he hd h1 ?_)
  rw [if_neg (by decide)]
  exact wpAny_entryW hfr hl hf he hkb hen hd (Array.getElem?_eq_some_iff.mp h1).1 h0 h

theorem flight_at {base : Heap} {l : List Env} {e L : Addr} {cls a0 : Value} {Q : Unit → Shared → Prop} (hh : Heap.HeldW base l e cls a0 L s.heap)
    (hQ : ∀ h', Heap.HeldW base l e cls a0 L h' → s.heap.UpToSlots h' → Q () { s with heap := h' }) : wpAny M A (setFlight (.ref e) (some L)) Q E s := by
  obtain ⟨hkb, f2, hl, oe, vs, T, oT, ts, he, hcls, hd, h1, hnT, hTe, hT, hdT, h3⟩ := hh
  have hsz3 : 3 < ts.size := (Array.getElem?_eq_some_iff.mp h3).1
  have other : ∀ b, b ≠ T → (s.heap.update T (Obj.mapFields (·.setIfInBounds 3 (rawInt L)))).get? b = s.heap.get? b :=
    fun b hb => Heap.get?_update_other _ _ (Ne.symm hb)
  have noRecord : ∀ b o, s.heap.get? b = some o → (∀ vs, o.data ≠ .fields vs) → b ≠ T := fun b o hb hnf q => by
    rw [q, hT] at hb; injection hb with hb; subst hb; exact hnf ts hdT
  unfold setFlight
  refine wpAny_bind (wpAny_field he hd h1 ?_)
  rw [if_pos (show (Value.ref T != Value.none) = true from by simp)]
  refine wpAny_setField hT hdT hsz3 (hQ _ ⟨fun b o hbo => (other b fun q => by rw [q, hnT] at hbo; cases hbo).trans (hkb b o hbo), f2,
    hl.of_keeps fun b o hb hnf => ⟨o, (other b (noRecord b o hb hnf)).trans hb, rfl⟩, ?_⟩ fun b o hb hnf => ⟨o.slots, (other b (noRecord b o hb hnf)).trans hb⟩)
  exact ⟨oe, vs, T, _, _, (other e (Ne.symm hTe)).trans he, hcls, hd, h1, hnT, hTe, Heap.get?_update_self _ hT (Obj.isFreed_of_fields (Obj.data_mapFields hdT _)), Obj.data_mapFields hdT _, by simp [hsz3]⟩

variable {hb : Heap} {sc : Sh} {env : Env} {outer : List Env} {cls : String} {sr : Shared} {x : Value} {X : List Addr} {ρ : Ren}
theorem Flight.held {Q : Unit → Shared → Prop} (fl : Flight env outer cls sr x s) (o : OutOk hb (some outer) sc env A X sr.heap) (en : EnvOk hb sc env ρ X sr.heap)
    (h : ∀ e B a0 h', x = .ref e → Heap.HeldW B (env :: outer) e (.type cls) a0 env.locals h' → (∀ b o, b ∉ frs env outer → sr.heap.get? b = some o → B.get? b = some o) → sr.heap.UpToSlots h' → Q () { s with heap := h' }) :
    wpAny M A (noteFrame x env) Q E s := by
  obtain ⟨_, _, e, rfl, st⟩ := fl
  obtain ⟨o1, o2, o3⟩ := o
  rcases st with mk | ⟨B, a0, hd, hB, sl⟩
  · obtain ⟨ob, t, he, hoc, hod⟩ := mk.there
    have ff : sr.heap.FunFrames (hideAll sr.heap (frs env outer)) (env :: outer) := funFrames_of fun f hf => by
      rcases List.mem_cons.mp hf with rfl | hf
      · obtain ⟨m, ⟨ol, es, ep, ho, hdd, _⟩, _⟩ := en.vars
        exact ⟨by rw [en.kind]; decide, f.locals, ol, o2, hideAll_none _ (List.mem_filterMap.mpr ⟨f, .head _, o2⟩), ho, fun vs q => by rw [hdd] at q; cases q⟩
      · obtain ⟨a1, L, ol, a2, _, _, _, a6, a7⟩ := o3 f hf
        exact ⟨a1, L, ol, a2, hideAll_none _ (List.mem_filterMap.mpr ⟨f, .tail _ hf, a2⟩), a6, fun vs q => by obtain ⟨es, ep, a7⟩ := a7; rw [a7] at q; cases q⟩
    have ff' := ff.of_keeps (h' := s.heap) fun b o hb _ => ⟨o, mk.keeps b o hb, rfl⟩
    have fresh : ∀ b, sr.heap.get? b = none → (hideAll sr.heap (frs env outer)).get? b = none := fun b hb => by
      cases hq : (hideAll sr.heap (frs env outer)).get? b with
      | none => rfl
      | some o' => have := of_hideAll _ hq; rw [hb] at this; cases this
    refine note_firstW (a0 := t) o1 ff' o2 he (fun b o q => mk.keeps b o (of_hideAll _ q)) (fresh e mk.new) hod rfl rfl fun h' hN => ?_
    rw [hoc] at hN
    obtain ⟨k1, k2, k3, k4⟩ := hN
    exact h e _ t h' rfl ⟨k1, fresh e mk.new, k2, k3⟩ (fun b o hn q => hideAll_get _ q hn) ((Heap.UpToSlots.of_keeps mk.keeps).trans k4)
  · exact wpAny_noteFrame_againW o2 hd.2.2.2 (h e B a0 s.heap rfl hd hB sl)

/-- out of a loop of this frame -/
theorem Flight.pass (fl : Flight env outer cls sr x s) (o : OutOk hb (some outer) sc env A X sr.heap) (en : EnvOk hb sc env ρ X sr.heap)
    (h : ∀ s', Flight env outer cls sr x s' → E x s') : notedBy M A env (fun e s' => cameBackBy M A env E e s') x s := by
  refine fl.held o en fun e B a0 h' hx hh hB sl => ?_
  subst hx
  unfold cameBackBy
  obtain ⟨k1, k2, k3, oe, vs, T, oT, ts, he, hcls, hd, h1, hrest⟩ := id hh
  refine wpAny_bind (wpAny_field he hd h1 ?_)
  rw [if_neg (show ¬ ((Value.ref T == Value.none) = true) from by simp)]
  rw [o.2.1]
  refine flight_at hh fun h2 hh2 sl2 => h _ ⟨fl.os, fl.gens, e, rfl, .inr ⟨B, a0, hh2, hB, sl.trans sl2⟩⟩
end

/-! Statements that may raise. -/
noncomputable abbrev XP := String → Mem → Prop
section
variable (prog : Program) (w : World) (hb : Heap)
structure WFx (fo : Option (List Env)) (sc : Sh) (env : Env) (A : Around) (E : Value → Shared → Prop) (t : Sem Flow) (μ : Mem) (Ψ : AFlow → Ren → Mem → Prop) (Ξ : XP) (s : Shared) : Prop where
  run : ∀ Q : Flow → Shared → Prop, (∀ f af ρ' μ' s', Ψ af ρ' μ' → FlR (dom μ') s'.heap f af → EnvOk hb sc env ρ' (dom μ') s'.heap → Ok hb μ' s' → Fw (own sc env ++ dom μ) (own sc env ++ dom μ') s s' → Q f s') →
    (∀ outer cls μ' sr x s', fo = some outer → Ξ cls μ' → EnvOk hb sc env [] (dom μ') sr.heap → Ok hb μ' sr → Fw (own sc env ++ dom μ) (own sc env ++ dom μ') s sr → Flight env outer cls sr x s' → E x s') → wpAny (model prog w) A t Q E s
noncomputable def WpSx (fo : Option (List Env)) (sc : Sh) (k : Nat) (ss : List Stmt) (ρ : Ren) (μ : Mem) (Ψ : AFlow → Ren → Mem → Prop) (Ξ : XP) : Prop :=
  ∀ (env : Env) (A : Around) (s : Shared) (E : Value → Shared → Prop), Calm k A → EnvOk hb sc env ρ (dom μ) s.heap → Ok hb μ s → OutOk hb fo sc env A (dom μ) s.heap → WFx prog w hb fo sc env A E (execs ss env) μ Ψ Ξ s
noncomputable def Wp1x (fo : Option (List Env)) (sc : Sh) (k : Nat) (st : Stmt) (ρ : Ren) (μ : Mem) (Ψ : AFlow → Ren → Mem → Prop) (Ξ : XP) : Prop :=
  ∀ (env : Env) (A : Around) (s : Shared) (E : Value → Shared → Prop), Calm k A → EnvOk hb sc env ρ (dom μ) s.heap → Ok hb μ s → OutOk hb fo sc env A (dom μ) s.heap → WFx prog w hb fo sc env A E (exec st env) μ Ψ Ξ s
end

section
variable {prog : Program} {w : World} {hb : Heap} {fo : Option (List Env)} {sc : Sh} {k : Nat} {ρ : Ren} {μ : Mem} {Ψ : AFlow → Ren → Mem → Prop} {Ξ : XP}
theorem Wp1x.of {st : Stmt} (h : Wp1 prog w hb sc k st ρ μ Ψ) : Wp1x prog w hb fo sc k st ρ μ Ψ Ξ := fun env A s E c en y _ => ⟨fun Q hQ _ => (h env A s E c en y).run Q hQ⟩
theorem WpSx.of {ss : List Stmt} (h : WpS prog w hb sc k ss ρ μ Ψ) : WpSx prog w hb fo sc k ss ρ μ Ψ Ξ := fun env A s E c en y _ => ⟨fun Q hQ _ => (h env A s E c en y).run Q hQ⟩
theorem Wp1.ofx {st : Stmt} (h : Wp1x prog w hb none sc k st ρ μ Ψ (fun _ _ => False)) : Wp1 prog w hb sc k st ρ μ Ψ := fun env A s E c en y => ⟨fun Q hQ => (h env A s E c en y trivial).run Q hQ (fun _ _ _ _ _ _ q => by cases q)⟩
theorem WpS.ofx {ss : List Stmt} (h : WpSx prog w hb none sc k ss ρ μ Ψ (fun _ _ => False)) : WpS prog w hb sc k ss ρ μ Ψ := fun env A s E c en y => ⟨fun Q hQ => (h env A s E c en y trivial).run Q hQ (fun _ _ _ _ _ _ q => by cases q)⟩

theorem WpSx.nil (h : Ψ .next ρ μ) : WpSx prog w hb fo sc k [] ρ μ Ψ Ξ := .of (.nil h)
noncomputable def seqPostX (prog : Program) (w : World) (hb : Heap) (fo : Option (List Env)) (sc : Sh) (k : Nat) (rest : List Stmt) (Ψ : AFlow → Ren → Mem → Prop) (Ξ : XP) : AFlow → Ren → Mem → Prop
  | .next, ρ', μ' => WpSx prog w hb fo sc k rest ρ' μ' Ψ Ξ
  | af, ρ', μ' => Ψ af ρ' μ'
theorem WpSx.cons {st : Stmt} {rest : List Stmt} (h : Wp1x prog w hb fo sc k st ρ μ (seqPostX prog w hb fo sc k rest Ψ Ξ) Ξ) : WpSx prog w hb fo sc k (st :: rest) ρ μ Ψ Ξ := by
  intro env A s E c e y o
  refine ⟨fun Q hQ hE => ?_⟩
  refine wpAny_execs_cons ((h env A s E c e y o).run _ (fun f af ρ' μ' s' h' fl e' y' f' => ?_) hE)
  cases af with
  | next =>
    cases f with
    | next => exact (h' env A s' E c e' y' (o.step f')).run Q (fun f2 af2 ρ2 μ2 s2 b1 b2 b3 b4 b5 => hQ f2 af2 ρ2 μ2 s2 b1 b2 b3 b4 (f'.trans b5)) fun outer cls μ2 sr x s2 c1 c2 c3 c4 c5 c6 => hE outer cls μ2 sr x s2 c1 c2 c3 c4 (f'.trans c5) c6
    | brk => cases fl
    | cont => cases fl
    | ret v => cases fl
  | brk =>
    cases f with
    | brk => exact hQ _ _ _ _ _ h' fl e' y' f'
    | next => cases fl
    | cont => cases fl
    | ret v => cases fl
  | cont =>
    cases f with
    | cont => exact hQ _ _ _ _ _ h' fl e' y' f'
    | next => cases fl
    | brk => cases fl
    | ret v => cases fl
  | ret d =>
    cases f with
    | ret v => exact hQ _ _ _ _ _ h' fl e' y' f'
    | next => cases fl
    | brk => cases fl
    | cont => cases fl
theorem Wp1x.ite {t : Expr} {a b : List Stmt} {pos : Pos} (h : WpB prog w hb sc k t ρ μ (fun q μ₁ => if q then WpSx prog w hb fo sc k a ρ μ₁ Ψ Ξ else WpSx prog w hb fo sc k b ρ μ₁ Ψ Ξ)) : Wp1x prog w hb fo sc k (.If t a b pos) ρ μ Ψ Ξ := by
  intro env A s E c e y o
  refine ⟨fun Q hQ hE => ?_⟩
  refine wpAny_If ((h env A s E c e y).run _ fun q μ₁ s₁ h₁ y₁ f₁ => ?_)
  have fl := f₁.lift (own sc env)
  cases q
  · exact (h₁ env A s₁ E c (e.step f₁) y₁ (o.step fl)).run Q (fun f2 af2 ρ2 μ2 s2 b1 b2 b3 b4 b5 => hQ f2 af2 ρ2 μ2 s2 b1 b2 b3 b4 (fl.trans b5)) fun outer cls μ2 sr x s2 c1 c2 c3 c4 c5 c6 => hE outer cls μ2 sr x s2 c1 c2 c3 c4 (fl.trans c5) c6
  · exact (h₁ env A s₁ E c (e.step f₁) y₁ (o.step fl)).run Q (fun f2 af2 ρ2 μ2 s2 b1 b2 b3 b4 b5 => hQ f2 af2 ρ2 μ2 s2 b1 b2 b3 b4 (fl.trans b5)) fun outer cls μ2 sr x s2 c1 c2 c3 c4 c5 c6 => hE outer cls μ2 sr x s2 c1 c2 c3 c4 (fl.trans c5) c6

/-- what a turn of a loop leaves -/
noncomputable def turnPost (I : Ren → Mem → Prop) (Ψ : AFlow → Ren → Mem → Prop) : AFlow → Ren → Mem → Prop
  | .next, ρ', μ' => I ρ' μ'
  | .cont, ρ', μ' => I ρ' μ'
  | .brk, ρ', μ' => Ψ .next ρ' μ'
  | .ret d, ρ', μ' => Ψ (.ret d) ρ' μ'

theorem turn_flow {X : List Addr} {h : Heap} {f : Flow} {af : AFlow} {G : Prop} (b : FlR X h f af) (h1 : f = .next → af = .next → G) (h2 : f = .brk → af = .brk → G) (h3 : f = .cont → af = .cont → G) (h4 : ∀ v d, f = .ret v → af = .ret d → G) : G := by
  cases f with
  | next => cases af with
    | next => exact h1 rfl rfl
    | _ => cases b
  | brk => cases af with
    | brk => exact h2 rfl rfl
    | _ => cases b
  | cont => cases af with
    | cont => exact h3 rfl rfl
    | _ => cases b
  | ret v => cases af with
    | ret d => exact h4 v d rfl rfl
    | _ => cases b

/-- while, with a measure -/
theorem Wp1x.while {t : Expr} {body orelse : List Stmt} {pos : Pos} (I : Nat → Ren → Mem → Prop) (n : Nat) (h0 : I n ρ μ)
    (turn : ∀ n ρ μ, I n ρ μ → WpB prog w hb sc k t ρ μ (fun q μ₁ => if q then WpSx prog w hb fo sc k body ρ μ₁ (turnPost (fun ρ' μ' => ∃ m, m < n ∧ I m ρ' μ') Ψ) Ξ else WpSx prog w hb fo sc k orelse ρ μ₁ Ψ Ξ)) :
    Wp1x prog w hb fo sc k (.While t body orelse pos) ρ μ Ψ Ξ := by
  intro env A s E c e y o
  refine ⟨fun Q hQ hE => ?_⟩
  refine wpAny_While (codeAny_whileLoop (fun n s' => ∃ ρ' μ', I n ρ' μ' ∧ EnvOk hb sc env ρ' (dom μ') s'.heap ∧ Ok hb μ' s' ∧ Fw (own sc env ++ dom μ) (own sc env ++ dom μ') s s') (fun n s1 hI => ?_) n ⟨ρ, μ, h0, e, y, Fw.refl _ _⟩)
  obtain ⟨ρ1, μ1, hi, e1, y1, f1⟩ := hI
  refine (turn n ρ1 μ1 hi env A s1 _ c e1 y1).run _ fun q μ2 s2 h2 y2 f2 => ?_
  have f2l := f2.lift (own sc env)
  have o2 := o.step (f1.trans f2l)
  have hE2 : ∀ outer cls μ' sr x s', fo = some outer → Ξ cls μ' → EnvOk hb sc env [] (dom μ') sr.heap → Ok hb μ' sr → Fw (own sc env ++ dom μ2) (own sc env ++ dom μ') s2 sr → Flight env outer cls sr x s' →
      notedBy (model prog w) A env (fun e s' => cameBackBy (model prog w) A env E e s') x s' := fun outer cls μ' sr x s' b1 b2 b3 b4 b5 b6 => by
    subst b1
    exact b6.pass (o2.step b5) b3 fun s'' fl => hE outer cls μ' sr x s'' rfl b2 b3 b4 ((f1.trans f2l).trans b5) fl
  cases q
  · exact (h2 env A s2 _ c (e1.step f2) y2 o2).run _ (fun f af ρ' μ' s' b1 b2 b3 b4 b5 => hQ f af ρ' μ' s' b1 b2 b3 b4 ((f1.trans f2l).trans b5)) hE2
  · refine (h2 env A s2 _ c (e1.step f2) y2 o2).run _ (fun f af ρ' μ' s' b1 b2 b3 b4 b5 => ?_) hE2
    have ft := (f1.trans f2l).trans b5
    refine turn_flow b2 (fun z1 z2 => ?_) (fun z1 z2 => ?_) (fun z1 z2 => ?_) fun v d z1 z2 => ?_
    all_goals subst z1; subst z2
    · obtain ⟨m, hm, hi'⟩ := b1
      exact ⟨m, hm, ρ', μ', hi', b3, b4, ft⟩
    · exact hQ .next .next ρ' μ' s' b1 trivial b3 b4 ft
    · obtain ⟨m, hm, hi'⟩ := b1
      exact ⟨m, hm, ρ', μ', hi', b3, b4, ft⟩
    · exact hQ _ _ ρ' μ' s' b1 b2 b3 b4 ft
end
end Mine

end

noncomputable section
namespace Mine

theorem EnvOk.ownSeq {hb : Heap} {sc : Sh} {env : Env} {ρ : Ren} {X : List Addr} {h : Heap} (en : EnvOk hb sc env ρ X h) : ∀ b ∈ own sc env, ∀ o xs n, h.get? b = some o → o.data ≠ .seq xs n := by
  intro b hb' o xs n ho hd
  rcases own_mem hb' with z | ⟨x, h1, h2⟩
  · subst z; exact en.notSeq o xs n ho hd
  · obtain ⟨_, _, _, v, oc, hoc, hdc⟩ := en.cells x b h1 h2
    rw [ho] at hoc; cases hoc; rw [hd] at hdc; cases hdc
theorem Rd.stepO {hb : Heap} {sc : Sh} {env : Env} {ρ : Ren} {X X' : List Addr} {s s' : Shared} {v : Value} {d : Dat} (en : EnvOk hb sc env ρ X s.heap) (f : Fw (own sc env ++ X) (own sc env ++ X') s s') (r : Rd X s.heap v d) : Rd X' s'.heap v d := by
  have r1 : Rd (own sc env ++ X) s.heap v d := r.lessS fun b o xs n hb' hd e hm => by
    rcases List.mem_append.mp hm with hm | hm
    · exact en.ownSeq b hm o xs n e hd
    · exact hb' hm
  exact (r1.step f).sub fun b hm => List.mem_append_right _ hm

section
variable (prog : Program) (w : World) (hb : Heap) (fo : Option (List Env)) (sc : Sh) (k : Nat) (tgt : Expr) (body orelse : List Stmt) (Ψ : AFlow → Ren → Mem → Prop) (Ξ : XP)
/-- what a turn of a for loop leaves; P: the iterator's own objects -/
noncomputable def forPost (P : Mem) (I : Ren → Mem → Prop) (Ψ : AFlow → Ren → Mem → Prop) : AFlow → Ren → Mem → Prop
  | .next, ρ', μ2 => ∃ μ', μ2 = P ++ μ' ∧ I ρ' μ'
  | .cont, ρ', μ2 => ∃ μ', μ2 = P ++ μ' ∧ I ρ' μ'
  | .brk, ρ', μ2 => ∃ μ', μ2 = P ++ μ' ∧ Ψ .next ρ' μ'
  | .ret d, ρ', μ2 => ∃ μ', μ2 = P ++ μ' ∧ Ψ (.ret d) ρ' μ'
noncomputable def forW : List Dat → Ren → Mem → Prop
  | [], ρ, μ => WpSx prog w hb fo sc k orelse ρ μ Ψ Ξ
  | d :: ds, ρ, μ => ∃ ρ₁, bindT tgt d = some ρ₁ ∧ (∀ p ∈ ρ₁, sc.names.lookup p.1 = some .local) ∧
      ∀ P, Off P μ → WpSx prog w hb fo sc k body (ρ₁ ++ ρ) (P ++ μ) (forPost P (forW ds) Ψ) (fun cls μ2 => ∃ μ', μ2 = P ++ μ' ∧ Ξ cls μ')
end

section
variable {prog : Program} {w : World} {hb : Heap} {fo : Option (List Env)} {sc : Sh} {k : Nat} {ρ : Ren} {μ : Mem} {Ψ : AFlow → Ren → Mem → Prop} {Ξ : XP}
theorem FlR.sub {X Y : List Addr} {h : Heap} {f : Flow} {af : AFlow} (r : FlR X h f af) (kk : ∀ b, b ∈ Y → b ∈ X) : FlR Y h f af := by
  refine turn_flow r (fun a b => ?_) (fun a b => ?_) (fun a b => ?_) fun v d a b => ?_
  all_goals subst a; subst b
  · trivial
  · trivial
  · trivial
  · exact Rd.sub r kk

theorem dropIn {P μ : Mem} {b : Addr} (h : b ∈ dom μ) : b ∈ dom (P ++ μ) := by rw [dom_append]; exact List.mem_append_right _ h
theorem Fw.dropO {X L : List Addr} {P μ : Mem} {s s' : Shared} (f : Fw X (L ++ Mine.dom (P ++ μ)) s s') : Fw X (L ++ Mine.dom μ) s s' :=
  f.sets (fun _ h => h) fun b hm => .inl ((List.mem_append.mp hm).elim (fun h => List.mem_append_left _ h) fun h => List.mem_append_right _ (dropIn h))

theorem Wp1x.for {tgt iter : Expr} {body orelse : List Stmt} {pos : Pos} (h : WpIt prog w hb sc k tgt iter ρ μ (fun items μ₁ => forW prog w hb fo sc k tgt body orelse Ψ Ξ items ρ μ₁)) (hp : plainTgt tgt = true := by rfl) (hset : noSet iter = true := by rfl) :
    Wp1x prog w hb fo sc k (.For tgt iter body orelse pos) ρ μ Ψ Ξ := by
  intro env A s E c e y o
  refine ⟨fun Q hQ hE => ?_⟩
  refine wpAny_For ?_ (noSet_ok hset env)
  refine h.run env A s E _ c e y fun I items P srcs μ1 s1 h1 it1 y1 hs1 f1 => ?_
  have f1l := f1.lift (own sc env)
  refine codeAny_forLoop_any (fun n s' => ∃ items ρ' μ' P', items.length = n ∧ forW prog w hb fo sc k tgt body orelse Ψ Ξ items ρ' μ' ∧ Iter prog w hb srcs tgt I items P' ∧ EnvOk hb sc env ρ' (dom (P' ++ μ')) s'.heap ∧ Ok hb (P' ++ μ') s' ∧
      (∀ p ∈ srcs, Rd (dom (P' ++ μ')) s'.heap p.1 p.2) ∧ Fw (own sc env ++ dom μ) (own sc env ++ dom (P' ++ μ')) s s') (fun n s2 hI => ?_) items.length ⟨items, ρ, μ1, P, rfl, h1, it1, e.step f1, y1, hs1, f1l⟩
  obtain ⟨items2, ρ2, μ2, P2, hn, hW, it2, e2, y2, hs2, f2⟩ := hI
  cases items2 with
  | nil =>
    refine it2.2.2 k A _ s2 μ2 _ c y2 hs2 fun s3 y3 f3 => ?_
    have f3l := f3.lift (own sc env)
    have ft := f2.trans f3l
    refine (hW env A s3 _ c (e2.step f3) y3 (o.step ft)).run _ (fun f af ρ' μ' s' b1 b2 b3 b4 b5 => hQ f af ρ' μ' s' b1 b2 b3 b4 (ft.trans b5)) fun outer cls μ' sr x s' b1 b2 b3 b4 b5 b6 => ?_
    subst b1
    exact b6.pass ((o.step ft).step b5) b3 fun s'' fl => hE outer cls μ' sr x s'' rfl b2 b3 b4 (ft.trans b5) fl
  | cons d ds =>
    obtain ⟨ρ₁, hb1, hb2, hbody⟩ := hW
    refine wpAny_mono (it2.2.2 k A _ s2 μ2 (fun v s' => wpAny (model prog w) A (PySem.assign tgt env v) (fun _ s₂ => wpAny (model prog w) A (execs body env) (fun f s₃ => match f with
            | .next | .cont => ∃ m, m < n ∧ ∃ items ρ' μ' P', items.length = m ∧ forW prog w hb fo sc k tgt body orelse Ψ Ξ items ρ' μ' ∧ Iter prog w hb srcs tgt I items P' ∧ EnvOk hb sc env ρ' (dom (P' ++ μ')) s₃.heap ∧ Ok hb (P' ++ μ') s₃ ∧
      (∀ p ∈ srcs, Rd (dom (P' ++ μ')) s₃.heap p.1 p.2) ∧ Fw (own sc env ++ dom μ) (own sc env ++ dom (P' ++ μ')) s s₃
            | .brk => Q .next s₃
            | .ret v => Q (.ret v) s₃) (notedBy (model prog w) A env fun e s' => cameBackBy (model prog w) A env E e s') s₂) (notedBy (model prog w) A env fun e s' => cameBackBy (model prog w) A env E e s') s') c y2 hs2 fun v s3 P3 it3 hP3 rv3 y3 f3 => ?_) (fun r s3 h3 => ?_) fun _ _ z => z
    rotate_left
    · obtain ⟨v, rfl, h3⟩ := h3
      exact h3
    · have e3 := e2.step f3
      have hs3 : ∀ p ∈ srcs, Rd (dom (P3 ++ μ2)) s3.heap p.1 p.2 := fun p hm => (hs2 p hm).step f3
      refine assignT c.han hb1 hb2 (fun es n p z => plain_each es (by rw [z] at hp; exact hp)) e3 y3 rv3 fun h4 tk4 e4 y4 k4 => ?_
      have f4 : Fw (own sc env ++ dom (P3 ++ μ2)) (own sc env ++ dom (P3 ++ μ2)) s3 { s3 with heap := h4, toks := tk4 } := ⟨fun b o hb' z => k4 b o (fun q => hb' (q ▸ List.mem_append_left _ (.head _))) z, fun _ h => .inl h, rfl, fun z => z⟩
      have hs4 : ∀ p ∈ srcs, Rd (dom (P3 ++ μ2)) h4 p.1 p.2 := fun p hm => (hs3 p hm).stepO (s' := { s3 with heap := h4, toks := tk4 }) e3 f4
      have ft := (f2.trans (f3.lift (own sc env))).trans f4
      refine (hbody P3 y3.offP env A _ _ c e4 y4 (o.step ft)).run _ (fun f af ρ' μ' s' b1 b2 b3 b4 b5 => ?_) fun outer cls μ' sr x s' b1 b2 b3 b4 b5 b6 => ?_
      · have ft2 := ft.trans b5
        have hs5 : ∀ p ∈ srcs, Rd (dom μ') s'.heap p.1 p.2 := fun p hm => (hs4 p hm).stepO e4 b5
        refine turn_flow b2 (fun z1 z2 => ?_) (fun z1 z2 => ?_) (fun z1 z2 => ?_) fun v d z1 z2 => ?_
        all_goals subst z1; subst z2; obtain ⟨μ5, rfl, b1⟩ := b1
        · exact ⟨ds.length, by rw [← hn]; exact Nat.lt_succ_self _, ds, ρ', μ5, P3, rfl, b1, it3, b3, b4, hs5, ft2⟩
        · exact hQ .next .next ρ' μ5 s' b1 trivial (b3.sub fun b hm => dropIn hm) b4.drop ft2.dropO
        · exact ⟨ds.length, by rw [← hn]; exact Nat.lt_succ_self _, ds, ρ', μ5, P3, rfl, b1, it3, b3, b4, hs5, ft2⟩
        · exact hQ _ _ ρ' μ5 s' b1 (b2.sub fun b hm => dropIn hm) (b3.sub fun b hm => dropIn hm) b4.drop ft2.dropO
      · subst b1
        obtain ⟨μ5, rfl, b2⟩ := b2
        exact b6.pass ((o.step ft).step b5) b3 fun s'' fl => hE outer cls μ5 sr x s'' rfl b2 (b3.sub fun b hm => dropIn hm) b4.drop (ft.trans b5).dropO fl
end
end Mine

end

noncomputable section
namespace Mine
/-! Expressions that change nothing. -/
/-- what an expression may lean on: it stays when the iterators' own objects come before -/
structure MP where
  holds : Mem → Prop
  up : ∀ P μ, holds μ → holds (P ++ μ)
noncomputable def MP.all : MP := ⟨fun _ => True, fun _ _ _ => trivial⟩
section
variable (prog : Program) (w : World) (hb : Heap) (M : MP)
noncomputable def PE (sc : Sh) (k : Nat) (e : Expr) (ρ : Ren) (d : Dat) : Prop := ∀ μ, M.holds μ → WpE prog w hb sc k e ρ μ (fun d' μ' => d' = d ∧ μ' = μ)
noncomputable def PA (sc : Sh) (k : Nat) (es : List Expr) (ρ : Ren) (ds : List Dat) : Prop := ∀ pos μ, M.holds μ → WpA prog w hb sc k es pos ρ μ (fun ds' μ' => ds' = ds ∧ μ' = μ)
noncomputable def PB (sc : Sh) (k : Nat) (e : Expr) (ρ : Ren) (b : Bool) : Prop := ∀ μ, M.holds μ → WpB prog w hb sc k e ρ μ (fun b' μ' => b' = b ∧ μ' = μ)
noncomputable def PIt (sc : Sh) (k : Nat) (tgt e : Expr) (ρ : Ren) (items : List Dat) : Prop := ∀ μ, M.holds μ → WpIt prog w hb sc k tgt e ρ μ (fun it μ' => it = items ∧ μ' = μ)
noncomputable def PAll (sc : Sh) (k : Nat) (op : BoolOp) (es : List Expr) (ρ : Ren) (b : Bool) : Prop := ∀ μ, M.holds μ → WpAll prog w hb sc k op es ρ μ (fun b' μ' => b' = b ∧ μ' = μ)
end
noncomputable def PC (prog : Program) (w : World) (hb : Heap) (k : Nat) (fa : Addr) (ds : List Dat) (d : Dat) : Prop := ∀ μ, WpC prog w hb k fa ds μ (fun d' μ' => d' = d ∧ μ' = μ)
section
variable {prog : Program} {w : World} {hb : Heap} {M : MP} {sc : Sh} {k : Nat} {ρ : Ren} {μ : Mem} {Φ : Dat → Mem → Prop}

theorem WpA.mono {es : List Expr} {pos : Pos} {Φ Ψ : List Dat → Mem → Prop} (h : WpA prog w hb sc k es pos ρ μ Φ) (kk : ∀ d μ', Φ d μ' → Ψ d μ') : WpA prog w hb sc k es pos ρ μ Ψ :=
  fun env A s E c x y => ⟨fun Q hQ => (h env A s E c x y).run Q fun v d μ' s' a b c e => hQ v d μ' s' (kk d μ' a) b c e⟩
theorem WpB.mono {e : Expr} {Φ Ψ : Bool → Mem → Prop} (h : WpB prog w hb sc k e ρ μ Φ) (kk : ∀ d μ', Φ d μ' → Ψ d μ') : WpB prog w hb sc k e ρ μ Ψ :=
  fun env A s E c x y => ⟨fun Q hQ => (h env A s E c x y).run Q fun d μ' s' a c e => hQ d μ' s' (kk d μ' a) c e⟩
theorem WpAll.mono {op : BoolOp} {es : List Expr} {Φ Ψ : Bool → Mem → Prop} (h : WpAll prog w hb sc k op es ρ μ Φ) (kk : ∀ d μ', Φ d μ' → Ψ d μ') : WpAll prog w hb sc k op es ρ μ Ψ :=
  fun env A s E c x y => ⟨fun Q hQ => (h env A s E c x y).run Q fun d μ' s' a c e => hQ d μ' s' (kk d μ' a) c e⟩
theorem WpIt.mono {tgt e : Expr} {Φ Ψ : List Dat → Mem → Prop} (h : WpIt prog w hb sc k tgt e ρ μ Φ) (kk : ∀ d μ', Φ d μ' → Ψ d μ') : WpIt prog w hb sc k tgt e ρ μ Ψ :=
  ⟨fun env A s E Q c x y hQ => h.run env A s E Q c x y fun I items P srcs μ' s' a b => hQ I items P srcs μ' s' (kk _ _ a) b⟩

theorem PE.useM {e : Expr} {d : Dat} (h : PE prog w hb M sc k e ρ d) (hM : M.holds μ) (hΦ : Φ d μ) : WpE prog w hb sc k e ρ μ Φ := (h μ hM).mono fun d' μ' z => by obtain ⟨rfl, rfl⟩ := z; exact hΦ
theorem PB.useM {e : Expr} {b : Bool} {Φ : Bool → Mem → Prop} (h : PB prog w hb M sc k e ρ b) (hM : M.holds μ) (hΦ : Φ b μ) : WpB prog w hb sc k e ρ μ Φ := (h μ hM).mono fun d' μ' z => by obtain ⟨rfl, rfl⟩ := z; exact hΦ
theorem PA.useM {es : List Expr} {pos : Pos} {ds : List Dat} {Φ : List Dat → Mem → Prop} (h : PA prog w hb M sc k es ρ ds) (hM : M.holds μ) (hΦ : Φ ds μ) : WpA prog w hb sc k es pos ρ μ Φ := (h pos μ hM).mono fun d' μ' z => by obtain ⟨rfl, rfl⟩ := z; exact hΦ
theorem PIt.useM {tgt e : Expr} {ds : List Dat} {Φ : List Dat → Mem → Prop} (h : PIt prog w hb M sc k tgt e ρ ds) (hM : M.holds μ) (hΦ : Φ ds μ) : WpIt prog w hb sc k tgt e ρ μ Φ := (h μ hM).mono fun d' μ' z => by obtain ⟨rfl, rfl⟩ := z; exact hΦ
theorem PE.use {e : Expr} {d : Dat} (h : PE prog w hb MP.all sc k e ρ d) (hΦ : Φ d μ) : WpE prog w hb sc k e ρ μ Φ := h.useM trivial hΦ
theorem PB.use {e : Expr} {b : Bool} {Φ : Bool → Mem → Prop} (h : PB prog w hb MP.all sc k e ρ b) (hΦ : Φ b μ) : WpB prog w hb sc k e ρ μ Φ := h.useM trivial hΦ
theorem PA.use {es : List Expr} {pos : Pos} {ds : List Dat} {Φ : List Dat → Mem → Prop} (h : PA prog w hb MP.all sc k es ρ ds) (hΦ : Φ ds μ) : WpA prog w hb sc k es pos ρ μ Φ := h.useM trivial hΦ
theorem PIt.use {tgt e : Expr} {ds : List Dat} {Φ : List Dat → Mem → Prop} (h : PIt prog w hb MP.all sc k tgt e ρ ds) (hΦ : Φ ds μ) : WpIt prog w hb sc k tgt e ρ μ Φ := h.useM trivial hΦ
theorem PC.use {fa : Addr} {ds : List Dat} {d : Dat} (h : PC prog w hb k fa ds d) (hΦ : Φ d μ) : WpC prog w hb k fa ds μ Φ := (h μ).mono fun d' μ' z => by obtain ⟨rfl, rfl⟩ := z; exact hΦ

theorem PE.int {i : Int} {n : Nat} {pos : Pos} : PE prog w hb M sc k (.Constant (.int i) n pos) ρ (.int i) := fun μ hM => .int ⟨rfl, rfl⟩
theorem PE.str {x : Str} {n : Nat} {pos : Pos} : PE prog w hb M sc k (.Constant (.str x) n pos) ρ (.str x) := fun μ hM => .str ⟨rfl, rfl⟩
theorem PE.none {n : Nat} {pos : Pos} : PE prog w hb M sc k (.Constant .none n pos) ρ .none := fun μ hM => .none ⟨rfl, rfl⟩
theorem PE.boolc {b : Bool} {n : Nat} {pos : Pos} : PE prog w hb M sc k (.Constant (.bool b) n pos) ρ (.bool b) := fun μ hM => .boolc ⟨rfl, rfl⟩
theorem PE.name {x : Str} {d : Dat} {pos : Pos} (hx : ρ.lookup x = some d := by rfl) (hd : (x == ("__debug__" : Str)) = false := by rfl) (hn : (x == ("__classdict__" : Str)) = false := by rfl) : PE prog w hb M sc k (.Name x pos) ρ d := fun μ hM => .name hx ⟨rfl, rfl⟩ hd hn
theorem PA.nil : PA prog w hb M sc k [] ρ [] := fun pos μ hM => .nil ⟨rfl, rfl⟩
theorem PA.cons {x : Expr} {es : List Expr} {d : Dat} {ds : List Dat} (h : PE prog w hb M sc k x ρ d) (hr : PA prog w hb M sc k es ρ ds) (hs : ∀ env, starEach (x :: es) env = (false, eval x env) :: starEach es env := by intro _; rfl) : PA prog w hb M sc k (x :: es) ρ (d :: ds) :=
  fun pos μ hM => .cons (h.useM hM (hr.useM hM ⟨rfl, rfl⟩)) hs
theorem PE.list {es : List Expr} {pos : Pos} {ds : List Dat} (h : PA prog w hb M sc k es ρ ds) (hn : ds.length ≤ sizeLine := by exact Nat.le_of_ble_eq_true rfl) : PE prog w hb M sc k (.List es pos) ρ (.list ds) := fun μ hM => .list (h.useM hM ⟨hn, rfl, rfl⟩)
theorem PE.tuple {es : List Expr} {n : Nat} {pos : Pos} {ds : List Dat} (h : PA prog w hb M sc k es ρ ds) (hn : ds.length ≤ sizeLine := by exact Nat.le_of_ble_eq_true rfl) : PE prog w hb M sc k (.Tuple es n pos) ρ (.tuple ds) := fun μ hM => .tuple (h.useM hM ⟨hn, rfl, rfl⟩)
theorem PE.bin {l r : Expr} {op : Operator} {pos : Pos} {a b d : Dat} (h1 : PE prog w hb M sc k l ρ a) (h2 : PE prog w hb M sc k r ρ b) (ho : Bop prog w hb (binaryOp op) a b d) : PE prog w hb M sc k (.BinOp l op r pos) ρ d := fun μ hM => .binop (h1.useM hM (h2.useM hM ⟨d, ho, rfl, rfl⟩))
theorem PE.cmp {l r : Expr} {op : CmpOp} {pos : Pos} {a b d : Dat} (h1 : PE prog w hb M sc k l ρ a) (h2 : PE prog w hb M sc k r ρ b) (ho : Bop prog w hb (compareOp op) a b d) (hm : behindInMarks op r = false := by with_unfolding_all rfl) : PE prog w hb M sc k (.Compare l [op] [r] pos) ρ d := fun μ hM => .compare (h1.useM hM (h2.useM hM ⟨d, ho, rfl, rfl⟩)) hm
theorem PB.cmp {l r : Expr} {op : CmpOp} {pos : Pos} {a b : Dat} {q : Bool} (h1 : PE prog w hb M sc k l ρ a) (h2 : PE prog w hb M sc k r ρ b) (ho : Bop prog w hb (compareOp op) a b (.bool q)) (hm : behindInMarks op r = false := by with_unfolding_all rfl) : PB prog w hb M sc k (.Compare l [op] [r] pos) ρ q := fun μ hM => .compare (h1.useM hM (h2.useM hM ⟨q, ho, rfl, rfl⟩)) hm
theorem PB.val {x : Expr} {d : Dat} {b : Bool} (h : PE prog w hb M sc k x ρ d) (ht : Tru prog w hb d b) (he : ∀ env, isTrue x env (eval x env) = (do let v ← eval x env; standAt x.pos; holding [v] (truthy v)) := by intro _; rfl) : PB prog w hb M sc k x ρ b := fun μ hM => .value (h.useM hM ⟨b, ht, rfl, rfl⟩) he
theorem PB.not {x : Expr} {pos : Pos} {b : Bool} (h : PB prog w hb M sc k x ρ b) : PB prog w hb M sc k (.UnaryOp .Not x pos) ρ (!b) := fun μ hM => .not (h.useM hM ⟨rfl, rfl⟩)
theorem PE.ite {t a b : Expr} {pos : Pos} {q : Bool} {d : Dat} (h : PB prog w hb M sc k t ρ q) (h1 : q = true → PE prog w hb M sc k a ρ d) (h2 : q = false → PE prog w hb M sc k b ρ d) : PE prog w hb M sc k (.IfExp t a b pos) ρ d := fun μ hM => .ifexp (h.useM hM (by
  cases q
  · exact h2 rfl μ hM
  · exact h1 rfl μ hM))
theorem PAll.andNil : PAll prog w hb M sc k .And [] ρ true := fun μ hM => .andNil ⟨rfl, rfl⟩
theorem PAll.and {x : Expr} {r : List Expr} {p q : Bool} (h : PB prog w hb M sc k x ρ p) (hr : p = true → PAll prog w hb M sc k .And r ρ q) : PAll prog w hb M sc k .And (x :: r) ρ (p && q) := fun μ hM => .and (h.useM hM (by
  cases p
  · exact ⟨rfl, rfl⟩
  · exact hr rfl μ hM))
theorem PB.all {op : BoolOp} {es : List Expr} {pos : Pos} {b : Bool} (h : PAll prog w hb M sc k op es ρ b) : PB prog w hb M sc k (.BoolOp op es pos) ρ b := fun μ hM => .boolop (h μ hM)
theorem PE.item {value slice : Expr} {pos : Pos} {d₁ : Dat} {ds : List Dat} {i : Int} {d : Dat} (h1 : PE prog w hb M sc k value ρ d₁) (h2 : PE prog w hb M sc k slice ρ (.int i)) (hd : d₁ = .list ds ∨ d₁ = .tuple ds) (h0 : 0 ≤ i) (hi : i < 2 ^ 62) (hg : ds[i.toNat]? = some d)
    (hs : plainIx slice := by intro _ _; rfl) : PE prog w hb M sc k (.Subscript value slice pos) ρ d := fun μ hM => .item (h1.useM hM (h2.useM hM ⟨ds, i, d, hd, rfl, h0, hi, hg, rfl, rfl⟩)) hs
theorem PE.upto {value up : Expr} {p pos : Pos} {ds : List Dat} {i : Int} (h1 : PE prog w hb M sc k value ρ (.list ds)) (h2 : PE prog w hb M sc k up ρ (.int i)) (h0 : 0 ≤ i) (hl : ds.length ≤ sizeLine) (ht : ∀ o r, letTemporaryGo value o r = pure () := by intro _ _; rfl) :
    PE prog w hb M sc k (.Subscript value (.Slice Option.none (some up) Option.none p) pos) ρ (.list (ds.take i.toNat)) := fun μ hM => .upto (h1.useM hM (h2.useM hM ⟨ds, i, rfl, rfl, h0, hl, rfl, rfl⟩)) ht
theorem PE.from {value up : Expr} {p pos : Pos} {ds : List Dat} {i : Int} (h1 : PE prog w hb M sc k value ρ (.list ds)) (h2 : PE prog w hb M sc k up ρ (.int i)) (h0 : 0 ≤ i) (hl : ds.length ≤ sizeLine) (ht : ∀ o r, letTemporaryGo value o r = pure () := by intro _ _; rfl) :
    PE prog w hb M sc k (.Subscript value (.Slice (some up) Option.none Option.none p) pos) ρ (.list (ds.drop i.toNat)) := fun μ hM => .from (h1.useM hM (h2.useM hM ⟨ds, i, rfl, rfl, h0, hl, rfl, rfl⟩)) ht
theorem PIt.list {tgt e : Expr} {ds : List Dat} (h : PE prog w hb M sc k e ρ (.list ds)) (ht : tupOrName tgt = true := by rfl) : PIt prog w hb M sc k tgt e ρ ds := fun μ hM => .list ht (h.useM hM ⟨ds, rfl, rfl, rfl⟩)

/-! comprehensions that change nothing -/
/-- the clauses behind, from this row of names, add these data -/
noncomputable def PG (prog : Program) (w : World) (hb : Heap) (M : MP) (sc : Sh) (k : Nat) (elt : Expr) (gs : List Comprehension) (ρ : Ren) (add : List Dat) : Prop :=
  ∀ acc μ Φ, M.holds μ → acc.length + add.length ≤ sizeLine → Φ (acc ++ add) μ → WpG prog w hb sc k elt gs ρ acc μ Φ
theorem PG.elt {elt : Expr} {d : Dat} (h : PE prog w hb M sc k elt ρ d) : PG prog w hb M sc k elt [] ρ [d] := fun acc μ Φ hM hl hΦ P _ => h.useM (M.up P μ hM) ⟨μ, rfl, by simp at hl; omega, hΦ⟩
noncomputable def PIfs (prog : Program) (w : World) (hb : Heap) (M : MP) (sc : Sh) (k : Nat) (ifs : List Expr) (ρ : Ren) (b : Bool) : Prop :=
  match ifs with
  | [] => b = true
  | [c] => PB prog w hb M sc k c ρ b
  | _ => False
theorem PIfs.use {ifs : List Expr} {b : Bool} {Ψ : Bool → Mem → Prop} (h : PIfs prog w hb M sc k ifs ρ b) (hM : M.holds μ) (hΨ : Ψ b μ) : WpIfs prog w hb sc k ifs ρ μ Ψ := by
  match ifs, h with
  | [], h =>
    have h' : b = true := h
    subst h'; exact hΨ
  | [c], h =>
    have h' : PB prog w hb M sc k c ρ b := h
    exact fun P _ => h'.useM (M.up P μ hM) ⟨μ, rfl, hΨ⟩
end
end Mine

end

noncomputable section
namespace Mine
section
variable (prog : Program) (w : World) (hb : Heap)
/-- a built-in call that changes nothing -/
noncomputable def BC (id : String) (ds : List Dat) (d : Dat) : Prop :=
  ∀ (k : Nat) (A : Around) (E : Value → Shared → Prop) (μ : Mem) (s : Shared) (vs : List Value), Calm k A → Ok hb μ s → RdA (dom μ) s.heap vs ds → WV prog w hb A E (call (.builtin id) vs) μ (fun d' μ' => d' = d ∧ μ' = μ) s
/-- one that may change things -/
noncomputable def BCm (id : String) (k : Nat) (ds : List Dat) (μ : Mem) (Φ : Dat → Mem → Prop) : Prop :=
  ∀ (A : Around) (E : Value → Shared → Prop) (s : Shared) (vs : List Value), Calm k A → Ok hb μ s → RdA (dom μ) s.heap vs ds → WV prog w hb A E (call (.builtin id) vs) μ Φ s
end
noncomputable def noStars (es : List Expr) : Bool := es.all fun | .Starred .. => false | _ => true
theorem noStars_any {pos : Pos} {env : Env} : ∀ {es : List Expr}, noStars es = true → (backTo pos (starEach es env)).any (·.1) = false
  | [], _ => rfl
  | x :: es, h => by
    simp only [noStars, List.all_cons, Bool.and_eq_true] at h
    have ih := noStars_any (pos := pos) (env := env) (es := es) h.2
    cases x <;> first | (exact ih) | (simp at h)

section
variable {prog : Program} {w : World} {hb : Heap} {M : MP} {sc : Sh} {k : Nat} {ρ : Ren} {μ : Mem} {Φ : Dat → Mem → Prop} {mg mb : Str → Option Value}

theorem BC.m {id : String} {ds : List Dat} {d : Dat} (h : BC prog w hb id ds d) (hΦ : Φ d μ) : BCm prog w hb id k ds μ Φ :=
  fun A E s vs c y r => (h k A E μ s vs c y r).mono fun d' μ' z => by obtain ⟨rfl, rfl⟩ := z; exact hΦ
theorem WpE.bcall {x : Str} {np pos : Pos} {args : List Expr} {id : String} (G : hb.Ns mainGlobals mg) (B : hb.Ns builtinsNs mb) (hm : mg x = Option.none) (hv : mb x = some (.builtin id))
    (h : WpA prog w hb sc k args pos ρ μ (fun ds μ₁ => BCm prog w hb id k ds μ₁ Φ)) (hk : sc.names.lookup x = some .globalImplicit := by rfl) (hst : ∀ env, ∃ y r, backTo pos (starEach args env) = (false, y) :: r := by intro _; exact ⟨_, _, rfl⟩)
    (hns : noStars args = true := by rfl) (hd : (x == ("__debug__" : Str)) = false := by rfl) : WpE prog w hb sc k (.Call (.Name x np) args [] pos) ρ μ Φ := by
  intro env A s E c en y
  refine ⟨fun Q hQ => ?_⟩
  refine wpAny_Call_NameR (ev_builtin en y G B hm hv ?_ hk hd)
  refine Calls.callWith_builtin (noStars_any hns) ?_
  have key := h env A s E c en y
  obtain ⟨yy, r, hy⟩ := hst env
  rw [hy] at key ⊢
  refine Calls.evalArgs_plain (key.run _ fun vs ds μ₂ s₂ h₂ r₂ y₂ f₂ => ?_)
  exact (h₂ A E s₂ vs c y₂ r₂).run Q fun v d μ' s' a1 a2 a3 a4 => hQ v d μ' s' a1 a2 a3 (f₂.trans a4)
theorem PE.bcall {x : Str} {np pos : Pos} {args : List Expr} {id : String} {ds : List Dat} {d : Dat} (G : hb.Ns mainGlobals mg) (B : hb.Ns builtinsNs mb) (hm : mg x = Option.none) (hv : mb x = some (.builtin id))
    (h : PA prog w hb M sc k args ρ ds) (hc : BC prog w hb id ds d) (hk : sc.names.lookup x = some .globalImplicit := by rfl) (hst : ∀ env, ∃ y r, backTo pos (starEach args env) = (false, y) :: r := by intro _; exact ⟨_, _, rfl⟩)
    (hns : noStars args = true := by rfl) (hd : (x == ("__debug__" : Str)) = false := by rfl) : PE prog w hb M sc k (.Call (.Name x np) args [] pos) ρ d := fun μ hM => .bcall G B hm hv (h.useM hM (hc.m ⟨rfl, rfl⟩)) hk hst hns hd
theorem PE.call {x : Str} {np pos : Pos} {args : List Expr} {fa : Addr} {o : Obj} {fd : FuncData} {ds : List Dat} {d : Dat} (G : hb.Ns mainGlobals mg) (hx : mg x = some (.ref fa)) (ho : hb.get? fa = some o) (hd : o.data = .func fd)
    (h : PA prog w hb M sc k args ρ ds) (hc : PC prog w hb k fa ds d) (hk : sc.names.lookup x = some .globalImplicit := by rfl) (hst : ∀ env, ∃ y r, backTo pos (starEach args env) = (false, y) :: r := by intro _; exact ⟨_, _, rfl⟩)
    (hd' : (x == ("__debug__" : Str)) = false := by rfl) : PE prog w hb M sc k (.Call (.Name x np) args [] pos) ρ d :=
  fun μ hM => .call (.glob G hx ⟨rfl, fa, rfl, ⟨o, fd, ho, hd⟩, h.useM hM (hc.use ⟨rfl, rfl⟩)⟩ hk hd') hst

theorem BC.lenList {ds : List Dat} (hl : ds.length < 2 ^ 62) : BC prog w hb "len" [.list ds] (.int ds.length) := by
  intro k A E μ s vs c y r
  refine ⟨fun Q hQ => ?_⟩
  cases r with
  | cons r1 r2 => cases r2; cases r1 with
    | list h1 hl' q =>
      refine Calls.call_len_list hl' (by simp [q.length]; omega) ?_
      have := hQ (.int ds.length (s.toks + 1)) (.int ds.length) μ { s with toks := s.toks + 1 + 1 } ⟨rfl, rfl⟩ (.int _ _) y.toks Fw.toks
      simpa [q.length] using this
theorem BC.lenStr {x : Str} (hl : x.length < 2 ^ 62) : BC prog w hb "len" [.str x] (.int x.length) := by
  intro k A E μ s vs c y r
  refine ⟨fun Q hQ => ?_⟩
  cases r with
  | cons r1 r2 => cases r2; cases r1 with
    | str _ t => exact P.len_str (by omega) (hQ _ _ μ _ ⟨rfl, rfl⟩ (.int _ _) y.toks Fw.toks)

/-- a method of a text -/
theorem WpE.strMethod {o : Expr} {name : Str} {apos pos : Pos} {args : List Expr} {id : String} (hid : ∀ {M : Model} {A : Around} {E : Value → Shared → Prop} {s : Shared} {x : Str} {t : Tok} {pl : Sem Bool} {Q : Value × List Value → Shared → Prop}, Q (.builtin id, [.str x t]) s → wpAny M A (getMethod (.str x t) name pl) Q E s)
    (h : WpE prog w hb sc k o ρ μ (fun d μ₁ => ∃ x, d = .str x ∧ WpA prog w hb sc k args pos ρ μ₁ (fun ds μ₂ => BCm prog w hb id k (.str x :: ds) μ₂ Φ)))
    (hns : noStars args = true := by rfl) (hst : ∀ env, ∃ y r, backTo pos (starEach args env) = (false, y) :: r := by intro _; exact ⟨_, _, rfl⟩)
    (he : ∀ env, ∃ pl, eval (.Call (.Attribute o name apos) args [] pos) env = (do
      let ov ← eval o env
      standAt apos.atName
      let (f, first) ← holding [ov] (getMethod ov name pl)
      callWith pos f first (backTo pos (starEach args env)) []) := by intro _; exact ⟨_, rfl⟩) : WpE prog w hb sc k (.Call (.Attribute o name apos) args [] pos) ρ μ Φ := by
  intro env A s E c en y
  refine ⟨fun Q hQ => ?_⟩
  obtain ⟨pl, he⟩ := he env
  refine MethodCall_ (pl := pl) ((h env A s E c en y).run _ fun v d μ₁ s₁ h₁ r₁ y₁ f₁ => ?_) he
  obtain ⟨x, rfl, h₁⟩ := h₁
  cases r₁ with
  | str _ t =>
  refine hid ?_
  refine Calls.callWith_builtin (noStars_any hns) ?_
  have key := h₁ env A s₁ E c (en.step f₁) y₁
  obtain ⟨yy, r, hy⟩ := hst env
  rw [hy] at key ⊢
  refine Calls.evalArgs_plain (key.run _ fun vs ds μ₂ s₂ h₂ r₂ y₂ f₂ => ?_)
  exact (h₂ A E s₂ (.str x t :: vs) c y₂ (.cons (.str x t) r₂)).run Q fun v d μ' s' a1 a2 a3 a4 => hQ v d μ' s' a1 a2 a3 ((f₁.trans f₂).trans a4)
theorem WpE.strMethod0 {o : Expr} {name : Str} {apos pos : Pos} {id : String} (hid : ∀ {M : Model} {A : Around} {E : Value → Shared → Prop} {s : Shared} {x : Str} {t : Tok} {pl : Sem Bool} {Q : Value × List Value → Shared → Prop}, Q (.builtin id, [.str x t]) s → wpAny M A (getMethod (.str x t) name pl) Q E s)
    (h : WpE prog w hb sc k o ρ μ (fun d μ₁ => ∃ x, d = .str x ∧ BCm prog w hb id k [.str x] μ₁ Φ))
    (he : ∀ env, ∃ pl, eval (.Call (.Attribute o name apos) [] [] pos) env = (do
      let ov ← eval o env
      standAt apos.atName
      let (f, first) ← holding [ov] (getMethod ov name pl)
      callWith pos f first (backTo pos (starEach [] env)) []) := by intro _; exact ⟨_, rfl⟩) : WpE prog w hb sc k (.Call (.Attribute o name apos) [] [] pos) ρ μ Φ := by
  intro env A s E c en y
  refine ⟨fun Q hQ => ?_⟩
  obtain ⟨pl, he⟩ := he env
  refine MethodCall_ (pl := pl) ((h env A s E c en y).run _ fun v d μ₁ s₁ h₁ r₁ y₁ f₁ => ?_) he
  obtain ⟨x, rfl, h₁⟩ := h₁
  cases r₁ with
  | str _ t =>
  refine hid (callWith_method0 ?_)
  exact (h₁ A E s₁ [.str x t] c y₁ (.cons (.str x t) .nil)).run Q fun v d μ' s' a1 a2 a3 a4 => hQ v d μ' s' a1 a2 a3 (f₁.trans a4)

theorem BC.isspace {x : Str} : BC prog w hb "str.isspace" [.str x] (.bool (Txt.isspace x)) := by
  intro k A E μ s vs c y r
  refine ⟨fun Q hQ => ?_⟩
  cases r with
  | cons r1 r2 => cases r2; cases r1 with
    | str _ t => exact SC.isspace (hQ _ _ μ _ ⟨rfl, rfl⟩ (.bool _) y (Fw.refl _ _))
theorem BC.strip {x z : Str} (hl : x.length ≤ sizeLine) : BC prog w hb "str.strip" [.str x, .str z] (.str (Txt.stripChars x z)) := by
  intro k A E μ s vs c y r
  refine ⟨fun Q hQ => ?_⟩
  cases r with
  | cons r1 r2 => cases r2 with
    | cons r2 r3 => cases r3; cases r1 with
      | str _ t => cases r2 with
        | str _ u => exact SCL.stripChars (fun t' kk _ => hQ _ _ μ _ ⟨rfl, rfl⟩ (.str _ _) y.toks Fw.toks) hl

theorem free_of {names : List (Str × NameKind)} (h : (names.all fun p => p.2 != .free) = true) : ∀ x, names.lookup x ≠ some .free := fun x e => by
  have := List.all_eq_true.mp h _ (mem_of_lookup e)
  simp at this
noncomputable def parsOk (ps : List Str) (names : List (Str × NameKind)) : Bool := nodupB ps && (ps.all fun x => names.lookup x == some .local || names.lookup x == some .cell) && names.all fun p => p.2 != .free
theorem WpC.fnK {fa : Addr} {o : Obj} {fd : FuncData} {body : List Stmt} {ds : List Dat} (sc : Sh) (names : List Str) (ho : hb.get? fa = some o) (hd : o.data = .func fd) (hbody : fd.body = .stmts body)
    (lim : hb.NoLimit) (hcd : hb.CodeRec sc.code fd.qualname) (hbind : ∀ vs : List Value, vs.length = names.length → bindArgs fd ⟨vs, []⟩ = pure (names.zip vs))
    (h : WpS prog w hb sc k body (names.zip ds) μ (fun af _ μ' => Φ (retD af) μ'))
    (hsc : sc = ⟨fd.scope.names, fd.code⟩ := by rfl) (hok : parsOk names sc.names = true := by rfl) (hlen : names.length = ds.length := by rfl)
    (hglob : fd.globals = mainGlobals := by rfl) (hbi : fd.builtins = builtinsNs := by rfl) (hclo : fd.closure = [] := by rfl)
    (hco : fd.scope.isCoroutine = false := by rfl) (hgen : fd.scope.isGenerator = false := by rfl) (hk : fd.scope.kind = .function := by rfl) : WpC prog w hb (k + 1) fa ds μ Φ := by
  subst hsc
  simp only [parsOk, Bool.and_eq_true] at hok
  refine WpC.fn names ho hd hbody h lim hcd hlen hbind (nodupB_ok hok.1.1) (fun x hx => ?_) (free_of hok.2) hglob hbi hclo hco hgen hk
  have := List.all_eq_true.mp hok.1.2 x hx
  simpa using this
end
end Mine

end

noncomputable section
namespace Mine
section
variable {prog : Program} {w : World} {hb : Heap} {M : MP} {sc : Sh} {k : Nat} {ρ : Ren} {μ : Mem} {Φ : Dat → Mem → Prop} {α : Type}
/-- what one turn of a clause needs -/
noncomputable def Turn (prog : Program) (w : World) (hb : Heap) (M : MP) (sc : Sh) (k : Nat) (elt tgt : Expr) (gs : List Comprehension) (ifs : List Expr) (ρ : Ren) (d : Dat) (add : List Dat) : Prop :=
  ∃ ρ₁ b, bindT tgt d = some ρ₁ ∧ (∀ p ∈ ρ₁, sc.names.lookup p.1 = some .local ∧ ρ.lookup p.1 = none) ∧ PIfs prog w hb M sc k ifs (ρ₁ ++ ρ) b ∧ (b = true → PG prog w hb M sc k elt gs (ρ₁ ++ ρ) add) ∧ (b = false → add = [])
theorem loop_pureT {elt tgt : Expr} {gs : List Comprehension} {ifs : List Expr} (g : α → Dat) (F : α → List Dat) : ∀ (l : List α) (acc : List Dat) (μ : Mem) (Φ : AccP),
    M.holds μ → (∀ a ∈ l, Turn prog w hb M sc k elt tgt gs ifs ρ (g a) (F a)) →
    acc.length + (l.flatMap F).length ≤ sizeLine → Φ (acc ++ l.flatMap F) μ → loopW prog w hb (WpG prog w hb sc k elt gs) sc k tgt ifs ρ (l.map g) acc μ Φ
  | [], acc, μ, Φ, _, _, _, h => by simpa [loopW] using h
  | d :: ds, acc, μ, Φ, hM, hd, hl, h => by
    obtain ⟨ρ₁, b, h1, h2, h3, h4, h5⟩ := hd d (.head _)
    have hd' := fun d' hd'' => hd d' (List.mem_cons_of_mem d hd'')
    rw [List.flatMap_cons] at hl h
    refine ⟨ρ₁, h1, h2, h3.use hM ?_⟩
    cases b with
    | true =>
      refine h4 rfl acc μ _ hM (by simp at hl ⊢; omega) ?_
      exact loop_pureT g F ds (acc ++ F d) μ Φ hM hd' (by simp at hl ⊢; omega) (by simpa using h)
    | false =>
      rw [h5 rfl] at hl h
      exact loop_pureT g F ds acc μ Φ hM hd' (by simpa using hl) (by simpa using h)
theorem PG.clauseT {elt : Expr} {c : Comprehension} {gs : List Comprehension} (l : List α) (g : α → Dat) (F : α → List Dat) (hi : PIt prog w hb M sc k c.target c.iter ρ (l.map g))
    (hd : ∀ a ∈ l, Turn prog w hb M sc k elt c.target gs c.ifs ρ (g a) (F a)) : PG prog w hb M sc k elt (c :: gs) ρ (l.flatMap F) := fun acc μ Φ hM hl hΦ P _ => hi.useM (M.up P μ hM) ⟨μ, rfl, loop_pureT g F l acc μ Φ hM hd hl hΦ⟩
theorem PE.compT {elt : Expr} {c : Comprehension} {gs : List Comprehension} {scope : Scope} {pos : Pos} (l : List α) (g : α → Dat) (F : α → List Dat) (hi : PIt prog w hb M sc k c.target c.iter ρ (l.map g))
    (hd : ∀ a ∈ l, Turn prog w hb M (inSh sc scope) k elt c.target gs c.ifs (inRen scope ρ) (g a) (F a)) (hl : (l.flatMap F).length ≤ sizeLine)
    (hc : ((c :: gs).all cleanG) = true := by rfl) (hset : ((c :: gs).all fun g' => noSet g'.iter) = true := by rfl) (hok : compOk sc.names scope.names = true := by rfl) (hkind : scope.kind = .function := by rfl) :
    PE prog w hb M sc k (.ListComp elt (c :: gs) scope pos) ρ (.list (l.flatMap F)) := fun μ hM => .listcomp (hi.useM hM (loop_pureT g F l [] μ _ hM hd (by simpa using hl) ⟨by simp, rfl⟩)) hc hset hok hkind
theorem Wp1.assignCT {x : Str} {p pos : Pos} {elt : Expr} {c : Comprehension} {gs : List Comprehension} {scope : Scope} {cp : Pos} {Ψ : AFlow → Ren → Mem → Prop} (l : List α) (g : α → Dat) (F : α → List Dat) (hi : PIt prog w hb M sc k c.target c.iter ρ (l.map g))
    (hd : ∀ a ∈ l, Turn prog w hb M (inSh sc scope) k elt c.target gs c.ifs (inRen scope ρ) (g a) (F a))
    (hl : (l.flatMap F).length ≤ sizeLine) (hM : M.holds μ) (hΨ : Ψ .next ((x, .list (l.flatMap F)) :: ρ) μ)
    (hs : swB (.ListComp elt (c :: gs) scope cp) x p sc = true := by rfl) (hx : sc.names.lookup x = some .local := by rfl)
    (hc : ((c :: gs).all cleanG) = true := by rfl) (hset : ((c :: gs).all fun g' => noSet g'.iter) = true := by rfl) (hok : compOk sc.names scope.names = true := by rfl) (hkind : scope.kind = .function := by rfl) :
    Wp1 prog w hb sc k (.Assign [.Name x p] (.ListComp elt (c :: gs) scope cp) pos) ρ μ Ψ := .assignC (hi.useM hM (loop_pureT g F l [] μ _ hM hd (by simpa using hl) (by simpa using hΨ))) hs hx hc hset hok hkind
theorem Turn.mk {elt tgt : Expr} {gs : List Comprehension} {d : Dat} {add : List Dat} (ρ₁ : Ren) (h1 : bindT tgt d = some ρ₁) (h2 : (ρ₁.all fun p => sc.names.lookup p.1 == some .local && (ρ.lookup p.1).isNone) = true) (h : PG prog w hb M sc k elt gs (ρ₁ ++ ρ) add) : Turn prog w hb M sc k elt tgt gs [] ρ d add :=
  ⟨ρ₁, true, h1, fun p hp => by
    have := List.all_eq_true.mp h2 p hp
    simpa using this, rfl, fun _ => h, fun z => by cases z⟩
theorem Turn.mkIf {elt tgt i : Expr} {gs : List Comprehension} {d : Dat} {add : List Dat} (ρ₁ : Ren) (b : Bool) (h1 : bindT tgt d = some ρ₁) (h2 : (ρ₁.all fun p => sc.names.lookup p.1 == some .local && (ρ.lookup p.1).isNone) = true) (hb' : PB prog w hb M sc k i (ρ₁ ++ ρ) b)
    (h : b = true → PG prog w hb M sc k elt gs (ρ₁ ++ ρ) add) (h' : b = false → add = []) : Turn prog w hb M sc k elt tgt gs [i] ρ d add :=
  ⟨ρ₁, b, h1, fun p hp => by
    have := List.all_eq_true.mp h2 p hp
    simpa using this, hb', h, h'⟩
end
end Mine

end

noncomputable section
namespace Mine
/-! Lists that grow. -/
section
variable {prog : Program} {w : World} {hb : Heap} {M : MP} {sc : Sh} {k : Nat} {ρ : Ren} {μ : Mem} {Φ : Dat → Mem → Prop}
noncomputable def MP.at (p : Addr × MO) : MP := ⟨fun μ => p ∈ μ, fun _ _ h => List.mem_append_right _ h⟩

theorem WpE.newList {pos : Pos} (h : ∀ D, D ∉ dom μ → Φ (.obj D) (μ ++ [(D, .lst [])])) : WpE prog w hb sc k (.List [] pos) ρ μ Φ := by
  intro env A s E c e y
  refine ⟨fun Q hQ => ?_⟩
  refine wpAny_List_spliced ((WpA.nil (ΦL := fun ds μ₁ => ds = [] ∧ μ₁ = μ) ⟨rfl, rfl⟩ env A s E c e y).run _ fun vs ds μ₁ s₁ h₁ r₁ y₁ f₁ => ?_)
  obtain ⟨rfl, rfl⟩ := h₁
  cases r₁
  refine ⟨by decide, ?_⟩
  have y2 := y₁.pushLst (tk := s₁.toks)
  have hp : ((s₁.heap.objs.size, MO.lst []) :: μ₁).Perm (μ₁ ++ [(s₁.heap.objs.size, MO.lst [])]) := (List.perm_append_comm (l₁ := [(s₁.heap.objs.size, MO.lst [])]) (l₂ := μ₁))
  have f2 : Fw (dom μ₁) (dom ((s₁.heap.objs.size, MO.lst []) :: μ₁)) s₁ { s₁ with heap := s₁.heap.push { cls := .type "list", data := .seq #[] } } := Fw.pushPin (tk := s₁.toks) rfl
  exact hQ _ _ _ _ (h s₁.heap.objs.size (not_dom y₁)) (.obj _) (y2.perm hp) (f₁.trans (f2.permR hp))

/-- the entry of a list is dropped: the list will not change any more -/
theorem WpE.freeze {e : Expr} (h : WpE prog w hb sc k e ρ μ (fun d μ₁ => ∃ D ds μ₂, d = .obj D ∧ μ₁.Perm ((D, .lst ds) :: μ₂) ∧ Φ (.list ds) μ₂)) : WpE prog w hb sc k e ρ μ Φ := by
  intro env A s E c en y
  refine ⟨fun Q hQ => (h env A s E c en y).run Q fun v d μ₁ s₁ h₁ r₁ y₁ f₁ => ?_⟩
  obtain ⟨D, ds, μ₂, rfl, hp, hΦ⟩ := h₁
  cases r₁
  have y2 := y₁.perm hp
  obtain ⟨vs, ⟨n, epl⟩, ra⟩ := y2.mem (D, .lst ds) (.head _)
  have hD : D ∉ dom μ₂ := (List.nodup_cons.mp (show (D :: dom μ₂).Nodup from y2.nodup)).1
  exact hQ _ _ μ₂ s₁ hΦ (.list hD ⟨_, epl, rfl, n, rfl⟩ (ra.sub fun b hm => .tail _ hm)) (show Ok hb ([(D, .lst ds)] ++ μ₂) s₁ from y2).drop (Fw.drop (P := [(D, .lst ds)]) (f₁.permR hp))

/-- entries are forgotten -/
theorem WpE.forget {e : Expr} (h : WpE prog w hb sc k e ρ μ (fun d μ₁ => ∃ P μ₂, μ₁.Perm (P ++ μ₂) ∧ Φ d μ₂)) : WpE prog w hb sc k e ρ μ Φ := by
  intro env A s E c en y
  refine ⟨fun Q hQ => (h env A s E c en y).run Q fun v d μ₁ s₁ h₁ r₁ y₁ f₁ => ?_⟩
  obtain ⟨P, μ₂, hp, hΦ⟩ := h₁
  have y2 := y₁.perm hp
  have r2 : Rd (dom (P ++ μ₂)) s₁.heap v d := r₁.sub fun b hm => (dom_perm hp).mem_iff.mpr hm
  exact hQ _ _ μ₂ s₁ hΦ r2.drop y2.drop (f₁.permR hp).drop

/-- at the end of a block fewer names are remembered -/
theorem WpSx.nilW {fo : Option (List Env)} {Ψ : AFlow → Ren → Mem → Prop} {Ξ : XP} (added ρ' : Ren) (h : Ψ .next ρ' μ) (hd : (added.all fun p => (ρ'.lookup p.1).isNone) = true := by rfl) : WpSx prog w hb fo sc k [] (added ++ ρ') μ Ψ Ξ :=
  fun _ _ _ _ _ e y _ => ⟨fun _ hQ _ => wpAny_execs_nil (hQ .next .next ρ' μ _ h trivial (e.less fun x d hx => by
    rw [List.lookup_append]
    cases hq : added.lookup x with
    | none => simpa using hx
    | some z =>
      have := List.all_eq_true.mp hd _ (mem_of_lookup hq)
      rw [hx] at this; cases this) y (Fw.refl _ _))⟩
theorem nodup_len {α : Type} [DecidableEq α] : ∀ (l m : List α), l.Nodup → (∀ x ∈ l, x ∈ m) → l.length ≤ m.length
  | [], _, _, _ => Nat.zero_le _
  | x :: r, m, hn, hm => by
    obtain ⟨h1, h2⟩ := List.nodup_cons.mp hn
    have hx := hm x (.head _)
    have := nodup_len r (m.erase x) h2 fun z hz => (List.mem_erase_of_ne (show z ≠ x from fun e => h1 (e ▸ hz))).mpr (hm z (.tail _ hz))
    rw [List.length_erase_of_mem hx] at this
    have : 0 < m.length := List.length_pos_of_mem hx
    rw [List.length_cons]; omega

theorem lst_reads {s : Shared} (y : Ok hb μ s) {D : Addr} {ds : List Dat} (hm : (D, MO.lst ds) ∈ μ) (hd : Dat.fines ds = true) : ∃ as, Reads s.heap (.ref D) (.list (Dat.pys ds)) as := by
  obtain ⟨vs, ⟨n, epl⟩, ra⟩ := y.mem _ hm
  obtain ⟨as, q⟩ := ra.reads (Dat.fines_noObjs hd)
  exact ⟨_, .list epl rfl rfl (by simpa using q)⟩

theorem PB.inObj {x r : Expr} {pos : Pos} {d : Dat} {D : Addr} {ds : List Dat} (hMD : ∀ μ, M.holds μ → (D, MO.lst ds) ∈ μ) (h1 : PE prog w hb M sc k x ρ d) (h2 : PE prog w hb M sc k r ρ (.obj D)) (hx : d.shp) (hd : Dat.fines ds = true)
    (hm : behindInMarks .In r = false := by with_unfolding_all rfl) : PB prog w hb M sc k (.Compare x [.In] [r] pos) ρ (ds.any fun y => PyData.eqv y.py d.py) := by
  intro μ hM env A s E c e y
  refine ⟨fun Q hQ => ?_⟩
  refine wpAny_isTrue_Compare1 ((h1 μ hM env A s E c e y).run _ fun v₁ d₁ μ₁ s₁ h₁ r₁ y₁ f₁ => ?_) hm
  obtain ⟨rfl, rfl⟩ := h₁
  refine (h2 μ₁ hM env A s₁ E c (e.step f₁) y₁).run _ fun v₂ d₂ μ₂ s₂ h₂ r₂ y₂ f₂ => ?_
  obtain ⟨rfl, rfl⟩ := h₂
  cases r₂
  obtain ⟨as, q₁⟩ := (r₁.step f₂).reads (Dat.fine_noObj hx.1)
  obtain ⟨bs, q₂⟩ := lst_reads y₂ (hMD _ hM) hd
  refine SeqAt.in_list_reads q₂ q₁ (Dat.fines_lay hd) (Dat.fine_lay hx.1) (by have := c.u65; have := hx.2; omega) ?_
  rw [pys_map, List.any_map]
  exact wpAny_truthy_bool (hQ _ _ s₂ ⟨rfl, rfl⟩ y₂ (f₁.trans f₂))
theorem PB.notInObj {x r : Expr} {pos : Pos} {d : Dat} {D : Addr} {ds : List Dat} (hMD : ∀ μ, M.holds μ → (D, MO.lst ds) ∈ μ) (h1 : PE prog w hb M sc k x ρ d) (h2 : PE prog w hb M sc k r ρ (.obj D)) (hx : d.shp) (hd : Dat.fines ds = true)
    (hm : behindInMarks .NotIn r = false := by with_unfolding_all rfl) : PB prog w hb M sc k (.Compare x [.NotIn] [r] pos) ρ (!ds.any fun y => PyData.eqv y.py d.py) := by
  intro μ hM env A s E c e y
  refine ⟨fun Q hQ => ?_⟩
  refine wpAny_isTrue_Compare1 ((h1 μ hM env A s E c e y).run _ fun v₁ d₁ μ₁ s₁ h₁ r₁ y₁ f₁ => ?_) hm
  obtain ⟨rfl, rfl⟩ := h₁
  refine (h2 μ₁ hM env A s₁ E c (e.step f₁) y₁).run _ fun v₂ d₂ μ₂ s₂ h₂ r₂ y₂ f₂ => ?_
  obtain ⟨rfl, rfl⟩ := h₂
  cases r₂
  obtain ⟨as, q₁⟩ := (r₁.step f₂).reads (Dat.fine_noObj hx.1)
  obtain ⟨bs, q₂⟩ := lst_reads y₂ (hMD _ hM) hd
  refine SeqAt.notIn_list_reads q₂ q₁ (Dat.fines_lay hd) (Dat.fine_lay hx.1) (by have := c.u65; have := hx.2; omega) ?_
  rw [pys_map, List.any_map]
  exact wpAny_truthy_bool (hQ _ _ s₂ ⟨rfl, rfl⟩ y₂ (f₁.trans f₂))

/-- out.append(e), for its effect -/
theorem WpE.append {o a : Expr} {apos pos : Pos} (h : WpE prog w hb sc k o ρ μ (fun d μ₁ => ∃ D ds₀, d = .obj D ∧ (D, .lst ds₀) ∈ μ₁ ∧ WpE prog w hb sc k a ρ μ₁ (fun d₂ μ₂ => ∃ ds, (D, .lst ds) ∈ μ₂ ∧ ds.length ≤ sizeLine ∧ Φ .none (setM μ₂ D (.lst (ds ++ [d₂]))))))
    (hst : ∀ env, starEach [a] env = [(false, eval a env)] := by intro _; rfl)
    (he : ∀ env, ∃ pl, eval (.Call (.Attribute o "append" apos) [a] [] pos) env = (do
      let ov ← eval o env
      standAt apos.atName
      let (f, first) ← holding [ov] (getMethod ov "append" pl)
      callWith pos f first (backTo pos (starEach [a] env)) []) := by intro _; exact ⟨_, rfl⟩) : WpE prog w hb sc k (.Call (.Attribute o "append" apos) [a] [] pos) ρ μ Φ := by
  intro env A s E c en y
  refine ⟨fun Q hQ => ?_⟩
  obtain ⟨pl, he⟩ := he env
  refine MethodCall_ (pl := pl) ((h env A s E c en y).run _ fun v d μ₁ s₁ h₁ r₁ y₁ f₁ => ?_) he
  obtain ⟨D, ds₀, rfl, hm₀, h₁⟩ := h₁
  cases r₁
  obtain ⟨vs₀, ⟨n₀, epl₀⟩, _⟩ := y₁.mem _ hm₀
  refine Calls.getMethod_list_append epl₀ rfl rfl ?_
  rw [hst]
  refine Calls.callWith_builtin rfl (Calls.evalArgs_plain (Calls.spliced_cons ((h₁ env A s₁ E c (en.step f₁) y₁).run _ fun v₂ d₂ μ₂ s₂ h₂ r₂ y₂ f₂ => Calls.spliced_nil ?_)))
  obtain ⟨ds, hmem, hsz, hΦ⟩ := h₂
  obtain ⟨vs, hpl, ra⟩ := y₂.mem _ hmem
  refine wpAny_list_append_plain hpl (fun h' hpl' hs' => ?_) (by simp [ra.length]; omega)
  have hk : ∀ b q, b ≠ D → s₂.heap.get? b = some q → h'.get? b = some q := fun b q hne z => (hs'.2 b hne).trans z
  have f3 : Fw (dom μ₂) (dom μ₂) s₂ { s₂ with heap := h' } := Fw.sameIn (tk := s₂.toks) (mem_dom hmem) hk
  have y3 := y₂.setM (tk := s₂.toks) (o' := .lst (ds ++ [d₂])) hmem rfl hk ⟨vs ++ [v₂], by simpa using hpl', (ra.append (RdA.one r₂)).step f3⟩ (fun _ _ z => by cases z)
  have ed : dom (setM μ₂ D (.lst (ds ++ [d₂]))) = dom μ₂ := dom_setM fun q hq => by rw [nodup_fst y₂.nodup hq hmem]; rfl
  exact hQ _ _ _ _ hΦ .none y3 (by rw [ed]; exact (f₁.trans f₂).trans f3)
end
end Mine

end

noncomputable section
namespace Mine

/-- the table of a code object has grown, or not: all else stands -/
theorem Ok.tabGrow {hb : Heap} {μ : Mem} {s : Shared} {h' : Heap} {tk : Nat} {T cc : Addr} {ps : Array Value} (y : Ok hb μ s) (ht : (T, MO.tab cc ps) ∈ μ) (hk : ∀ b o, b ≠ T → s.heap.get? b = some o → h'.get? b = some o)
    (hn : MAt (dom μ) h' T (.tab cc ps)) : Ok hb μ { s with heap := h', toks := tk } := by
  refine ⟨fun b o e => hk b o (fun z => ?_) (y.base b o e), y.off, fun p hp => ?_, y.nodup, y.bare, y.codes⟩
  · rw [z, y.off T (mem_dom ht)] at e; cases e
  · by_cases hpT : p.1 = T
    · obtain ⟨pa, po⟩ := p
      have hpT' : pa = T := hpT
      subst hpT'
      rw [show po = .tab cc ps from nodup_fst y.nodup hp ht]
      exact hn
    · refine (y.mem p hp).seq (fun b o xs n hb' _ e => hk b o (fun z => hb' (z ▸ mem_dom ht)) e) (fun q e => hk _ q hpT e) (fun x hx q e => hk _ q (fun z => nodup_more y.nodup ht (show (p.1, p.2) ∈ μ from hp) (z ▸ hx)) e) (fun c' ps' e q z => hk _ q (fun w => ?_) z)
      obtain ⟨oc, hoc⟩ := y.codes c' ps' p.1 (by rw [← e]; exact hp)
      rw [w, y.off T (mem_dom ht)] at hoc; cases hoc

theorem Ok.butOne {hb : Heap} {μ : Mem} {s s' : Shared} {a : Addr} (y : Ok hb μ s) (hk : ∀ b o, b ≠ a → s.heap.get? b = some o → s'.heap.get? b = some o) (h1 : a ∉ dom μ) (h2 : hb.get? a = none) (h3 : ∀ o xs n, s.heap.get? a = some o → o.data ≠ .seq xs n) (hg : AllBare s'.gens) : Ok hb μ s' := by
  have sk : SeqK (dom μ) s.heap s'.heap := fun b o xs n _ hd e => hk b o (fun q => by subst q; exact h3 o xs n e hd) e
  refine ⟨fun b o e => hk b o (fun q => ?_) (y.base b o e), y.off, fun p hp => ?_, y.nodup, hg, y.codes⟩
  · subst q; rw [h2] at e; cases e
  · refine (y.mem p hp).seq sk (fun o e => hk _ o (fun q => h1 (q ▸ mem_dom hp)) e) (fun x hx o e => hk _ o (fun q => h1 (q ▸ mem_more hp hx)) e) (fun c ps e q z => hk _ q (fun w => ?_) z)
    obtain ⟨oc, hoc⟩ := y.codes c ps p.1 (by rw [← e]; exact hp)
    rw [w, h2] at hoc; cases hoc

section
variable {prog : Program} {w : World} {hb : Heap} {sc : Sh} {k : Nat} {ρ : Ren} {μ : Mem} {mg : Str → Option Value} {bm : Addr} {ob : Obj}

theorem passing_all : ∀ n : Nat, passing (fun _ => true) n 0 = List.range n := by
  intro n
  have key : ∀ k i, n - i = k → i ≤ n → passing (fun _ => true) n i = (List.range n).drop i := by
    intro k
    induction k with
    | zero =>
      intro i h1 h2
      have : i = n := by omega
      subst this
      rw [passing_end, List.drop_eq_nil_of_le (by simp)]
    | succ k ih =>
      intro i h1 h2
      have hlt : i < n := by omega
      have e : (List.range n).drop i = i :: (List.range n).drop (i + 1) := by
        rw [List.drop_eq_getElem_cons (by simpa using hlt)]; simp
      rw [passing_true hlt rfl, ih (i + 1) (by omega) hlt, e]
  simpa using key n 0 (by omega) (by omega)

theorem gen_one {elt iter : Expr} {x : Str} {px : Pos} {scope : Scope} {pos : Pos} {env : Env} {A : Around} {s : Shared} {E : Value → Shared → Prop} {Q : Value → Shared → Prop} {T cc : Addr} {ps : Array Value} {ds : List Dat} (F : Nat → Value → Prop)
    (BM : BMod hb mainGlobals mg bm ob) (lim : hb.NoLimit) (c : Calm k A) (en : EnvOk hb sc env ρ (dom μ) s.heap) (y : Ok hb μ s) (ht : (T, MO.tab cc ps) ∈ μ) (hcc : sc.code = .ref cc)
    (hi : WpE prog w hb sc k iter ρ μ (fun d μ' => d = .list ds ∧ μ' = μ)) (hf : ∀ x, genFold iter env x = pure x)
    (hok : compOk sc.names scope.names = true) (hkind : scope.kind = .function) (hco : scope.isCoroutine = false) (h0 : scope.names.lookup (".0" : Str) = some NameKind.local) (hx : scope.names.lookup x = some .local)
    (helt : ∀ (cenv : Env) (A' : Around) (E' : Value → Shared → Prop) (i : Nat) (v : Value) (d : Dat) (s2 : Shared) (m2 : Str → Option Value), A'.handled = none → A'.depth ≤ A.depth + 1 → A'.units ≤ A.units + 8 → ds[i]? = some d → cenv.scope = scope → cenv.cells = clOf env.cells scope.names [] → cenv.globals = env.globals → cenv.builtins = builtinsNs →
      s2.heap.Ns cenv.locals m2 → m2 x = some v → Rd (dom μ) s2.heap v d → (∀ p ∈ μ, MAt (dom μ) s2.heap p.1 p.2) → (∀ b o, hb.get? b = some o → s2.heap.get? b = some o) → (∀ b o, b ∉ dom μ → s.heap.get? b = some o → s2.heap.get? b = some o) → wpAny (model prog w) A' (eval elt cenv) (fun r s3 => F i r ∧ Keeps s2 s3) E' s2)
    (hQ : ∀ a fp wr g St s5, WalksS prog w A.in4 a fp wr (GenOnlyQ g) ds.length (fun j r => F j r) St → St 0 s5 → (∀ i s', St i s' → s'.TypeIs (.ref a) "generator") → a ∈ fp → (∀ b ∈ fp, b < s5.heap.objs.size) →
      (∀ s', Moved wr (GenOnlyQ g) s5 s' → Ok hb μ s' ∧ Fw (dom μ) (dom μ) s s') → Q (.ref a) s5) :
    wpAny (model prog w) A (eval (.GeneratorExp elt [⟨.Name x px, iter, [], 0⟩] scope pos) env) Q E s := by
  have hok' := hok
  simp only [compOk, Bool.and_eq_true, List.all_eq_true] at hok
  obtain ⟨hnd, hall⟩ := hok
  have hfree : ∀ n, (n, NameKind.free) ∈ scope.names → sc.names.lookup n = some .cell ∨ sc.names.lookup n = some .free := fun n hn => by
    have := hall _ hn
    simpa using this
  have hnocell : ∀ x ∈ scope.names, x.2 ≠ .cell := fun x hx e => by
    have := hall x hx
    rw [e] at this; cases this
  have hcells : ∀ n, (n, NameKind.free) ∈ scope.names → (env.cells.lookup n).isSome = true := fun n hn => en.has n (hfree n hn)
  refine wpAny_GeneratorExp_walksQD c.han hco (closure_cl hcells) hnocell h0 hx hkind c.room ?_ hf
  refine (hi env A s E c en y).run _ fun v d μ₁ s₁ h₁ r₁ y₁ f₁ => ?_
  obtain ⟨rfl, rfl⟩ := h₁
  cases r₁ with
  | list hl1 hl rq =>
  rename_i l vs
  have hlt : l < s₁.heap.objs.size := by obtain ⟨_, e, _⟩ := hl; exact Heap.lt_size e
  have hne : l ≠ s₁.heap.objs.size := Nat.ne_of_lt hlt
  refine wpAny_pyIter_list hl ?_
  -- the iterator
  have kp2 := push_keeps (h := s₁.heap) { cls := .type "list_iterator", data := .fields #[.ref l, .int 0 0] }
  have y2 := y₁.keeps (tk := s₁.toks) kp2
  have f2 : Fw (dom μ₁) (dom μ₁) s₁ { s₁ with heap := s₁.heap.push { cls := .type "list_iterator", data := .fields #[.ref l, .int 0 0] } } := Fw.keeps (tk := s₁.toks) kp2
  have hl2 : (s₁.heap.push { cls := .type "list_iterator", data := .fields #[.ref l, .int 0 0] }).IsList l vs.toArray := hl.push _
  have hit2 : (s₁.heap.push { cls := .type "list_iterator", data := .fields #[.ref l, .int 0 0] }).IsListIter s₁.heap.objs.size l 0 := ⟨_, Heap.get?_push_size _ rfl, rfl, rfl⟩
  generalize hI : s₁.heap.objs.size = I at *
  have hIn : s₁.heap.get? I = none := by rw [← hI]; exact fresh_size
  generalize hs2 : ({ s₁ with heap := s₁.heap.push { cls := .type "list_iterator", data := .fields #[.ref l, .int 0 0] } } : Shared) = s₂ at *
  have hs2h : s₁.heap.push { cls := .type "list_iterator", data := .fields #[.ref l, .int 0 0] } = s₂.heap := by rw [← hs2]
  rw [hs2h] at hl2 hit2
  have f12 := f₁.trans f2
  refine ⟨lim.keeps y2.base, ?_⟩
  have hcode : env.code = .ref cc := by rw [en.code, hcc]
  obtain ⟨more, hic, hta⟩ := y2.mem (T, .tab cc ps) ht
  -- what comes behind, once the code object is there
  have rest : ∀ (code : Value) (h₃ : Heap) (tk₃ : Nat), Heap.ExtBut T s₂.heap h₃ → s₂.heap.objs.size ≤ h₃.objs.size → MAt (dom μ₁) h₃ T (.tab cc ps) →
      wpAny (model prog w) A (builtinsFor env.globals env.builtins) (fun bi s₄ =>
        ∃ I' fp wr n₀ P St₀ pz F', Value.ref I = .ref I' ∧ (∀ A' : Around, A'.handled = none → Walks prog w A' I' fp wr n₀ P St₀) ∧ St₀ 0 s₄.heap ∧ (∀ b ∈ fp, b < s₄.heap.objs.size) ∧ s₄.heap.NoLimit ∧ cStatics ∉ wr ∧
          (∀ href : Heap, (∀ b o, s₄.heap.get? b = some o → href.get? b = some o) →
            QuietGenD prog w (genEnv scope (clOf env.cells scope.names []) s₄.heap.objs.size code bi env) x [] elt (List.range s₄.heap.objs.size) wr P pz F' href (A.depth + 1) (A.units + 8)) ∧
          (∀ a h₅ tk gs, gs.bare = true → s₄.heap.objs.size < a → h₅.objs.size = a + 1 → (∀ b o, s₄.heap.get? b = some o → h₅.get? b = some o) →
            WalksS prog w A.in4 a (a :: s₄.heap.objs.size :: List.range s₄.heap.objs.size) (s₄.heap.objs.size :: wr) (GenOnlyQ s₄.gens.size) (passing pz n₀ 0).length
              (fun j y => ∃ i, (passing pz n₀ 0)[j]? = some i ∧ F' i y) (GenAt prog w A.in4 a s₄.gens.size s₄.heap.objs.size (List.range s₄.heap.objs.size) wr pz n₀ F') →
            GenAt prog w A.in4 a s₄.gens.size s₄.heap.objs.size (List.range s₄.heap.objs.size) wr pz n₀ F' 0 { s₄ with gens := s₄.gens.push gs, toks := tk, heap := h₅ } →
            Q (.ref a) { s₄ with gens := s₄.gens.push gs, toks := tk, heap := h₅ })) E { s₂ with heap := h₃, toks := tk₃ } := by
    intro code h₃ tk₃ ext hsz hn
    have y3 : Ok hb μ₁ { s₂ with heap := h₃, toks := tk₃ } := y2.tabGrow ht (fun b o hb' e => ext b o hb' e) hn
    have BM3 : BMod h₃ mainGlobals mg bm ob := BM.keeps y3.base
    have hTd : T ∈ dom μ₁ := mem_dom ht
    have hId : I ∉ dom μ₁ := fun z => by have := dom_lt y₁ z; rw [hI] at this; exact Nat.lt_irrefl _ this
    have hIb : hb.get? I = none := base_none y₁ (by rw [hI]; exact Nat.le_refl _)
    have hIT : I ≠ T := fun z => hId (z ▸ hTd)
    have kp2' : ∀ b o, s₁.heap.get? b = some o → s₂.heap.get? b = some o := fun b o e => by rw [← hs2h]; exact kp2 b o e
    have hlT : l ≠ T := fun z => hl1 (z ▸ hTd)
    have hit3 : h₃.IsListIter I l 0 := hit2.at fun o e => ext _ o hIT e
    have hl3 : h₃.IsList l vs.toArray := hl2.at fun o e => ext _ o hlT e
    have hIseq : ∀ o xs n, h₃.get? I = some o → o.data ≠ .seq xs n := fun o xs n e hd => by
      obtain ⟨oi, hoi, _, hdi⟩ := hit3
      rw [e] at hoi; cases hoi; rw [hd] at hdi; cases hdi
    refine wpAny_builtinsFor (by rw [en.glob]; exact BM3.ns) BM.name BM.ne BM3.obj BM.cls BM.dict BM.data ?_
    refine ⟨I, [I, l], [I], vs.toArray.size, _, _, fun _ => true, F, rfl, fun A' hA => Walks.list hA I l hne vs.toArray, ⟨hit3, hl3⟩, fun b hb' => ?_, lim.keeps y3.base, fun z => ?_, fun href hhref => ⟨?_, ?_⟩, ?_⟩
    · obtain ⟨oi, hoi, _⟩ := hit3
      obtain ⟨ol, hol, _⟩ := hl3
      rcases List.mem_cons.mp hb' with rfl | hb'
      · exact Heap.lt_size hoi
      · rw [List.mem_singleton.mp hb']; exact Heap.lt_size hol
    · have := List.mem_singleton.mp z
      have hlim := lim
      obtain ⟨_, hns, _⟩ := hlim
      obtain ⟨o, _, _, ho, _⟩ := hns
      rw [this, hIb] at ho; cases ho
    · intro A' E' i v s2 m2 _ _ _ _ _ _ _
      exact wpAny_tests_nil ⟨rfl, s2.heap, s2.toks, rfl, fun _ _ e => e⟩
    · intro A' E' i v s2 m2 hA hdep huni hP _ hns hm hk
      obtain ⟨d, hd, rv⟩ := rq.get' i (by simpa using hP)
      have keep2 : ∀ b o, b ≠ I → h₃.get? b = some o → s2.heap.get? b = some o := fun b o hbI e => hk b (List.mem_range.mpr (Heap.lt_size e)) (fun z => hbI (List.mem_singleton.mp z)) o (hhref b o e)
      have up : ∀ b o, b ≠ T → s₁.heap.get? b = some o → s2.heap.get? b = some o := fun b o hbT e => keep2 b o (fun z => by rw [z, hIn] at e; cases e) (ext b o hbT (kp2' b o e))
      have y2' : Ok hb μ₁ { s2 with gens := s₁.gens } := y3.butOne (s' := { s2 with gens := s₁.gens }) keep2 hId hIb hIseq y₁.bare
      refine helt _ A' E' i v d s2 m2 hA hdep huni hd rfl rfl rfl rfl hns hm (rv.seq fun b o xs n hb' _ e => up b o (fun z => hb' (z ▸ hTd)) e) y2'.mem y2'.base fun b o hb' e => up b o (fun z => hb' (z ▸ hTd)) (f₁.keep b o hb' e)
    · intro a h₅ tk gs hgb hag hsz₅ hk₅ W hat
      rw [passing_all, List.length_range] at W
      have hn' : vs.toArray.size = ds.length := by simp [rq.length]
      have W2 := W.imp (P' := fun j r => F j r) fun j r hj => by
        obtain ⟨i, h1, h2⟩ := hj
        rw [List.getElem?_eq_some_iff] at h1
        obtain ⟨_, h1⟩ := h1
        simp at h1
        subst h1; exact h2
      rw [hn'] at W2
      refine hQ a _ _ _ _ _ W2 (by rw [← hn']; exact hat) (fun i s' st => st.1.typeIs) List.mem_cons_self (fun b hb' => ?_) fun s' hm => ?_
      · show b < h₅.objs.size
        rw [hsz₅]
        rcases List.mem_cons.mp hb' with rfl | hb'
        · exact Nat.lt_succ_self _
        · rcases List.mem_cons.mp hb' with rfl | hb'
          · exact Nat.lt_succ_of_lt hag
          · exact Nat.lt_succ_of_lt (Nat.lt_trans (List.mem_range.mp hb') hag)
      · have hkk : ∀ b o, b ≠ I → h₃.get? b = some o → s'.heap.get? b = some o := fun b o hbI e => hm.heap b o (fun z => by
          rcases List.mem_cons.mp z with z | z
          · rw [z] at e; exact Nat.lt_irrefl _ (Heap.lt_size e)
          · exact hbI (List.mem_singleton.mp z)) (hk₅ b o e)
        have hg5 : AllBare (s₂.gens.push gs) := y2.bare.push hgb
        refine ⟨y3.butOne hkk hId hIb hIseq (hg5.moved hm.gens), ⟨fun b o hb' e => ?_, fun _ h => .inl h, hm.os.trans ?_, fun hb' => ?_⟩⟩
        · have e1 := f₁.keep b o hb' e
          exact hkk b o (fun z => by rw [z, hIn] at e1; cases e1) (ext b o (fun z => hb' (z ▸ hTd)) (kp2' b o e1))
        · show s₂.os = s.os
          rw [← hs2]; exact f₁.os
        · exact (AllBare.push (gens := s₂.gens) (by rw [← hs2]; exact f₁.gens hb') hgb).moved hm.gens
  cases hnf : codeAmong pos (ps ++ more).toList with
  | some cv => exact wpAny_genexprCode_hit hcode hic hnf (rest cv s₂.heap s₂.toks (Heap.ExtBut.refl _ _) (Nat.le_refl _) ⟨more, hic, hta⟩)
  | none =>
    refine wpAny_genexprCodeX hcode hic hta hnf fun c' h' tk hx' hge hlt' hic' _ hta' _ => ?_
    refine rest (.ref c') h' tk hx' (Nat.le_trans hge (Nat.le_of_lt hlt')) ⟨more ++ #[rawInt pos.line, rawInt pos.col, .ref c'], ?_, ?_⟩
    · rw [← Array.append_assoc]; exact hic'
    · rw [← Array.append_assoc]; exact hta'
end
end Mine

end

noncomputable section
namespace Mine
theorem clOf_lookup {cs : List (Str × Addr)} {names : List (Str × NameKind)} {x : Str} {c : Addr} (hx : (x, NameKind.free) ∈ names) (hc : cs.lookup x = some c) : (clOf cs names []).lookup x = some c := by
  have hm := clOf_has names [] hx hc
  cases q : (clOf cs names []).lookup x with
  | none =>
    have := List.lookup_eq_none_iff.mp q (x, c) hm
    simp at this
  | some c2 =>
    rcases clOf_mem _ _ (mem_of_lookup q) with z | z
    · cases z
    · rw [← z.1, hc]

noncomputable def inAt (als lds : List Dat) (j : Nat) : Bool := match als[j]? with
  | some d => lds.any fun y => PyData.eqv y.py d.py
  | none => true
theorem inAt_some {als lds : List Dat} {j : Nat} {d : Dat} (h : als[j]? = some d) : inAt als lds j = lds.any fun y => PyData.eqv y.py d.py := by unfold inAt; rw [h]
section
variable {prog : Program} {w : World} {hb : Heap} {M : MP} {sc : Sh} {k : Nat} {ρ : Ren} {μ : Mem} {mg mb : Str → Option Value} {bm : Addr} {ob : Obj}
/-- all(x in z for x in iter), z a list that grows -/
theorem PE.allIn {x z : Str} {p1 p2 cp px gp np pos : Pos} {iter : Expr} {scope : Scope} {D T cc : Addr} {lds als : List Dat} {ps : Array Value} (hMD : ∀ μ, M.holds μ → (D, MO.lst lds) ∈ μ) (hMT : ∀ μ, M.holds μ → (T, MO.tab cc ps) ∈ μ)
    (G : hb.Ns mainGlobals mg) (B : hb.Ns builtinsNs mb) (hm : mg "all" = Option.none) (hv : mb "all" = some (.builtin "all")) (BM : BMod hb mainGlobals mg bm ob) (lim : hb.NoLimit)
    (hi : PE prog w hb M sc k iter ρ (.list als)) (hz : ρ.lookup z = some (.obj D)) (hfd : Dat.fines lds = true) (hfa : ∀ d ∈ als, d.shp) (hzf : (z, NameKind.free) ∈ scope.names) (hzn : scope.names.lookup z = some .free)
    (hxn : scope.names.lookup x = some .local) (h0 : scope.names.lookup (".0" : Str) = some NameKind.local := by rfl) (hcc : sc.code = .ref cc := by rfl) (hok : compOk sc.names scope.names = true := by rfl) (hkind : scope.kind = .function := by rfl) (hco : scope.isCoroutine = false := by rfl)
    (hf : ∀ env x, genFold iter env x = pure x := by intro _ _; rfl) (hk : sc.names.lookup ("all" : Str) = some .globalImplicit := by rfl) (hxd : (x == ("__debug__" : Str)) = false := by rfl) (hzd : (z == ("__debug__" : Str)) = false := by rfl) (hzc : (z == ("__classdict__" : Str)) = false := by rfl) :
    PE prog w hb M sc k (.Call (.Name "all" np) [.GeneratorExp (.Compare (.Name x p1) [.In] [.Name z p2] cp) [⟨.Name x px, iter, [], 0⟩] scope gp] [] pos) ρ (.bool (als.all fun d => lds.any fun y => PyData.eqv y.py d.py)) := by
  intro μ hM env A s E c en y
  refine ⟨fun Q hQ => ?_⟩
  refine wpAny_Call_NameR (ev_builtin en y G B hm hv ?_ hk)
  refine Calls.callWith_builtin (args := backTo pos (starEach [.GeneratorExp (.Compare (.Name x p1) [.In] [.Name z p2] cp) [⟨.Name x px, iter, [], 0⟩] scope gp] env)) rfl ?_
  refine Calls.evalArgs_plain (Calls.spliced_cons ?_)
  -- the cell of z
  obtain ⟨m, n, hvs⟩ := en.vars
  have hzk : sc.names.lookup z = some .cell ∨ sc.names.lookup z = some .free := by
    have hok' := hok
    simp only [compOk, Bool.and_eq_true, List.all_eq_true] at hok'
    have := hok'.2 _ hzf
    simpa using this
  obtain ⟨cz, hcz, hczX, hczI⟩ : ∃ c, env.cells.lookup z = some c ∧ c ∉ dom μ ∧ s.heap.IsCell c (some (.ref D)) := by
    rcases hvs z _ hz with ⟨h1, _⟩ | ⟨_, c, v, h2, h3, _, h5, h6⟩
    · rcases hzk with q | q <;> rw [q] at h1 <;> cases h1
    · cases h6; exact ⟨c, h2, h3, h5⟩
  refine gen_one (fun j r => r = Value.bool (inAt als lds j)) BM lim c en y (hMT μ hM) hcc (hi μ hM) (hf env) hok hkind hco h0 hxn ?_ ?_
  · intro cenv A' E' i v d s2 m2 hA hdep huni hd hsc hce hgl hbi hns hmx rv hmem hbase hold
    have hkf : cenv.scope.kind = .function := by rw [hsc]; exact hkind
    refine wpAny_Compare1 ?_ (by with_unfolding_all rfl)
    refine wpAny_Name (wpAny_loadName_local hkf (by show cenv.scope.names.lookup x = _; rw [hsc, hxn]) hns hmx ?_) hxd
    have hci : s2.heap.IsCell cz (some (.ref D)) := by obtain ⟨o, ho, hdd⟩ := hczI; exact ⟨o, hold cz o hczX ho, hdd⟩
    refine wpAny_Name (wpAny_loadName_free hkf (by show cenv.scope.names.lookup z = _; rw [hsc, hzn]) (by rw [hce]; exact clOf_lookup hzf hcz) hci ?_ hzc) hzd
    have hds : d.shp := hfa d (List.mem_of_getElem? hd)
    obtain ⟨as, q₁⟩ := rv.reads (Dat.fine_noObj hds.1)
    obtain ⟨vs, ⟨nn, epl⟩, ra⟩ := hmem _ (hMD μ hM)
    obtain ⟨bs, q⟩ := ra.reads (Dat.fines_noObjs hfd)
    have q₂ : Reads s2.heap (.ref D) (.list (Dat.pys lds)) _ := .list epl rfl rfl (by simpa using q)
    refine SeqAt.in_list_reads q₂ q₁ (Dat.fines_lay hfd) (Dat.fine_lay hds.1) (by have := c.uni; have := hds.2; omega) ?_
    rw [pys_map, List.any_map]
    refine ⟨?_, s2.heap, s2.toks, rfl, fun _ _ e => e⟩
    rw [inAt_some hd]; rfl
  · intro a fp wr g St s5 W hst hT ha hfp hmv
    refine Calls.spliced_nil ?_
    have W1 := W.in4_1
    refine call_all_walkS (W1.self 0 _ _ _ hst ⟨a, fp, wr, _, _, _, St, fun j => (inAt als lds j), rfl, W1, hst, fun j v s' Q' E' hP hq => ?_, fun s' hmoved => ?_⟩)
    · rw [hP]; exact wpAny_truthy_bool hq
    · obtain ⟨y', f'⟩ := hmv s' hmoved
      have e : ((List.range als.length).all fun j => (inAt als lds j)) = als.all fun d => lds.any fun y => PyData.eqv y.py d.py := by
        rw [Bool.eq_iff_iff, List.all_eq_true, List.all_eq_true]
        constructor
        · intro h d hd
          obtain ⟨j, hj, e⟩ := List.mem_iff_getElem.mp hd
          have := h j (List.mem_range.mpr hj)
          rw [inAt_some (List.getElem?_eq_getElem hj), e] at this
          exact this
        · intro h j hj
          have hj' := List.mem_range.mp hj
          rw [inAt_some (List.getElem?_eq_getElem hj')]
          exact h _ (List.getElem_mem hj')
      rw [e]
      exact hQ _ _ μ s' ⟨rfl, rfl⟩ (.bool _) y' f'
end
end Mine

end

noncomputable section
namespace Mine
/-! Instances of a class of one's own whose base is list. -/
structure AccCls (h : Heap) (mN : Str → Option Value) : Prop where
  obj : ∃ nm q bs sn sub ab col dd k0 k1 k2 k3 k5, h.get? accC = some (excClassObj nm q accC 113 bs [.type "list", .type "object"] true sn sub ab col dd k0 k1 k2 k3 k5 "list.__new__")
  ns : h.Ns 113 mN
theorem AccCls.keeps {h h' : Heap} {mN : Str → Option Value} (X : AccCls h mN) (k : ∀ b o, h.get? b = some o → h'.get? b = some o) : AccCls h' mN :=
  let ⟨nm, q, bs, sn, sub, ab, col, dd, k0, k1, k2, k3, k5, e⟩ := X.obj; ⟨⟨nm, q, bs, sn, sub, ab, col, dd, k0, k1, k2, k3, k5, k _ _ e⟩, X.ns.keeps k⟩
/-- the object at a is such a thing -/
noncomputable def IsAcc (h : Heap) (a : Addr) : Prop := ∃ o, h.get? a = some o ∧ o.cls = .ref accC
theorem mro_list : mroOf (.type "list") = pure [.type "list", .type "object"] := by kernel_rfl

section
variable {M : Model} {A : Around} {E : Value → Shared → Prop} {s : Shared} {mN : Str → Option Value} {a : Addr}
theorem acc_lookup {name : Str} {y : Option Value} {Q : Option Value → Shared → Prop} (X : AccCls s.heap mN) (hB : typeLookup (.type "list") name = pure y) (hq : Q (match mN name with | some v => some v | none => y) s) : wpAny M A (typeLookup (.ref accC) name) Q E s := by
  obtain ⟨nm, q, bs, sn, sub, ab, col, dd, k0, k1, k2, k3, k5, e⟩ := X.obj
  exact wpAny_typeLookup_exc (B := "list") e X.ns mro_list hB hq
theorem acc_typeOf {Q : Value → Shared → Prop} (I : IsAcc s.heap a) (hq : Q (.ref accC) s) : wpAny M A (typeOf (.ref a)) Q E s := by
  obtain ⟨o, ho, hc⟩ := I
  simp only [typeOf]
  exact wpAny_bind (wpAny_load ho (wpAny_pure (hc ▸ hq)))
theorem acc_special {name : Str} {y : Option Value} {Q : Option Value → Shared → Prop} (X : AccCls s.heap mN) (I : IsAcc s.heap a) (hB : typeLookup (.type "list") name = pure y) (hq : Q (match mN name with | some v => some v | none => y) s) : wpAny M A (specialOf (.ref a) name) Q E s := by
  simp only [specialOf]
  exact wpAny_bind (acc_typeOf I (acc_lookup X hB hq))
theorem acc_isSub {T : String} {Q : Bool → Shared → Prop} (X : AccCls s.heap mN) (hq : Q (decide (T = "list" ∨ T = "object")) s) : wpAny M A (isSubtype (.ref accC) (.type T)) Q E s := by
  obtain ⟨nm, q, bs, sn, sub, ab, col, dd, k0, k1, k2, k3, k5, e⟩ := X.obj
  refine wpAny_isSubtype_exc e ?_
  have : (Value.ref accC :: [Value.type "list", Value.type "object"]).contains (.type T) = decide (T = "list" ∨ T = "object") := by
    rw [Bool.eq_iff_iff]
    simp
  rw [this]; exact hq
/-- a slot of list, called on such a thing -/
theorem acc_check {id n : String} {rest : List Value} {Q : Unit → Shared → Prop} (X : AccCls s.heap mN) (I : IsAcc s.heap a) (hsplit : splitId id = some ("list", n)) (hkind : builtinKind id = some .slot ∨ builtinKind id = some .method) (ha : argsOk id ⟨.ref a :: rest, []⟩) (hq : Q () s) :
    wpAny M A (checkBuiltinCall id ⟨.ref a :: rest, []⟩) Q E s := by
  rcases hkind with h | h <;>
  · simp only [checkBuiltinCall, h, hsplit]
    refine wpAny_bind ?_
    simp only [isInstance]
    refine wpAny_bind (acc_typeOf I (acc_isSub X ?_))
    simp only [true_or, decide_true, Bool.not_true, Bool.false_eq_true, if_false]
    cases hsig : Manifest.signature? id with
    | none => exact wpAny_pure hq
    | some sig =>
      simp only [argsOk, hsig] at ha
      have h2 : Bind.checkArgs id sig ⟨.ref a :: rest, []⟩ = pure () := ha
      show wpAny M A (Bind.checkArgs id sig ⟨.ref a :: rest, []⟩) Q E s
      rw [h2]; exact wpAny_pure hq
end
section
variable {prog : Program} {w : World} {A : Around} {E : Value → Shared → Prop} {s : Shared} {mN : Str → Option Value} {a : Addr}
theorem acc_call {id n : String} {b : Builtin} {rest : List Value} {Q : Value → Shared → Prop} (X : AccCls s.heap mN) (I : IsAcc s.heap a) (hp : plainId id = true) (hsplit : splitId id = some ("list", n)) (hkind : builtinKind id = some .slot ∨ builtinKind id = some .method) (hb : entryFor table id = some b) (ha : argsOk id ⟨.ref a :: rest, []⟩)
    (hc : wpAny (model prog w) A.in1 (b ⟨.ref a :: rest, []⟩) (fun fin s' => ∃ v, fin = .done (.ret v) ∧ Q v s') E s) : wpAny (model prog w) A (call (.builtin id) (.ref a :: rest)) Q E s := by
  refine wpAny_call (codeAny_call_builtin hp hb (acc_check X I hsplit hkind ha (wpAny_mono hc (fun fin s' h' => ?_) fun _ _ h' => h')))
  obtain ⟨v, rfl, hv⟩ := h'; exact hv
/-- a special method that is list's own -/
theorem acc_special_call {T : String} {name : Str} {id : String} {args : List Value} {Q : Option Value → Shared → Prop} (X : AccCls s.heap mN) (I : IsAcc s.heap a) (S : Slot "list" name id) (hn : mN name = none)
    (hc : wpAny (model prog w) A (call (.builtin id) (.ref a :: args)) (fun v => Q (some v)) E s) : wpAny (model prog w) A (callSpecial? (.ref a) name args) Q E s := by
  simp only [callSpecial?]
  refine wpAny_bind (acc_special X I S.lookup ?_)
  rw [hn]
  simp only [S.bind]
  exact wpAny_holding (wpAny_bind (wpAny_pure (wpAny_bind (wpAny_mono hc (fun v s' h' => wpAny_pure h') fun _ _ h' => h'))))
end
end Mine

end

noncomputable section
namespace Mine
section
variable {prog : Program} {w : World} {A : Around} {E : Value → Shared → Prop} {s : Shared} {mN : Str → Option Value} {a dx : Addr} {xs : Array Value} {n : Nat}
/-- the object of an accumulator -/
noncomputable abbrev accObj (dx : Addr) (xs : Array Value) (n : Nat) : Obj := ⟨.ref accC, some dx, .seq xs n, #[]⟩
theorem isAcc (ho : s.heap.get? a = some (accObj dx xs n)) : IsAcc s.heap a := ⟨_, ho, rfl⟩
theorem acc_seqKey {M : Model} {k : Value} {name : Str} {Q : Value → Shared → Prop} (X : AccCls s.heap mN) (I : IsAcc s.heap a) (h : Q k s) : wpAny M A (sequenceKey (.ref a) k name) Q E s := by
  unfold sequenceKey
  refine wpAny_bind (acc_typeOf I ?_)
  show wpAny M A (do if !(← seqItemTypes.anyM fun n => isSubtype (.ref accC) (.type n)) then return k else _) Q E s
  simp only [seqItemTypes, List.anyM, bind_assoc]
  refine wpAny_bind (acc_isSub X ?_)
  simp
  exact wpAny_pure h
theorem acc_getItem {k : Int} {t : Tok} {x : Value} {Q : Value → Shared → Prop} (X : AccCls s.heap mN) (ho : s.heap.get? a = some (accObj dx xs n)) (hm : mN "__getitem__" = none) (h0 : 0 ≤ k) (hfit : k < 2 ^ 63) (hx : xs[k.toNat]? = some x) (h : Q x s) :
    wpAny (model prog w) A (getItem (.ref a) (.int k t)) Q E s := by
  have I := isAcc ho
  unfold getItem
  refine wpAny_holding ?_
  refine wpAny_bind (acc_seqKey X I ?_)
  refine wpAny_bind (acc_special_call (T := "list") X I slot_list_getitem hm (acc_call X I (by decide +kernel) (n := "__getitem__") (by decide +kernel) (by first | exact .inl (by decide +kernel) | exact .inr (by decide +kernel)) entry_list_getitem (args_list_getitem _ _) ?_))
  show wpAny _ _ (Builtin.List.listSubscript? (.int k t) >>= _) _ _ s
  refine wpAny_bind (wpAny_listSubscript_int (fitsIndex_of h0 hfit) ?_)
  clear hfit
  obtain ⟨j, rfl⟩ := Int.eq_ofNat_of_zero_le h0
  have hx' : xs[j]? = some x := hx
  show wpAny _ _ ((seqItemAt a j >>= fun r => pure (r.map (j, ·))) >>= _) _ _ s
  refine wpAny_bind (wpAny_bind (wpAny_seqItemAt ho rfl (wpAny_pure ?_)))
  rw [hx']
  first
    | exact wpAny_bind (wpAny_pure (wpAny_pure ⟨x, rfl, wpAny_pure h⟩))
    | exact wpAny_pure ⟨x, rfl, wpAny_pure h⟩
theorem acc_getItem_out {k : Int} {t : Tok} {Q : Value → Shared → Prop} (hA : A.handled = none) (X : AccCls s.heap mN) (ho : s.heap.get? a = some (accObj dx xs n)) (hm : mN "__getitem__" = none) (h0 : 0 ≤ k) (hfit : k < 2 ^ 63) (hx : xs[k.toNat]? = none)
    (hE : ∀ h' tk e, Heap.NewExc s.heap h' e "IndexError" → E (.ref e) { s with heap := h', toks := tk }) :
    wpAny (model prog w) A (getItem (.ref a) (.int k t)) Q E s := by
  have I := isAcc ho
  unfold getItem
  refine wpAny_holding ?_
  refine wpAny_bind (acc_seqKey X I ?_)
  refine wpAny_bind (acc_special_call (T := "list") X I slot_list_getitem hm (acc_call X I (by decide +kernel) (n := "__getitem__") (by decide +kernel) (by first | exact .inl (by decide +kernel) | exact .inr (by decide +kernel)) entry_list_getitem (args_list_getitem _ _) ?_))
  show wpAny _ _ (Builtin.List.listSubscript? (.int k t) >>= _) _ _ s
  refine wpAny_bind (wpAny_listSubscript_int (fitsIndex_of h0 hfit) ?_)
  clear hfit
  obtain ⟨j, rfl⟩ := Int.eq_ofNat_of_zero_le h0
  have hx' : xs[j]? = none := hx
  show wpAny _ _ ((seqItemAt a j >>= fun r => pure (r.map (j, ·))) >>= _) _ _ s
  refine wpAny_bind (wpAny_bind (wpAny_seqItemAt ho rfl (wpAny_pure ?_)))
  rw [hx']
  first
    | exact wpAny_bind (wpAny_rule (by exact_raiseError plainExc_IndexError hA hE))
    | exact wpAny_bind (wpAny_rule (wpAny_bind (by exact_raiseError plainExc_IndexError hA hE)))
    | exact wpAny_bind (wpAny_bind (wpAny_rule (by exact_raiseError plainExc_IndexError hA hE)))
    | exact wpAny_rule (by exact_raiseError plainExc_IndexError hA hE)
theorem acc_tail {value slice : Expr} {i : Value} {ops : List Value} {Q : Value → Shared → Prop} (X : AccCls s.heap mN) (I : IsAcc s.heap a) (hm : mN "__getitem__" = none) (hg : wpAny (model prog w) A (getItem (.ref a) i) Q E s)
    (hs : subscripted slice false (.ref a) i = operate ops (getItem (.ref a) i)) : wpAny (model prog w) A (subscriptTail value slice (.ref a) i) Q E s := by
  unfold subscriptTail
  refine wpAny_bind ?_
  rw [getitemInPython_of_ne (by intro z; cases z)]
  refine wpAny_bind (acc_special X I slot_list_getitem.lookup ?_)
  rw [hm]
  have fin : wpAny (model prog w) A (subscripted slice false (.ref a) i) (fun r s₃ => wpAny (model prog w) A (letTemporaryGo value (.ref a) r >>= fun _ => pure r) Q E s₃) E s := by
    rw [hs]
    exact wpAny_operating (wpAny_mono hg (fun r s₃ h₃ => wpAny_bind (wpAny_letTemporaryGo (wpAny_pure h₃))) fun _ _ x => x)
  first
    | exact wpAny_pure (wpAny_bind fin)
    | exact wpAny_bind (wpAny_pure (wpAny_bind fin))
    | exact wpAny_bind fin
end
end Mine

end

noncomputable section
namespace Mine
section
variable {prog : Program} {w : World} {A : Around} {E : Value → Shared → Prop} {s : Shared} {mN : Str → Option Value} {a dx : Addr} {xs : Array Value} {n : Nat}
theorem acc_slice {sl : Addr} {vl vu vs : Value} {lo hi st : Option Int} {Q : Value → Shared → Prop} (X : AccCls s.heap mN) (ho : s.heap.get? a = some (accObj dx xs n)) (hm : mN "__getitem__" = none)
    (hs : s.heap.IsSliceOf sl vl vu vs) (pl : IsPart vl lo) (pu : IsPart vu hi) (ps : IsPart vs st) (h0 : st ≠ some 0)
    (h : Q (.ref s.heap.objs.size) { s with heap := s.heap.push { cls := .type "list", data := .seq (slicePick xs lo hi st) } })
    (hsz : xs.size ≤ sizeLine) : wpAny (model prog w) A (getItem (.ref a) (.ref sl)) Q E s := by
  have I := isAcc ho
  obtain ⟨os, hos, hcs, hds⟩ := id hs
  have hTs : s.TypeIs (.ref sl) "slice" := ⟨os, hos, hcs⟩
  unfold getItem
  refine wpAny_holding ?_
  refine wpAny_bind (acc_seqKey X I ?_)
  refine wpAny_bind (acc_special_call (T := "list") X I slot_list_getitem hm (acc_call X I (by decide +kernel) (n := "__getitem__") (by decide +kernel) (by first | exact .inl (by decide +kernel) | exact .inr (by decide +kernel)) entry_list_getitem (args_list_getitem _ _) ?_))
  show wpAny _ _ (Builtin.List.listSubscript? (.ref sl) >>= _) _ _ s
  refine wpAny_bind ?_
  unfold Builtin.List.listSubscript?
  refine wpAny_bind (wpAny_specialOf hTs slice_no_index ?_)
  simp only [Option.isNone_none, if_true]
  refine wpAny_pure ?_
  show wpAny _ _ (typeOf (.ref sl) >>= _) _ _ s
  refine wpAny_bind (wpAny_typeOf hTs ?_)
  rw [if_neg (by decide)]
  rw [listSliceParts_eq]
  have hstep : ¬ ((rawPart st == rawInt 0) = true) := by
    cases st with
    | none => exact Bool.false_ne_true
    | some c =>
      intro hh
      have : c = 0 := by simpa [rawPart, rawInt] using hh
      exact h0 (by rw [this])
  refine wpAny_bind (wpAny_bind (wpAny_field hos hds (x := vs) rfl (wpAny_bind (wpAny_listPart ps ?_))))
  rw [if_neg hstep]
  refine wpAny_bind (wpAny_field hos hds (x := vl) rfl (wpAny_bind (wpAny_listPart pl ?_)))
  refine wpAny_bind (wpAny_field hos hds (x := vu) rfl (wpAny_bind (wpAny_listPart pu (wpAny_pure ?_))))
  refine wpAny_bind (m := Builtin.List.listItems (.ref a)) ?_
  unfold Builtin.List.listItems
  refine wpAny_bind (wpAny_seqItems ho rfl (wpAny_pure ?_))
  refine wpAny_bind (wpAny_of_eq (sliceIndices_raw lo hi st xs.size h0) ?_)
  exact wpAny_bind (wpAny_newObj_type (wpAny_pure ⟨_, rfl, wpAny_pure h⟩) (Nat.le_trans (slicePick_size_le xs lo hi st) hsz))
end

section
variable {prog : Program} {w : World} {hb : Heap} {sc : Sh} {k : Nat} {ρ : Ren} {μ : Mem} {Φ : Dat → Mem → Prop} {mN : Str → Option Value}
theorem WpE.accItem {value slice : Expr} {pos : Pos} (XC : AccCls hb mN) (hm : mN "__getitem__" = Option.none) (h : WpE prog w hb sc k value ρ μ (fun d₁ μ₁ => WpE prog w hb sc k slice ρ μ₁ (fun d₂ μ₂ => ∃ a dx n ds i d, d₁ = .obj a ∧ (a, MO.acc dx n ds) ∈ μ₂ ∧ d₂ = .int i ∧ 0 ≤ i ∧ i < 2 ^ 62 ∧ ds[i.toNat]? = some d ∧ Φ d μ₂)))
    (hs : plainIx slice := by intro _ _; rfl) : WpE prog w hb sc k (.Subscript value slice pos) ρ μ Φ := by
  intro env A s E c e y
  refine ⟨fun Q hQ => ?_⟩
  refine Subscript_ ((h env A s E c e y).run _ fun v₁ d₁ μ₁ s₁ h₁ r₁ y₁ f₁ => (h₁ env A s₁ E c (e.step f₁) y₁).run _ fun v₂ d₂ μ₂ s₂ h₂ r₂ y₂ f₂ => ?_)
  obtain ⟨a, dx, n, ds, i, d, rfl, hmem, rfl, h0, hhi, hi, hΦ⟩ := h₂
  cases r₁
  cases r₂ with
  | int _ t =>
  obtain ⟨vs, kk, ho, ra, _⟩ := y₂.mem _ hmem
  obtain ⟨v, hv, rv⟩ := ra.get _ hi
  have X2 := XC.keeps y₂.base
  exact acc_tail X2 (isAcc ho) hm (acc_getItem X2 ho hm h0 (by omega) (by simpa using hv) (hQ v d μ₂ s₂ hΦ rv y₂ (f₁.trans f₂))) (hs _ _)

theorem WpE.accFrom {value lo : Expr} {p pos : Pos} (XC : AccCls hb mN) (hm : mN "__getitem__" = Option.none) (h : WpE prog w hb sc k value ρ μ (fun d₁ μ₁ => WpE prog w hb sc k lo ρ μ₁ (fun d₂ μ₂ => ∃ a dx n ds i, d₁ = .obj a ∧ (a, MO.acc dx n ds) ∈ μ₂ ∧ d₂ = .int i ∧ 0 ≤ i ∧ ds.length ≤ sizeLine ∧ Φ (.list (ds.drop i.toNat)) μ₂))) :
    WpE prog w hb sc k (.Subscript value (.Slice (some lo) Option.none Option.none p) pos) ρ μ Φ := by
  intro env A s E c e y
  refine ⟨fun Q hQ => ?_⟩
  refine Subscript_ ((h env A s E c e y).run _ fun v₁ d₁ μ₁ s₁ h₁ r₁ y₁ f₁ => wpAny_Slice (wpAny_evalPart_some ((h₁ env A s₁ E c (e.step f₁) y₁).run _ fun v₂ d₂ μ₂ s₂ h₂ r₂ y₂ f₂ => wpAny_evalPart_none ?_)))
  obtain ⟨a, dx, n, ds, i, rfl, hmem, rfl, h0, hsz, hΦ⟩ := h₂
  cases r₁
  cases r₂ with
  | int _ t =>
  obtain ⟨vs, kk, ho, ra, _⟩ := y₂.mem _ hmem
  rw [evalPart_none]
  refine wpAny_pure ?_
  have k3 := push_keeps (h := s₂.heap) { cls := .type "slice", data := .fields #[.int i t, .none, .none] }
  have y3 : Ok hb μ₂ { s₂ with heap := s₂.heap.push { cls := .type "slice", data := .fields #[.int i t, .none, .none] } } := y₂.keeps (tk := s₂.toks) k3
  have X3 := XC.keeps y3.base
  have ho3 := k3 _ _ ho
  refine acc_tail X3 (isAcc ho3) hm (acc_slice X3 ho3 hm (Heap.IsSliceOf.new ..) (.int i t) .none .none (by simp) ?_ (by simpa [ra.length] using hsz)) rfl
  rw [pick_from h0]
  have kk4 : ∀ b o, s₂.heap.get? b = some o → ((s₂.heap.push { cls := .type "slice", data := .fields #[.int i t, .none, .none] }).push { cls := .type "list", data := .seq ((vs.toArray.toList).drop i.toNat).toArray }).get? b = some o := fun b o z => Heap.get?_push_of_some _ (Heap.get?_push_of_some _ z)
  have g : Fw (dom μ₂) (dom μ₂) s₂ { s₂ with heap := (s₂.heap.push { cls := .type "slice", data := .fields #[.int i t, .none, .none] }).push { cls := .type "list", data := .seq ((vs.toArray.toList).drop i.toNat).toArray } } := Fw.keeps (tk := s₂.toks) kk4
  refine hQ _ _ μ₂ _ hΦ (.list (not_dom y3) ⟨_, Heap.get?_push_size _ rfl, rfl, _, rfl⟩ ?_) (y₂.keeps (tk := s₂.toks) kk4) ((f₁.trans f₂).trans g)
  simpa using (ra.drop i.toNat).step g
end
end Mine

end

noncomputable section
namespace Mine
theorem accObj_map (dx : Addr) (xs : Array Value) (n : Nat) (f : Array Value → Array Value) : ∃ n', (accObj dx xs n).mapSeq f = accObj dx (f xs) n' := ⟨_, rfl⟩
section
variable {prog : Program} {w : World} {A : Around} {E : Value → Shared → Prop} {s : Shared} {mN : Str → Option Value} {a dx : Addr} {xs : Array Value} {n : Nat}
/-- the object has other items now -/
theorem acc_update {f : Array Value → Array Value} {Q : Unit → Shared → Prop} (ho : s.heap.get? a = some (accObj dx xs n)) (hz : xs.size ≤ sizeLine) (hz' : (f xs).size ≤ sizeLine + 1)
    (h : ∀ h' n', h'.get? a = some (accObj dx (f xs) n') → Heap.SameBut a s.heap h' → Q () { s with heap := h' }) : wpAny (model prog w) A (updateSeq a f) Q E s := by
  refine wpAny_updateSeq ho rfl ?_ hz hz'
  obtain ⟨n', e⟩ := accObj_map dx xs n f
  refine h _ n' ?_ (Heap.SameBut.update ..)
  rw [← e]
  exact Heap.get?_update_self _ ho (by rw [e]; rfl)
theorem acc_delItem {t : Tok} {Q : Unit → Shared → Prop} (X : AccCls s.heap mN) (ho : s.heap.get? a = some (accObj dx xs n)) (hm : mN "__delitem__" = none) (hx : 0 < xs.size) (hz : xs.size ≤ sizeLine)
    (h : ∀ h' n', h'.get? a = some (accObj dx (xs.eraseIdxIfInBounds 0) n') → Heap.SameBut a s.heap h' → Q () { s with heap := h' }) :
    wpAny (model prog w) A (delItem (.ref a) (.int 0 t)) Q E s := by
  have I := isAcc ho
  unfold delItem
  refine wpAny_holding ?_
  refine wpAny_bind (acc_seqKey X I ?_)
  refine wpAny_bind (acc_special_call (T := "list") X I F.slot_list_delitem hm (acc_call X I (by decide +kernel) (n := "__delitem__") (by decide +kernel) (by first | exact .inl (by decide +kernel) | exact .inr (by decide +kernel)) F.entry_list_delitem (F.args_list_delitem_2 _ _) ?_))
  unfold Builtin.«list.__delitem__»
  refine wpAny_bind (m := slotArgs _ _ _) (wpAny_of_eq (a := (Value.ref a, [Value.int 0 t])) rfl ?_)
  refine wpAny_bind (m := Builtin.List.listSubscript? (.int 0 t)) (wpAny_listSubscript_int (by decide) ?_)
  refine wpAny_bind (m := Builtin.List.listItems (.ref a)) ?_
  unfold Builtin.List.listItems
  refine wpAny_bind (wpAny_seqItems ho rfl (wpAny_pure ?_))
  have hk : seqIndex? 0 xs.size = some 0 := by
    unfold seqIndex?
    simp [hx]
  simp only [hk]
  show wpAny _ _ (updateSeq a _ >>= _) _ _ s
  refine wpAny_bind (acc_update ho hz (Nat.le_trans (MeetsSeq.size_erased xs _) (Nat.le_succ_of_le hz)) fun h' n' e1 e2 => ?_)
  exact wpAny_pure ⟨.none, rfl, wpAny_pure (h h' n' e1 e2)⟩
end
/-- an accumulator has other items now -/
theorem Ok.accSet {hb : Heap} {μ : Mem} {s : Shared} {h' : Heap} {a dx : Addr} {sz : Option Int} {ds ds' : List Dat} {vs' : List Value} {n' : Nat} (y : Ok hb μ s) (hm : (a, MO.acc dx sz ds) ∈ μ) (h1 : h'.get? a = some (accObj dx vs'.toArray n')) (hs : Heap.SameBut a s.heap h') (r : RdA (dom μ) s.heap vs' ds') :
    Ok hb (Mine.setM μ a (.acc dx sz ds')) { s with heap := h' } ∧ dom (Mine.setM μ a (.acc dx sz ds')) = dom μ ∧ Fw (dom μ) (dom μ) s { s with heap := h' } := by
  have hk : ∀ b q, b ≠ a → s.heap.get? b = some q → h'.get? b = some q := fun b q hne z => (hs.2 b hne).trans z
  have f : Fw (dom μ) (dom μ) s { s with heap := h' } := Fw.sameIn (tk := s.toks) (mem_dom hm) hk
  obtain ⟨_, _, _, _, m, h2, h3⟩ := y.mem _ hm
  have hda : dx ≠ a := fun z => nodup_more y.nodup hm hm (by rw [← z]; exact .head _)
  exact ⟨y.setM (tk := s.toks) (o' := .acc dx sz ds') hm rfl hk ⟨vs', n', h1, r.step f, m, h2.sameBut hs hda, h3⟩ (fun _ _ z => by cases z), dom_setM fun q hq => by rw [nodup_fst y.nodup hq hm]; rfl, f⟩

section
variable {prog : Program} {w : World} {hb : Heap} {sc : Sh} {k : Nat} {ρ : Ren} {μ : Mem} {Ψ : AFlow → Ren → Mem → Prop} {mN : Str → Option Value}
/-- del acc[0] -/
theorem Wp1.delAcc {value idx : Expr} {spos pos : Pos} (XC : AccCls hb mN) (hm : mN "__delitem__" = none) (h : WpE prog w hb sc k value ρ μ (fun d₁ μ₁ => WpE prog w hb sc k idx ρ μ₁ (fun d₂ μ₂ => ∃ a dx sz d ds, d₁ = .obj a ∧ d₂ = .int 0 ∧ (a, MO.acc dx sz (d :: ds)) ∈ μ₂ ∧ ds.length < sizeLine ∧ Ψ .next ρ (setM μ₂ a (.acc dx sz ds))))) :
    Wp1 prog w hb sc k (.Delete [.Subscript value idx spos] pos) ρ μ Ψ := by
  intro env A s E c e y
  refine ⟨fun Q hQ => ?_⟩
  refine wpAny_Delete (wpAny_deleteEach_cons ?_)
  rw [arm_delete_Subscript]
  refine wpAny_bind ((h env A s E c e y).run _ fun v₁ d₁ μ₁ s₁ h₁ r₁ y₁ f₁ => wpAny_bind (wpAny_holding ((h₁ env A s₁ E c (e.step f₁) y₁).run _ fun v₂ d₂ μ₂ s₂ h₂ r₂ y₂ f₂ => ?_)))
  obtain ⟨a, dx, sz, d, ds, rfl, rfl, hmem, hsz, hΨ⟩ := h₂
  cases r₁
  cases r₂ with
  | int _ t =>
  obtain ⟨vs, kk, ho, ra, _⟩ := id (y₂.mem _ hmem)
  cases ra with
  | cons rv rs =>
  rename_i v vs
  refine wpAny_bind (wpAny_standAt (wpAny_bind (wpAny_holding (acc_delItem (XC.keeps y₂.base) ho hm (by simp) (by simp [rs.length]; omega) fun h' n' e1 e2 => ?_))))
  have e3 : (v :: vs).toArray.eraseIdxIfInBounds 0 = vs.toArray := by simp
  rw [e3] at e1
  obtain ⟨y3, ed, f3⟩ := y₂.accSet hmem e1 e2 rs
  refine wpAny_release (wpAny_deleteEach_nil ?_)
  have ft := (f₁.trans f₂).trans f3
  exact hQ .next .next ρ _ _ hΨ trivial (by rw [ed]; exact e.step ft) y3 (by rw [ed]; exact ft.lift _)
end
end Mine

end

noncomputable section
namespace Mine
theorem SizeIs.other {sz : Option Int} {m : Str → Option Value} (h : SizeIs sz m) {x : Str} (hx : x ≠ sizeName) : m x = none := by
  cases sz with
  | none => exact h x
  | some i => obtain ⟨t, h⟩ := h; rw [h, if_neg hx]
section
variable {M : Model} {A : Around} {E : Value → Shared → Prop} {s : Shared} {mN : Str → Option Value} {a dx : Addr} {xs : Array Value} {n : Nat} {mA : Str → Option Value} {pl : Sem Bool}
/-- a method that the class defines -/
theorem acc_getMethod {name : Str} {f : Addr} {of : Obj} {y : Option Value} {Q : Value × List Value → Shared → Prop} (X : AccCls s.heap mN) (ho : s.heap.get? a = some (accObj dx xs n)) (hd : s.heap.Ns dx mA) (hno : mA name = none)
    (hga : mN "__getattribute__" = none) (hgg : mN "__getattr__" = none) (hf : mN name = some (.ref f)) (hfo : s.heap.get? f = some of) (hfc : of.cls = .type "function") (hB : typeLookup (.type "list") name = pure y) (h : Q (.ref f, [.ref a]) s) :
    wpAny M A (getMethod (.ref a) name pl) Q E s := by
  have I := isAcc ho
  unfold getMethod
  refine wpAny_bind (acc_special X I list_getattribute ?_)
  rw [hga]
  show wpAny M A (if (Manifest.canonical "list.__getattribute__" != "object.__getattribute__") = true then _ else _) Q E s
  rw [canon_list_getattribute, if_neg Bool.false_ne_true]
  refine wpAny_bind (acc_special X I list_getattr_none ?_)
  rw [hgg]
  refine wpAny_bind (acc_special X I hB ?_)
  rw [hf]
  refine wpAny_bind (wpAny_typeOf (T := "function") ⟨of, hfo, hfc⟩ ?_)
  refine wpAny_bind (wpAny_loadPart ho ?_)
  refine wpAny_bind (wpAny_nsGet hd ?_)
  rw [hno]
  exact wpAny_bind (wpAny_rule (wpAny_pure h))
/-- a method of list -/
theorem acc_getMethodB {name : Str} {id : String} {Q : Value × List Value → Shared → Prop} (X : AccCls s.heap mN) (ho : s.heap.get? a = some (accObj dx xs n)) (hd : s.heap.Ns dx mA) (hno : mA name = none)
    (hga : mN "__getattribute__" = none) (hgg : mN "__getattr__" = none) (hf : mN name = none) (hB : typeLookup (.type "list") name = pure (some (.builtin id))) (ht : typeOf (.builtin id) = pure (.type "method_descriptor")) (h : Q (.builtin id, [.ref a]) s) :
    wpAny M A (getMethod (.ref a) name pl) Q E s := by
  have I := isAcc ho
  unfold getMethod
  refine wpAny_bind (acc_special X I list_getattribute ?_)
  rw [hga]
  show wpAny M A (if (Manifest.canonical "list.__getattribute__" != "object.__getattribute__") = true then _ else _) Q E s
  rw [canon_list_getattribute, if_neg Bool.false_ne_true]
  refine wpAny_bind (acc_special X I list_getattr_none ?_)
  rw [hgg]
  refine wpAny_bind (acc_special X I hB ?_)
  rw [hf]
  refine wpAny_bind (wpAny_of_eq ht ?_)
  refine wpAny_bind (wpAny_loadPart ho ?_)
  refine wpAny_bind (wpAny_nsGet hd ?_)
  rw [hno]
  exact wpAny_bind (wpAny_rule (wpAny_pure h))
end
/-- what the class says of itself -/
structure AccNames (hb : Heap) (mN : Str → Option Value) : Prop where
  X : AccCls hb mN
  ga : mN "__getattribute__" = none
  gg : mN "__getattr__" = none
section
variable {prog : Program} {w : World} {hb : Heap} {sc : Sh} {k : Nat} {ρ : Ren} {μ : Mem} {Φ : Dat → Mem → Prop} {mN : Str → Option Value}
/-- acc.name(args) for a method of the class, with arguments -/
theorem WpE.accMethod {o : Expr} {name : Str} {apos pos : Pos} {args : List Expr} {f : Addr} {of : Obj} {fd : FuncData} {y : Option Value} (C : AccNames hb mN) (hf : mN name = some (.ref f)) (hfo : hb.get? f = some of) (hfc : of.cls = .type "function") (hfd : of.data = .func fd) (hB : typeLookup (.type "list") name = pure y) (hns : name ≠ sizeName)
    (h : WpE prog w hb sc k o ρ μ (fun d μ₁ => ∃ a dx sz ds, d = .obj a ∧ (a, MO.acc dx sz ds) ∈ μ₁ ∧ WpA prog w hb sc k args pos ρ μ₁ (fun es μ₂ => WpC prog w hb k f (.obj a :: es) μ₂ Φ)))
    (hst : ∀ env, ∃ y r, backTo pos (starEach args env) = (false, y) :: r := by intro _; exact ⟨_, _, rfl⟩)
    (he : ∀ env, ∃ pl, eval (.Call (.Attribute o name apos) args [] pos) env = (do
      let ov ← eval o env
      standAt apos.atName
      let (f, first) ← holding [ov] (getMethod ov name pl)
      callWith pos f first (backTo pos (starEach args env)) []) := by intro _; exact ⟨_, rfl⟩) : WpE prog w hb sc k (.Call (.Attribute o name apos) args [] pos) ρ μ Φ := by
  intro env A s E c en y'
  refine ⟨fun Q hQ => ?_⟩
  obtain ⟨pl, he⟩ := he env
  refine MethodCall_ (pl := pl) ((h env A s E c en y').run _ fun v d μ₁ s₁ h₁ r₁ y₁ f₁ => ?_) he
  obtain ⟨a, dx, sz, ds, rfl, hm, h₁⟩ := h₁
  cases r₁
  obtain ⟨vs, kk, ho, _, mA, hA, hsz⟩ := id (y₁.mem _ hm)
  refine acc_getMethod (C.X.keeps y₁.base) ho hA.ns (hsz.other hns) C.ga C.gg hf (y₁.base _ _ hfo) hfc hB ?_
  refine Calls.callWith_function (o := of) (fd := fd) ?_
  have key := h₁ env A s₁ E c (en.step f₁) y₁
  obtain ⟨yy, r, hy⟩ := hst env
  rw [hy] at key ⊢
  refine Calls.evalArgs_plain (key.run _ fun vs ds μ₂ s₂ h₂ r₂ y₂ f₂ => ⟨⟨y₂.base _ _ hfo, hfd⟩, ?_⟩)
  exact (h₂ A s₂ (.ref a :: vs) E c y₂ (.cons (.obj a) r₂)).run Q fun v d μ' s' a1 a2 a3 a4 => hQ v d μ' s' a1 a2 a3 ((f₁.trans f₂).trans a4)
/-- acc.name() -/
theorem WpE.accMethod0 {o : Expr} {name : Str} {apos pos : Pos} {f : Addr} {of : Obj} {fd : FuncData} {y : Option Value} (C : AccNames hb mN) (hf : mN name = some (.ref f)) (hfo : hb.get? f = some of) (hfc : of.cls = .type "function") (hfd : of.data = .func fd) (hB : typeLookup (.type "list") name = pure y) (hns : name ≠ sizeName)
    (h : WpE prog w hb sc k o ρ μ (fun d μ₁ => ∃ a dx sz ds, d = .obj a ∧ (a, MO.acc dx sz ds) ∈ μ₁ ∧ WpC prog w hb k f [.obj a] μ₁ Φ))
    (he : ∀ env, ∃ pl, eval (.Call (.Attribute o name apos) [] [] pos) env = (do
      let ov ← eval o env
      standAt apos.atName
      let (f, first) ← holding [ov] (getMethod ov name pl)
      callWith pos f first (backTo pos (starEach [] env)) []) := by intro _; exact ⟨_, rfl⟩) : WpE prog w hb sc k (.Call (.Attribute o name apos) [] [] pos) ρ μ Φ := by
  intro env A s E c en y'
  refine ⟨fun Q hQ => ?_⟩
  obtain ⟨pl, he⟩ := he env
  refine MethodCall_ (pl := pl) ((h env A s E c en y').run _ fun v d μ₁ s₁ h₁ r₁ y₁ f₁ => ?_) he
  obtain ⟨a, dx, sz, ds, rfl, hm, h₁⟩ := h₁
  cases r₁
  obtain ⟨vs, kk, ho, _, mA, hA, hsz⟩ := id (y₁.mem _ hm)
  refine acc_getMethod (C.X.keeps y₁.base) ho hA.ns (hsz.other hns) C.ga C.gg hf (y₁.base _ _ hfo) hfc hB ?_
  refine callWith_meth0 hfd (y₁.base _ _ hfo) ?_
  exact (h₁ A s₁ [.ref a] E c y₁ (.cons (.obj a) .nil)).run Q fun v d μ' s' a1 a2 a3 a4 => hQ v d μ' s' a1 a2 a3 (f₁.trans a4)
/-- self.append(e) on an accumulator -/
theorem WpE.accAppend {o e : Expr} {apos pos : Pos} (C : AccNames hb mN) (hf : mN "append" = Option.none)
    (h : WpE prog w hb sc k o ρ μ (fun d μ₁ => ∃ a dx₀ sz₀ ds₀, d = .obj a ∧ (a, MO.acc dx₀ sz₀ ds₀) ∈ μ₁ ∧ WpE prog w hb sc k e ρ μ₁ (fun d₂ μ₂ => ∃ dx sz ds, (a, MO.acc dx sz ds) ∈ μ₂ ∧ ds.length ≤ sizeLine ∧ Φ .none (setM μ₂ a (.acc dx sz (ds ++ [d₂]))))))
    (hst : ∀ env, starEach [e] env = [(false, eval e env)] := by intro _; rfl)
    (he : ∀ env, ∃ pl, eval (.Call (.Attribute o "append" apos) [e] [] pos) env = (do
      let ov ← eval o env
      standAt apos.atName
      let (f, first) ← holding [ov] (getMethod ov "append" pl)
      callWith pos f first (backTo pos (starEach [e] env)) []) := by intro _; exact ⟨_, rfl⟩) : WpE prog w hb sc k (.Call (.Attribute o "append" apos) [e] [] pos) ρ μ Φ := by
  intro env A s E c en y'
  refine ⟨fun Q hQ => ?_⟩
  obtain ⟨pl, he⟩ := he env
  refine MethodCall_ (pl := pl) ((h env A s E c en y').run _ fun v d μ₁ s₁ h₁ r₁ y₁ f₁ => ?_) he
  obtain ⟨a, dx₀, sz₀, ds₀, rfl, hm, h₁⟩ := h₁
  cases r₁
  obtain ⟨vs₀, kk₀, ho₀, _, mA, hA, hsz₀⟩ := id (y₁.mem _ hm)
  refine acc_getMethodB (C.X.keeps y₁.base) ho₀ hA.ns (hsz₀.other (by decide)) C.ga C.gg hf slot_list_append.lookup type_list_append ?_
  rw [hst]
  refine Calls.callWith_builtin rfl (Calls.evalArgs_plain (Calls.spliced_cons ((h₁ env A s₁ E c (en.step f₁) y₁).run _ fun v₂ d₂ μ₂ s₂ h₂ r₂ y₂ f₂ => Calls.spliced_nil ?_)))
  obtain ⟨dx, sz, ds, hmem, hlen, hΦ⟩ := h₂
  obtain ⟨vs, kk, ho, ra, _⟩ := id (y₂.mem _ hmem)
  refine acc_call (C.X.keeps y₂.base) (isAcc ho) (by decide +kernel) (n := "append") (by decide +kernel) (by first | exact .inl (by decide +kernel) | exact .inr (by decide +kernel)) entry_list_append (args_list_append _ _) ?_
  show wpAny _ _ (updateSeq a (·.push v₂) >>= fun _ => ret .none) _ _ s₂
  refine wpAny_bind (acc_update ho (by simp [ra.length]; omega) (by simp [ra.length]; omega) fun h' n' e1 e2 => wpAny_pure ⟨.none, rfl, ?_⟩)
  have e3 : vs.toArray.push v₂ = (vs ++ [v₂]).toArray := by simp
  rw [e3] at e1
  obtain ⟨y3, ed, f3⟩ := y₂.accSet hmem e1 e2 (ra.append (RdA.one r₂))
  exact hQ _ _ _ _ hΦ .none y3 (by rw [ed]; exact (f₁.trans f₂).trans f3)
end
end Mine

end

noncomputable section
namespace Mine
theorem nodup_more2 {μ : Mem} (hn : (dom μ).Nodup) {a b x : Addr} {o q : MO} (h : (a, o) ∈ μ) (h' : (b, q) ∈ μ) (hx : x ∈ o.more) (hx' : x ∈ q.more) : a = b := by
  induction μ with
  | nil => cases h
  | cons p r ih =>
    obtain ⟨c, z⟩ := p
    have hn' : (c :: (z.more ++ dom r)).Nodup := hn
    obtain ⟨_, n2⟩ := List.nodup_cons.mp hn'
    obtain ⟨_, n3, n4⟩ := List.nodup_append.mp n2
    rcases List.mem_cons.mp h with e | h1
    · rcases List.mem_cons.mp h' with e' | h2
      · cases e; cases e'; rfl
      · cases e; exact absurd rfl (n4 _ hx _ (mem_more h2 hx'))
    · rcases List.mem_cons.mp h' with e' | h2
      · cases e'; exact absurd rfl (n4 _ hx' _ (mem_more h1 hx))
      · exact ih n3 h1 h2
theorem Ok.accSize {hb : Heap} {μ : Mem} {s : Shared} {h' : Heap} {tk : Nat} {a dx : Addr} {sz sz' : Option Int} {ds : List Dat} {m : Str → Option Value} (y : Ok hb μ s) (hm : (a, MO.acc dx sz ds) ∈ μ) (hk : ∀ b q, b ≠ dx → s.heap.get? b = some q → h'.get? b = some q) (hn : h'.Ns1 dx m) (hs : SizeIs sz' m) :
    Ok hb (Mine.setM μ a (.acc dx sz' ds)) { s with heap := h', toks := tk } ∧ dom (Mine.setM μ a (.acc dx sz' ds)) = dom μ ∧ Fw (dom μ) (dom μ) s { s with heap := h', toks := tk } := by
  have hdx : dx ∈ dom μ := mem_more hm (.head _)
  have hda : a ≠ dx := fun z => nodup_more y.nodup hm hm (by rw [z]; exact .head _)
  have he : dom (Mine.setM μ a (.acc dx sz' ds)) = dom μ := dom_setM fun q hq => by rw [nodup_fst y.nodup hq hm]; rfl
  have sk : SeqK (dom μ) s.heap h' := fun b q xs n hb' _ e => hk b q (fun z => hb' (z ▸ hdx)) e
  have f : Fw (dom μ) (dom μ) s { s with heap := h', toks := tk } := Fw.sameIn hdx hk
  refine ⟨⟨fun b q e => hk b q (fun z => ?_) (y.base b q e), fun x hx => y.off x (by rwa [he] at hx), fun p hp => ?_, by rw [he]; exact y.nodup, y.bare, fun c ps x hx => ?_⟩, he, f⟩
  · rw [z, y.off dx hdx] at e; cases e
  · rw [he]
    obtain ⟨p0, hp0, rfl⟩ := List.mem_map.mp hp
    split
    · obtain ⟨vs, kk, e1, r, _⟩ := y.mem _ hm
      exact ⟨vs, kk, hk _ _ hda e1, r.step f, m, hn, hs⟩
    · rename_i hne
      refine (y.mem p0 hp0).seq sk (fun q e => hk _ q (fun z => nodup_more y.nodup (show (p0.1, p0.2) ∈ μ from hp0) hm (by rw [z]; exact .head _)) e) (fun x hx q e => hk _ q (fun z => hne (nodup_more2 y.nodup (show (p0.1, p0.2) ∈ μ from hp0) hm hx (by rw [z]; exact .head _))) e) (fun c ps e q z => hk _ q (fun w => ?_) z)
      obtain ⟨oc, hoc⟩ := y.codes c ps p0.1 (by rw [← e]; exact hp0)
      rw [w, y.off dx hdx] at hoc; cases hoc
  · obtain ⟨p0, hp0, e⟩ := List.mem_map.mp hx
    split at e
    · cases e
    · subst e; exact y.codes c ps x hp0

theorem store_list : StoreFacts "list" [.type "list", .type "object"] "object.__setattr__" "object" where
  mro := by kernel_rfl
  slot := .of (owner := "object") (n := "__setattr__") (by rw [typeLookup_type, builtinLookup_eq_fast]; kernel_rfl) (by decide +kernel) (by decide +kernel) (by decide +kernel)
    (by first | exact .inl (by decide +kernel) | exact .inr (by decide +kernel)) (by rw [isSubtype_type]; kernel_rfl)
  entry := F.entry_object_sa
  kind := by decide +kernel
  split := by decide +kernel
  hasOwner := by decide +kernel
  args := fun a b c => by unfold argsOk; kernel_rfl
  passes := fun self => by kernel_rfl
theorem lk_list_size : typeLookup (.type "list") sizeName = pure none := by unfold sizeName; rw [typeLookup_type, builtinLookup_eq_fast]; kernel_rfl

section
variable {prog : Program} {w : World} {A : Around} {E : Value → Shared → Prop} {s : Shared} {mN mA : Str → Option Value} {a dx : Addr} {xs : Array Value} {n : Nat}
theorem acc_inst (ho : s.heap.get? a = some (accObj dx xs n)) (hda : dx ≠ a) (hd : s.heap.Ns1 dx mA) : s.heap.Inst a accC mA := ⟨_, ho, rfl, (fun c z => by cases z), .inr ⟨dx, rfl, hda, hd⟩⟩
theorem acc_store {v : Value} {sz : Option Int} {Q : Unit → Shared → Prop} (X : AccCls s.heap mN) (ho : s.heap.get? a = some (accObj dx xs n)) (hda : dx ≠ a) (hd : s.heap.Ns1 dx mA) (hsz : SizeIs sz mA) (hac : a ≠ accC) (hsa : mN "__setattr__" = none) (hna : mN sizeName = none)
    (h : ∀ h' tk, h'.Ns1 dx (fun y => if y = sizeName then some v else mA y) → (∀ b q, b ≠ dx → s.heap.get? b = some q → h'.get? b = some q) → Q () { s with heap := h', toks := tk }) :
    wpAny (model prog w) A (setAttr (.ref a) sizeName v) Q E s := by
  obtain ⟨hp, g, d, t, os⟩ := s
  obtain ⟨nm, q, bs, sn, sub, ab, col, dd, k0, k1, k2, k3, k5, e⟩ := X.obj
  have hw : Within mA [sizeName] := fun x hx => by
    by_cases z : x = sizeName
    · subst z; exact .head _
    · exact absurd (hsz.other z) (by intro y; rw [y] at hx; simp at hx)
  refine store_attr store_list e X.ns hsa hna lk_list_size hac (acc_inst ho hda hd) (fun h' tk' I' hk hsame => ?_) hw (by decide)
  obtain ⟨o₁, g1, g2, g3, g4, g5⟩ := hsame _ ho
  have ho1 : o₁ = accObj dx xs n := by
    obtain ⟨c1, c2, c3, c4⟩ := o₁
    have := g5 dx rfl
    simp only at g2 g3 g4 this
    subst g2; subst g3; subst g4; subst this; rfl
  refine h h' tk' ?_ fun b q hb' e => ?_
  · obtain ⟨o₂, i1, _, _, i2⟩ := I'
    rw [g1, ho1] at i1
    cases i1
    rcases i2 with ⟨z, _⟩ | ⟨d', z, _, hn⟩
    · cases z
    · cases z; exact hn
  · by_cases z : b = a
    · subst z
      have e' : hp.get? b = some q := e
      have ho' : hp.get? b = some (accObj dx xs n) := ho
      rw [ho'] at e'; cases e'
      rw [← ho1]; exact g1
    · exact hk b q z (fun o₀ d₀ e1 e2 => by
        have ho' : hp.get? a = some (accObj dx xs n) := ho
        rw [ho'] at e1; cases e1; cases e2; exact hb') e
end
end Mine

end

noncomputable section
open Builtin Builtin.ObjectAttr
namespace Mine
section
variable {prog : Program} {w : World} {A : Around} {E : Value → Shared → Prop} {h : Heap} {g : Array GenState} {d : Drawn} {t : Nat} {os : OsState} {mN mA : Str → Option Value} {a dx : Addr} {xs : Array Value} {n : Nat} {v : Value}
theorem acc_load_entry {tk : Tok} {Q : PySem.Fin → Shared → Prop} (X : AccCls h mN) (hx : h.get? a = some (accObj dx xs n)) (hd : h.Ns1 dx mA) (hna : mN sizeName = none) (hv : mA sizeName = some v) (hq : Q (.done (.ret v)) ⟨h, g, d, t, os⟩) :
    wpAny (model prog w) A (Builtin.«object.__getattribute__» ⟨[.ref a, .str sizeName tk], []⟩) Q E ⟨h, g, d, t, os⟩ := by
  obtain ⟨nm, q, bs, sn, sub, ab, col, dd, k0, k1, k2, k3, k5, hC⟩ := X.obj
  unfold Builtin.«object.__getattribute__»
  repeat (first | (with_reducible refine wpAny_nsGet hd.ns ?_; rw [hv]) | (with_reducible refine wpAny_loadPart_at hx ?_) | with_reducible refine wpAny_loadPart_at hC ?_ | (with_reducible refine wpAny_typeLookup_exc hC X.ns mro_list lk_list_size ?_; rw [hna]) | wp_step)
  exact hq
theorem acc_load {expr : Bool} {Q : Value → Shared → Prop} (X : AccCls h mN) (hx : h.get? a = some (accObj dx xs n)) (hd : h.Ns1 dx mA) (hga : mN "__getattribute__" = none) (hgg : mN "__getattr__" = none) (hna : mN sizeName = none) (hv : mA sizeName = some v) (hh : handedOut v = pure v) (hq : Q v ⟨h, g, d, t + 1, os⟩) :
    wpAny (model prog w) A (getAttr (.ref a) sizeName expr) Q E ⟨h, g, d, t, os⟩ := by
  obtain ⟨nm, q, bs, sn, sub, ab, col, dd, k0, k1, k2, k3, k5, hC⟩ := X.obj
  unfold getAttr getAttrBy
  repeat (first | (with_reducible refine wpAny_loadPart_at hx ?_) | (with_reducible refine wpAny_typeLookup_exc hC X.ns mro_list list_getattribute ?_; rw [hga]) | wp_step)
  refine acc_lookup (s := ⟨h, g, d, t + 1, os⟩) X list_getattr_none ?_
  rw [hgg]
  refine wpAny_bind (wpAny_attempt (wpAny_holding ?_))
  have ecg : callGetattribute (.ref a) (.str sizeName t) (.builtin "list.__getattribute__") expr = boundAndCalled (.builtin "list.__getattribute__") (.ref a) (.str sizeName t) := by cases expr <;> rfl
  rw [ecg]
  unfold boundAndCalled
  rw [F.slot_list_getattribute.bind]
  refine wpAny_bind (wpAny_pure ?_)
  refine acc_call (s := ⟨h, g, d, t + 1, os⟩) X (isAcc hx) (by decide +kernel) (n := "__getattribute__") (by decide +kernel) (by first | exact .inl (by decide +kernel) | exact .inr (by decide +kernel)) am_entry_list_getattribute (F.args_list_getattribute_2 _ _) (acc_load_entry X hx hd hna hv ⟨v, rfl, ?_⟩)
  show wpAny _ _ (handedOut v) _ _ _
  rw [hh]
  exact wpAny_pure hq
end
end Mine

end

noncomputable section
namespace Mine
section
variable {prog : Program} {w : World} {hb : Heap} {sc : Sh} {k : Nat} {ρ : Ren} {μ : Mem} {Φ : Dat → Mem → Prop} {mN : Str → Option Value}
/-- self._initial_size -/
theorem WpE.accSize {x : Str} {np pos : Pos} (C : AccNames hb mN) (hna : mN sizeName = Option.none) (h : WpE prog w hb sc k (.Name x np) ρ μ (fun d μ₁ => ∃ a dx i ds, d = .obj a ∧ (a, MO.acc dx (some i) ds) ∈ μ₁ ∧ Φ (.int i) μ₁)) :
    WpE prog w hb sc k (.Attribute (.Name x np) sizeName pos) ρ μ Φ := by
  intro env A s E c en y
  refine ⟨fun Q hQ => ?_⟩
  refine Attribute_name ((h env A s E c en y).run _ fun v d μ₁ s₁ h₁ r₁ y₁ f₁ => ?_)
  obtain ⟨a, dx, i, ds, rfl, hm, hΦ⟩ := h₁
  cases r₁
  obtain ⟨vs, kk, ho, _, mA, hA, t, hsz⟩ := id (y₁.mem _ hm)
  have hv : mA sizeName = some (.int i t) := by rw [hsz, if_pos rfl]
  exact acc_load (C.X.keeps y₁.base) ho hA C.ga C.gg hna hv rfl (hQ _ _ μ₁ _ hΦ (.int i t) y₁.toks (f₁.trans Fw.toks))
/-- self._initial_size = e, an int -/
theorem Wp1.accSetSize {x : Str} {np apos pos : Pos} {value : Expr} {Ψ : AFlow → Ren → Mem → Prop} (C : AccNames hb mN) (hsa : mN "__setattr__" = none) (hna : mN sizeName = none)
    (h : WpE prog w hb sc k value ρ μ (fun d μ₁ => WpE prog w hb sc k (.Name x np) ρ μ₁ (fun d₂ μ₂ => ∃ i a dx sz ds, d = .int i ∧ d₂ = .obj a ∧ (a, MO.acc dx sz ds) ∈ μ₂ ∧ Ψ .next ρ (setM μ₂ a (.acc dx (some i) ds)))))
    (hs : ∀ env, swapsWith value (some (.Attribute (.Name x np) sizeName apos)) pos.line env = pure false := by intro _; rfl) : Wp1 prog w hb sc k (.Assign [.Attribute (.Name x np) sizeName apos] value pos) ρ μ Ψ := by
  intro env A s E c en y
  refine ⟨fun Q hQ => ?_⟩
  refine plainObj_wpAny_Assign_Attribute ((h env A s E c en y).run _ fun v d μ₁ s₁ h₁ r₁ y₁ f₁ => (h₁ env A s₁ E c (en.step f₁) y₁).run _ fun v₂ d₂ μ₂ s₂ h₂ r₂ y₂ f₂ => ?_) (hs env)
  obtain ⟨i, a, dx, sz, ds, rfl, rfl, hm, hΨ⟩ := h₂
  cases r₂
  cases r₁ with
  | int _ t =>
  obtain ⟨vs, kk, ho, _, mA, hA, hsz⟩ := id (y₂.mem _ hm)
  have hda : dx ≠ a := fun z => nodup_more y₂.nodup hm hm (by rw [← z]; exact .head _)
  have hac : a ≠ accC := fun z => by
    have h1 := y₂.off a (mem_dom hm)
    obtain ⟨_, _, _, _, _, _, _, _, _, _, _, _, _, e⟩ := C.X.obj
    rw [z, e] at h1; cases h1
  refine acc_store (C.X.keeps y₂.base) ho hda hA hsz hac hsa hna fun h' tk hn hk => ?_
  have hs' : SizeIs (some i) (fun y => if y = sizeName then some (.int i t) else mA y) := ⟨t, fun x => by
    by_cases z : x = sizeName
    · simp [z]
    · simp only [if_neg z]; exact hsz.other z⟩
  obtain ⟨y3, ed, f3⟩ := y₂.accSize (tk := tk) hm hk hn hs'
  have ft := (f₁.trans f₂).trans f3
  exact hQ .next .next ρ _ _ hΨ trivial (by rw [ed]; exact en.step ft) y3 (by rw [ed]; exact ft.lift _)
end
end Mine

end

noncomputable section
namespace Mine
section
variable {prog : Program} {w : World} {A : Around} {E : Value → Shared → Prop} {s : Shared} {mN : Str → Option Value} {a dx : Addr} {xs : Array Value} {n : Nat}
/-- acc[:] = l, or acc[0:] = l -/
theorem acc_setAll {sl l : Addr} {vl : Value} {lo : Option Int} {ys : Array Value} {Q : Unit → Shared → Prop} (X : AccCls s.heap mN) (ho : s.heap.get? a = some (accObj dx xs n)) (hm : mN "__setitem__" = none)
    (hs : s.heap.IsSliceOf sl vl .none .none) (pl : IsPart vl lo) (hlo : lo = none ∨ lo = some 0) (hl : s.heap.IsList l ys) (hal : a ≠ l) (hz : xs.size + ys.size ≤ sizeLine)
    (h : ∀ h' n', h'.get? a = some (accObj dx ys n') → Heap.SameBut a s.heap h' → Q () { s with heap := h' }) :
    wpAny (model prog w) A (setItem (.ref a) (.ref sl) (.ref l)) Q E s := by
  have I := isAcc ho
  obtain ⟨os, hos, hcs, hds⟩ := id hs
  obtain ⟨ol, hol, hcl, nl, hdl⟩ := id hl
  have hTs : s.TypeIs (.ref sl) "slice" := ⟨os, hos, hcs⟩
  unfold setItem
  refine wpAny_holding ?_
  refine wpAny_bind (acc_seqKey X I ?_)
  refine wpAny_bind (acc_special_call (T := "list") X I slot_list_setitem hm (acc_call X I (by decide +kernel) (n := "__setitem__") (by decide +kernel) (by first | exact .inl (by decide +kernel) | exact .inr (by decide +kernel)) F.entry_list_setitem (F.args_list_setitem_3 _ _ _) ?_))
  unfold Builtin.«list.__setitem__»
  refine wpAny_bind (m := Builtin.List.listBlankSlotArgs _ _ _) (wpAny_of_eq (a := (Value.ref a, [Value.ref sl, Value.ref l])) rfl ?_)
  refine wpAny_bind (m := Builtin.List.listSubscript? (.ref sl)) ?_
  unfold Builtin.List.listSubscript?
  refine wpAny_bind (wpAny_specialOf hTs slice_no_index ?_)
  simp only [Option.isNone_none, if_true]
  refine wpAny_pure ?_
  refine wpAny_bind (m := typeOf (.ref sl)) (wpAny_typeOf hTs ?_)
  rw [if_neg (by decide)]
  rw [listSliceParts_eq]
  refine wpAny_bind (wpAny_bind (wpAny_field hos hds (x := .none) rfl (wpAny_bind (wpAny_listPart .none ?_))))
  rw [if_neg (by decide)]
  refine wpAny_bind (wpAny_field hos hds (x := vl) rfl (wpAny_bind (wpAny_listPart pl ?_)))
  refine wpAny_bind (wpAny_field hos hds (x := .none) rfl (wpAny_bind (wpAny_listPart .none (wpAny_pure ?_))))
  have hsame : Builtin.List.listSameRef (.ref a) (.ref l) = false := by
    show (a == l) = false
    simpa using hal
  simp only [hsame, Bool.false_eq_true, if_false]
  refine wpAny_bind (m := Builtin.List.listAllItems _ _) ?_
  unfold Builtin.List.listAllItems
  refine wpAny_bind (wpAny_typeOf (T := "list") ⟨ol, hol, hcl⟩ ?_)
  rw [if_pos (by decide)]
  unfold Builtin.List.listItems
  refine wpAny_bind (wpAny_seqItems hol hdl (wpAny_pure ?_))
  refine wpAny_bind (wpAny_bind (wpAny_seqItems ho rfl (wpAny_pure ?_)))
  refine wpAny_bind (wpAny_of_eq (sliceIndices_raw lo none none xs.size (by simp)) ?_)
  have hb : sliceBounds lo none none xs.size = (0, (xs.size : Int), 1) := by
    rcases hlo with rfl | rfl
    · rfl
    · simp [sliceBounds]; omega
  rw [hb]
  have hlong : Builtin.List.listTooLong (xs.size + ys.size) = false := by
    unfold Builtin.List.listTooLong
    simp; omega
  simp only [beq_self_eq_true, if_true]
  refine wpAny_bind (wpAny_rule ?_)
  simp only [hlong, Bool.false_eq_true, if_false]
  have hf : xs.extract 0 (0 : Int).toNat ++ ys ++ xs.extract (max (0 : Int) (xs.size : Int)).toNat xs.size = ys := by
    have e1 : (max (0 : Int) (xs.size : Int)).toNat = xs.size := by omega
    simp [e1]
  refine wpAny_bind (m := updateSeq a _) (acc_update (f := fun zs : Array Value => zs.extract 0 (0 : Int).toNat ++ ys ++ zs.extract (max (0 : Int) (xs.size : Int)).toNat zs.size) ho (by omega) (by rw [hf]; omega) fun h' n' e1 e2 => ?_)
  rw [hf] at e1
  refine wpAny_bind (wpAny_letGo ?_)
  exact wpAny_pure ⟨.none, rfl, wpAny_pure (h h' n' e1 e2)⟩
end
section
variable {prog : Program} {w : World} {hb : Heap} {sc : Sh} {k : Nat} {ρ : Ren} {μ : Mem} {Ψ : AFlow → Ren → Mem → Prop} {mN : Str → Option Value}
/-- acc[:] = e -/
theorem Wp1.accSetAll {o value : Expr} {p spos pos : Pos} (C : AccNames hb mN) (hm : mN "__setitem__" = none)
    (h : WpE prog w hb sc k value ρ μ (fun d μ₁ => WpE prog w hb sc k o ρ μ₁ (fun d₂ μ₂ => ∃ es a dx sz ds, d = .list es ∧ d₂ = .obj a ∧ (a, MO.acc dx sz ds) ∈ μ₂ ∧ ds.length + es.length ≤ sizeLine ∧ Ψ .next ρ (setM μ₂ a (.acc dx sz es)))))
    (hs : ∀ env, swapsWith value (some (.Subscript o (.Slice none none none p) spos)) pos.line env = pure false := by intro _; rfl) : Wp1 prog w hb sc k (.Assign [.Subscript o (.Slice none none none p) spos] value pos) ρ μ Ψ := by
  intro env A s E c en y
  refine ⟨fun Q hQ => ?_⟩
  refine wpAny_Assign_Subscript ((h env A s E c en y).run _ fun v d μ₁ s₁ h₁ r₁ y₁ f₁ => (h₁ env A s₁ E c (en.step f₁) y₁).run _ fun v₂ d₂ μ₂ s₂ h₂ r₂ y₂ f₂ => wpAny_Slice (wpAny_evalPart_none (wpAny_evalPart_none ?_))) (hs env)
  obtain ⟨es, a, dx, sz, ds, rfl, rfl, hmem, hlen, hΨ⟩ := h₂
  cases r₂
  have r1' := r₁.step f₂
  cases r1' with
  | list hX hl rq =>
  rename_i l ws
  rw [evalPart_none]
  refine wpAny_pure ?_
  have k3 := push_keeps (h := s₂.heap) { cls := .type "slice", data := .fields #[.none, .none, .none] }
  have y3 : Ok hb μ₂ { s₂ with heap := s₂.heap.push { cls := .type "slice", data := .fields #[.none, .none, .none] } } := y₂.keeps (tk := s₂.toks) k3
  have f3 : Fw (dom μ₂) (dom μ₂) s₂ { s₂ with heap := s₂.heap.push { cls := .type "slice", data := .fields #[.none, .none, .none] } } := Fw.keeps (tk := s₂.toks) k3
  obtain ⟨vs, kk, ho, ra, _⟩ := id (y3.mem _ hmem)
  refine acc_setAll (C.X.keeps y3.base) ho hm (Heap.IsSliceOf.new ..) .none (.inl rfl) (hl.push _) (fun z => hX (z ▸ mem_dom hmem)) (by simp [ra.length, rq.length]; omega) fun h' n' e1 e2 => ?_
  obtain ⟨y4, ed, f4⟩ := y3.accSet hmem e1 e2 (rq.step f3)
  have ft := ((f₁.trans f₂).trans f3).trans f4
  exact hQ .next .next ρ _ _ hΨ trivial (by rw [ed]; exact en.step ft) y4 (by rw [ed]; exact ft.lift _)
/-- acc[i:] = e, i = 0 -/
theorem Wp1.accSetFrom {o lo value : Expr} {p spos pos : Pos} (C : AccNames hb mN) (hm : mN "__setitem__" = none)
    (h : WpE prog w hb sc k value ρ μ (fun d μ₁ => WpE prog w hb sc k o ρ μ₁ (fun d₂ μ₂ => WpE prog w hb sc k lo ρ μ₂ (fun d₃ μ₃ => ∃ es a dx sz ds, d = .list es ∧ d₂ = .obj a ∧ d₃ = .int 0 ∧ (a, MO.acc dx sz ds) ∈ μ₃ ∧ ds.length + es.length ≤ sizeLine ∧ Ψ .next ρ (setM μ₃ a (.acc dx sz es))))))
    (hs : ∀ env, swapsWith value (some (.Subscript o (.Slice (some lo) none none p) spos)) pos.line env = pure false := by intro _; rfl) : Wp1 prog w hb sc k (.Assign [.Subscript o (.Slice (some lo) none none p) spos] value pos) ρ μ Ψ := by
  intro env A s E c en y
  refine ⟨fun Q hQ => ?_⟩
  refine wpAny_Assign_Subscript ((h env A s E c en y).run _ fun v d μ₁ s₁ h₁ r₁ y₁ f₁ => (h₁ env A s₁ E c (en.step f₁) y₁).run _ fun v₂ d₂ μ₂ s₂ h₂ r₂ y₂ f₂ => wpAny_Slice (wpAny_evalPart_some ((h₂ env A s₂ E c ((en.step f₁).step f₂) y₂).run _ fun v₃ d₃ μ₃ s₃ h₃ r₃ y₃ f₃ => wpAny_evalPart_none ?_))) (hs env)
  obtain ⟨es, a, dx, sz, ds, rfl, rfl, rfl, hmem, hlen, hΨ⟩ := h₃
  cases r₂
  cases r₃ with
  | int _ t =>
  have r1' := (r₁.step f₂).step f₃
  cases r1' with
  | list hX hl rq =>
  rename_i l ws
  rw [evalPart_none]
  refine wpAny_pure ?_
  have k3 := push_keeps (h := s₃.heap) { cls := .type "slice", data := .fields #[.int 0 t, .none, .none] }
  have y4 : Ok hb μ₃ { s₃ with heap := s₃.heap.push { cls := .type "slice", data := .fields #[.int 0 t, .none, .none] } } := y₃.keeps (tk := s₃.toks) k3
  have f4 : Fw (dom μ₃) (dom μ₃) s₃ { s₃ with heap := s₃.heap.push { cls := .type "slice", data := .fields #[.int 0 t, .none, .none] } } := Fw.keeps (tk := s₃.toks) k3
  obtain ⟨vs, kk, ho, ra, _⟩ := id (y4.mem _ hmem)
  refine acc_setAll (C.X.keeps y4.base) ho hm (Heap.IsSliceOf.new ..) (.int 0 t) (.inr rfl) (hl.push _) (fun z => hX (z ▸ mem_dom hmem)) (by simp [ra.length, rq.length]; omega) fun h' n' e1 e2 => ?_
  obtain ⟨y5, ed, f5⟩ := y4.accSet hmem e1 e2 (rq.step f4)
  have ft := (((f₁.trans f₂).trans f₃).trans f4).trans f5
  exact hQ .next .next ρ _ _ hΨ trivial (by rw [ed]; exact en.step ft) y5 (by rw [ed]; exact ft.lift _)
end
end Mine

end

noncomputable section
namespace Mine
section
variable {prog : Program} {w : World} {A : Around} {E : Value → Shared → Prop} {s : Shared} {mN : Str → Option Value} {a dx : Addr} {xs : Array Value} {n : Nat}
/-- one more from an iterator over a row of values, of whatever class -/
theorem row_next {it l : Addr} {i : Nat} {ol : Obj} {nl : Nat} {x : Value} {Q : Option Value → Shared → Prop} (hit : s.heap.IsListIter it l i) (hol : s.heap.get? l = some ol) (hdl : ol.data = .seq xs nl) (hx : xs[i]? = some x)
    (hQ : ∀ h', h'.IsListIter it l (i + 1) → Heap.SameBut it s.heap h' → Q (some x) { s with heap := h' }) : wpAny (model prog w) A (pyNext (.ref it)) Q E s := by
  obtain ⟨o, ho, hc, hd⟩ := id hit
  unfold pyNext
  refine wpAny_bind (wpAny_attempt (wpAny_callSpecial?_slot (name := Str.ofString "__next__") hit.typeIs slot_listiter_next (wpAny_call_entry slot_listiter_next hit.typeIs entry_listiter_next ?_ (args_listiter_next _))))
  show wpAny _ _ (field (.ref it) 0 >>= _) _ _ s
  refine wpAny_bind (wpAny_field ho hd (x := .ref l) rfl ?_)
  show wpAny _ _ (if (Value.ref l == Value.none) = true then _ else _) _ _ s
  rw [if_neg (show ¬ ((Value.ref l == Value.none) = true) from Bool.false_ne_true)]
  show wpAny _ _ (field (.ref it) 1 >>= _) _ _ s
  refine wpAny_bind (wpAny_field ho hd (x := .int i 0) rfl ?_)
  show wpAny _ _ (seqItems? (.ref l) >>= _) _ _ s
  refine wpAny_bind (wpAny_seqItems hol hdl ?_)
  simp only [Int.toNat_natCast, hx]
  refine wpAny_bind (wpAny_setField ho hd (by simp) (wpAny_pure ⟨x, rfl, wpAny_pure (hQ _ ?_ (Heap.SameBut.update ..))⟩))
  exact ⟨_, Heap.get?_update_self _ ho (Obj.isFreed_of_fields (Obj.data_mapFields hd _)), (Obj.cls_mapFields ..).trans hc, by rw [Obj.data_mapFields hd]; simp [rawInt]⟩
theorem row_end {it l : Addr} {i : Nat} {ol : Obj} {nl : Nat} {Q : Option Value → Shared → Prop} (hh : A.handled = none) (hit : s.heap.IsListIter it l i) (hol : s.heap.get? l = some ol) (hdl : ol.data = .seq xs nl) (hx : xs[i]? = none)
    (hQ : ∀ h', Heap.ExtBut it s.heap h' → Q none { s with heap := h' }) : wpAny (model prog w) A (pyNext (.ref it)) Q E s := by
  obtain ⟨o, ho, hc, hd⟩ := id hit
  unfold pyNext
  refine wpAny_bind (wpAny_attempt (wpAny_callSpecial?_slot (name := Str.ofString "__next__") hit.typeIs slot_listiter_next (wpAny_call_entry slot_listiter_next hit.typeIs entry_listiter_next ?_ (args_listiter_next _))))
  show wpAny _ _ (field (.ref it) 0 >>= _) _ _ s
  refine wpAny_bind (wpAny_field ho hd (x := .ref l) rfl ?_)
  show wpAny _ _ (if (Value.ref l == Value.none) = true then _ else _) _ _ s
  rw [if_neg (show ¬ ((Value.ref l == Value.none) = true) from Bool.false_ne_true)]
  show wpAny _ _ (field (.ref it) 1 >>= _) _ _ s
  refine wpAny_bind (wpAny_field ho hd (x := .int i 0) rfl ?_)
  show wpAny _ _ (seqItems? (.ref l) >>= _) _ _ s
  refine wpAny_bind (wpAny_seqItems hol hdl ?_)
  simp only [Int.toNat_natCast, hx]
  refine wpAny_bind (wpAny_rule (wpAny_bind (wpAny_setField ho hd (by simp) ?_)))
  show wpAny _ _ (newExc (.type "StopIteration") [] >>= _) _ _ _
  refine wpAny_bind ?_
  simp only [newExc, newTuple]
  refine wpAny_bind (wpAny_newObj_type ?_ (by size_fits))
  refine wpAny_bind (m := firstArgMember _ _) (wpAny_of_eq (a := Value.none) (by first | rfl | (simp only [firstArgMember]; rfl)) ?_)
  refine wpAny_newObj_type ?_ (by size_fits)
  simp only [raiseNew]
  refine wpAny_bind (wpAny_handled ?_)
  rw [show A.in1.handled = none from hh]
  refine wpAny_bind (wpAny_pure (wpAny_throw ?_))
  refine wpAny_bind (wpAny_isInstance (T := "StopIteration") (b := true) ⟨_, Heap.get?_push_size _ rfl, rfl⟩ isSubtype_stop ?_)
  exact wpAny_pure (hQ _ (((Heap.SameBut.update ..).extBut.push _).push _))
theorem acc_iter {Q : Value → Shared → Prop} (X : AccCls s.heap mN) (ho : s.heap.get? a = some (accObj dx xs n)) (hm : mN "__iter__" = none)
    (hQ : Q (.ref s.heap.objs.size) { s with heap := s.heap.push { cls := .type "list_iterator", data := .fields #[.ref a, .int 0 0] } }) : wpAny (model prog w) A (pyIter (.ref a)) Q E s := by
  have I := isAcc ho
  unfold pyIter
  refine wpAny_bind (acc_special X I slot_list_iter.lookup ?_)
  rw [hm]
  show wpAny _ A (callSpecialIfBoundUnlessNone? (.ref a) "__iter__" _ >>= _) Q E s
  refine wpAny_bind ?_
  simp only [callSpecialIfBoundUnlessNone?, bindSpecialIfBound?]
  refine wpAny_holding (wpAny_bind (wpAny_bind (acc_special X I slot_list_iter.lookup ?_)))
  rw [hm]
  simp only [slot_list_iter.bind]
  refine wpAny_bind (wpAny_askSetting (wpAny_ite ?_))
  have hcall : ∀ R : Value → Shared → Prop, R (.ref s.heap.objs.size) { s with heap := s.heap.push { cls := .type "list_iterator", data := .fields #[.ref a, .int 0 0] } } → wpAny (model prog w) A (call (.builtin "list.__iter__") [.ref a]) R E s := fun R hR => by
    refine acc_call X I (by decide +kernel) (n := "__iter__") (by decide +kernel) (by first | exact .inl (by decide +kernel) | exact .inr (by decide +kernel)) entry_list_iter (args_list_iter _) ?_
    show wpAny _ _ (do ret (← newFields "list_iterator" [.ref a, rawInt 0])) _ _ s
    exact wpAny_bind (wpAny_newObj_type (wpAny_pure ⟨_, rfl, hR⟩))
  have fin : ∀ (f : Sem Value) (R : Option Value → Shared → Prop), R (some (.ref s.heap.objs.size)) { s with heap := s.heap.push { cls := .type "list_iterator", data := .fields #[.ref a, .int 0 0] } } →
      wpAny (model prog w) A (if (Value.builtin "list.__iter__" == Value.none) = true then (f >>= fun v => pure (some v)) else (call (.builtin "list.__iter__") [.ref a] >>= fun v => pure (some v))) R E s := fun f R hR => by
    simp only [builtin_beq_none, Bool.false_eq_true, if_false]
    exact wpAny_bind (hcall _ (wpAny_pure hR))
  have last : wpAny (model prog w) A (do
      let r ← specialOf (.ref s.heap.objs.size) (Str.ofString "__next__")
      match r with
        | none => do
          rule "iter.non-iterator"
          let t ← PySem.typeNameOf (.ref s.heap.objs.size)
          raiseErrorMade "TypeError" (toString "iter() returned non-iterator of type '" ++ toString t ++ toString "'")
        | some val => pure (Value.ref s.heap.objs.size)) Q E { s with heap := s.heap.push { cls := .type "list_iterator", data := .fields #[.ref a, .int 0 0] } } :=
    wpAny_bind (wpAny_specialOf (T := "list_iterator") ⟨_, Heap.get?_push_size _ rfl, rfl⟩ slot_listiter_next.lookup (wpAny_pure hQ))
  split
  · exact wpAny_bind (wpAny_pure (wpAny_pure (fin _ _ last)))
  · exact wpAny_tryCatch (wpAny_bind (wpAny_pure (wpAny_pure (fin _ _ last))))
end
end Mine

end

noncomputable section
namespace Mine
noncomputable def refOf : Option Value → Addr
  | some (.ref T) => T
  | _ => 0
noncomputable def valsAt (h : Heap) (T : Addr) : Array Value := match h.get? T with
  | some o => match o.data with
    | .seq xs _ => xs
    | _ => #[]
  | none => #[]
theorem valsAt_tup {h : Heap} {T : Addr} {ws : Array Value} (t : h.IsTuple T ws) : valsAt h T = ws := by
  obtain ⟨o, ho, _, n, hd⟩ := t
  unfold valsAt
  rw [ho]; simp only [hd]
theorem acc_walks {prog : Program} {w : World} {A : Around} (hh : A.handled = none) (I a dx : Addr) (hne : a ≠ I) (xs : Array Value) (Ts : Nat → Addr) (vals : Nat → Array Value)
    (hit : ∀ j, j < xs.size → xs[j]? = some (.ref (Ts j))) (hTI : ∀ j, j < xs.size → Ts j ≠ I) :
    WalksU prog w A I (I :: a :: (List.range xs.size).map Ts) [I] xs.size (fun j v => j < xs.size ∧ v = vals j)
      (fun j h => h.IsListIter I a j ∧ (∃ nl, h.get? a = some (accObj dx xs nl)) ∧ ∀ k, k < xs.size → h.IsTuple (Ts k) (vals k))
      (fun j T h => (j < xs.size ∧ T = Ts j) ∧ h.IsListIter I a (j + 1) ∧ (∃ nl, h.get? a = some (accObj dx xs nl)) ∧ ∀ k, k < xs.size → h.IsTuple (Ts k) (vals k)) where
  sub := fun b hb => by simp at hb; simp [hb]
  frame := fun _ _ _ st hk => ⟨st.1.at fun o e => hk I (by simp) o e, let ⟨nl, e⟩ := st.2.1; ⟨nl, hk a (by simp) _ e⟩,
    fun k hk' => (st.2.2 k hk').at fun o e => hk (Ts k) (List.mem_cons_of_mem _ (List.mem_cons_of_mem _ (List.mem_map.mpr ⟨k, List.mem_range.mpr hk', rfl⟩))) o e⟩
  item := fun i s Q E hi st hQ => by
    obtain ⟨nl, ea⟩ := st.2.1
    refine row_next st.1 ea rfl (x := .ref (Ts i)) (hit i hi) fun h' hit' hs' => ?_
    have tup : ∀ k, k < xs.size → h'.IsTuple (Ts k) (vals k) := fun k hk' => (st.2.2 k hk').extBut hs'.extBut (hTI k hk')
    exact hQ (Ts i) (vals i) h' s.toks ⟨hi, rfl⟩ (tup i hi) ⟨⟨hi, rfl⟩, hit', ⟨nl, (hs'.2 a hne).trans ea⟩, tup⟩ fun b o hb e => hs'.extBut b o (fun h => hb (by simp [h])) e
  go := fun _ _ _ _ _ s Q _ hm hQ => wpAny_letOwnedTupleGo_listiter hm.2.1 (hQ s.heap hm.2 fun _ _ _ e => e)
  apart := fun j T _ hm hmem => by
    rcases List.mem_cons.mp hmem with e | e
    · exact hTI j hm.1.1 (hm.1.2 ▸ e)
    · cases e
  done := fun s Q E st hQ => by
    obtain ⟨nl, ea⟩ := st.2.1
    exact row_end hh st.1 ea rfl (by simp) fun h' he' => hQ h' s.toks fun b o hb e => he' b o (fun h => hb (by simp [h])) e
  self := fun _ _ _ _ st hQ => wpAny_pyIter_listiter st.1 hQ

theorem RdA.pair {X : List Addr} {h : Heap} {vs : List Value} {qs : List (Str × Str)} {q0 : (Str × Str) → Dat} (hq : ∀ q, q0 q = .tuple [.str q.1, .str q.2]) (r : RdA X h vs (qs.map q0)) {j : Nat} (hj : j < vs.length) : ∃ T q ta tb, vs[j]? = some (.ref T) ∧ qs[j]? = some q ∧ T ∉ X ∧ h.IsTuple T #[.str q.1 ta, .str q.2 tb] := by
  obtain ⟨d, hd, rv⟩ := r.get' j (List.getElem?_eq_getElem hj)
  rw [List.getElem?_map] at hd
  obtain ⟨q, h1, h2⟩ := Option.map_eq_some_iff.mp hd
  rw [hq] at h2
  subst h2
  cases hv : vs[j] with
  | ref T =>
    rw [hv] at rv
    cases rv with
    | tuple hX ht ra =>
      cases ra with
      | cons r1 r2 => cases r2 with
        | cons r2 r3 => cases r3; cases r1; cases r2; exact ⟨T, q, _, _, by rw [List.getElem?_eq_getElem hj, hv], h1, hX, ht⟩
  | _ => rw [hv] at rv; cases rv

noncomputable def qd (q : Str × Str) : Dat := .tuple [.str q.1, .str q.2]
section
variable {prog : Program} {w : World} {hb : Heap} {sc : Sh} {k : Nat} {ρ : Ren} {μ : Mem} {mg mN : Str → Option Value} {bm : Addr} {ob : Obj}
/-- a generator expression over an accumulator of pairs of texts -/
theorem gen_two {elt iter : Expr} {xa xb : Str} {pa pb pt : Pos} {kt : Nat} {scope : Scope} {pos : Pos} {env : Env} {A : Around} {s : Shared} {E : Value → Shared → Prop} {Q : Value → Shared → Prop} {T cc a dx : Addr} {ps : Array Value} {sz : Option Int} {qs : List (Str × Str)} (F : Nat → Value → Prop)
    (BM : BMod hb mainGlobals mg bm ob) (lim : hb.NoLimit) (XC : AccCls hb mN) (hmi : mN "__iter__" = none) (c : Calm k A) (en : EnvOk hb sc env ρ (dom μ) s.heap) (y : Ok hb μ s) (ht : (T, MO.tab cc ps) ∈ μ) (hcc : sc.code = .ref cc) (hacc : (a, MO.acc dx sz (qs.map qd)) ∈ μ)
    (hi : WpE prog w hb sc k iter ρ μ (fun d μ' => d = .obj a ∧ μ' = μ)) (hf : ∀ x, genFold iter env x = pure x)
    (hok : compOk sc.names scope.names = true) (hkind : scope.kind = .function) (hco : scope.isCoroutine = false) (h0 : scope.names.lookup (".0" : Str) = some NameKind.local) (hxa : scope.names.lookup xa = some .local) (hxb : scope.names.lookup xb = some .local) (hab : xa ≠ xb)
    (helt : ∀ (cenv : Env) (A' : Around) (E' : Value → Shared → Prop) (i : Nat) (q : Str × Str) (ta tb : Tok) (s2 : Shared) (m2 : Str → Option Value), A'.handled = none → A'.depth ≤ A.depth + 1 → A'.units ≤ A.units + 8 → qs[i]? = some q → cenv.scope = scope → cenv.globals = env.globals → cenv.builtins = builtinsNs →
      s2.heap.Ns cenv.locals m2 → m2 xa = some (.str q.1 ta) → m2 xb = some (.str q.2 tb) → (∀ b o, hb.get? b = some o → s2.heap.get? b = some o) → wpAny (model prog w) A' (eval elt cenv) (fun r s3 => F i r ∧ Keeps s2 s3) E' s2)
    (hQ : ∀ g0 fp wr g St s5, WalksS prog w A.in4 g0 fp wr (GenOnlyQ g) qs.length (fun j r => F j r) St → St 0 s5 → (∀ i s', St i s' → s'.TypeIs (.ref g0) "generator") → g0 ∈ fp → (∀ b ∈ fp, b < s5.heap.objs.size) → Ok hb μ s5 → Fw (dom μ) (dom μ) s s5 →
      (∀ s', Moved wr (GenOnlyQ g) s5 s' → Ok hb μ s' ∧ Fw (dom μ) (dom μ) s s') → Q (.ref g0) s5) :
    wpAny (model prog w) A (eval (.GeneratorExp elt [⟨.Tuple [.Name xa pa, .Name xb pb] kt pt, iter, [], 0⟩] scope pos) env) Q E s := by
  have hok' := hok
  simp only [compOk, Bool.and_eq_true, List.all_eq_true] at hok
  obtain ⟨hnd, hall⟩ := hok
  have hfree : ∀ n, (n, NameKind.free) ∈ scope.names → sc.names.lookup n = some .cell ∨ sc.names.lookup n = some .free := fun n hn => by
    have := hall _ hn
    simpa using this
  have hnocell : ∀ x ∈ scope.names, x.2 ≠ .cell := fun x hx e => by
    have := hall x hx
    rw [e] at this; cases this
  have hcells : ∀ n, (n, NameKind.free) ∈ scope.names → (env.cells.lookup n).isSome = true := fun n hn => en.has n (hfree n hn)
  refine wpAny_GeneratorExp_walksQTD c.han hco (closure_cl hcells) hnocell h0 hxa hxb hab hkind c.room ?_ hf
  refine (hi env A s E c en y).run _ fun v d μ₁ s₁ h₁ r₁ y₁ f₁ => ?_
  obtain ⟨rfl, rfl⟩ := h₁
  cases r₁
  obtain ⟨vs, nl, ho, rq, _⟩ := id (y₁.mem _ hacc)
  refine acc_iter (XC.keeps y₁.base) ho hmi ?_
  have pair := fun j hj => RdA.pair (q0 := qd) (fun _ => rfl) rq (j := j) hj
  have hlen : vs.length = qs.length := by rw [rq.length, List.length_map]
  have hTd : T ∈ dom μ₁ := mem_dom ht
  have had : a ∈ dom μ₁ := mem_dom hacc
  have haT : a ≠ T := fun z => by
    rw [z] at hacc
    have := nodup_fst y₁.nodup hacc ht
    cases this
  have hane : a ≠ s₁.heap.objs.size := Nat.ne_of_lt (Heap.lt_size ho)
  have kp2 := push_keeps (h := s₁.heap) { cls := .type "list_iterator", data := .fields #[.ref a, .int 0 0] }
  have y2 := y₁.keeps (tk := s₁.toks) kp2
  have hit2 : (s₁.heap.push { cls := .type "list_iterator", data := .fields #[.ref a, .int 0 0] }).IsListIter s₁.heap.objs.size a 0 := ⟨_, Heap.get?_push_size _ rfl, rfl, rfl⟩
  generalize hI : s₁.heap.objs.size = I at *
  have hIn : s₁.heap.get? I = none := by rw [← hI]; exact fresh_size
  have hId : I ∉ dom μ₁ := fun z => by have := dom_lt y₁ z; rw [hI] at this; exact Nat.lt_irrefl _ this
  have hIb : hb.get? I = none := base_none y₁ (by rw [hI]; exact Nat.le_refl _)
  generalize hs2 : ({ s₁ with heap := s₁.heap.push { cls := .type "list_iterator", data := .fields #[.ref a, .int 0 0] } } : Shared) = s₂ at *
  have hs2h : s₁.heap.push { cls := .type "list_iterator", data := .fields #[.ref a, .int 0 0] } = s₂.heap := by rw [← hs2]
  rw [hs2h] at hit2
  have kp2' : ∀ b o, s₁.heap.get? b = some o → s₂.heap.get? b = some o := fun b o e => by rw [← hs2h]; exact kp2 b o e
  refine ⟨lim.keeps y2.base, ?_⟩
  have hcode : env.code = .ref cc := by rw [en.code, hcc]
  obtain ⟨more, hic, hta⟩ := y2.mem (T, .tab cc ps) ht
  have rest : ∀ (code : Value) (h₃ : Heap) (tk₃ : Nat), Heap.ExtBut T s₂.heap h₃ → MAt (dom μ₁) h₃ T (.tab cc ps) →
      wpAny (model prog w) A (builtinsFor env.globals env.builtins) (fun bi s₄ =>
        ∃ I' fp wr n₀ Pt St₀ Mid pz F', Value.ref I = .ref I' ∧ (∀ A' : Around, A'.handled = none → WalksU prog w A' I' fp wr n₀ Pt St₀ Mid) ∧ (∀ i vals, Pt i vals → ∃ va vb, vals = #[va, vb]) ∧ St₀ 0 s₄.heap ∧ (∀ b ∈ fp, b < s₄.heap.objs.size) ∧ s₄.heap.NoLimit ∧ cStatics ∉ wr ∧
          (∀ href : Heap, (∀ b o, s₄.heap.get? b = some o → href.get? b = some o) →
            QuietGenTD prog w (genEnv scope (clOf env.cells scope.names []) s₄.heap.objs.size code bi env) xa xb [] elt (List.range s₄.heap.objs.size) wr Pt pz F' href (A.depth + 1) (A.units + 8)) ∧
          (∀ a h₅ tk gs, gs.bare = true → s₄.heap.objs.size < a → h₅.objs.size = a + 1 → (∀ b o, s₄.heap.get? b = some o → h₅.get? b = some o) →
            WalksS prog w A.in4 a (a :: s₄.heap.objs.size :: List.range s₄.heap.objs.size) (s₄.heap.objs.size :: wr) (GenOnlyQ s₄.gens.size) (passing pz n₀ 0).length
              (fun j y => ∃ i, (passing pz n₀ 0)[j]? = some i ∧ F' i y) (GenAt prog w A.in4 a s₄.gens.size s₄.heap.objs.size (List.range s₄.heap.objs.size) wr pz n₀ F') →
            GenAt prog w A.in4 a s₄.gens.size s₄.heap.objs.size (List.range s₄.heap.objs.size) wr pz n₀ F' 0 { s₄ with gens := s₄.gens.push gs, toks := tk, heap := h₅ } →
            Q (.ref a) { s₄ with gens := s₄.gens.push gs, toks := tk, heap := h₅ })) E { s₂ with heap := h₃, toks := tk₃ } := by
    intro code h₃ tk₃ ext hn
    have y3 : Ok hb μ₁ { s₂ with heap := h₃, toks := tk₃ } := y2.tabGrow ht (fun b o hb' e => ext b o hb' e) hn
    have BM3 : BMod h₃ mainGlobals mg bm ob := BM.keeps y3.base
    have hIT : I ≠ T := fun z => hId (z ▸ hTd)
    have hit3 : h₃.IsListIter I a 0 := hit2.at fun o e => ext _ o hIT e
    have ho3 : h₃.get? a = some (accObj dx vs.toArray nl) := ext _ _ haT (kp2' _ _ ho)
    have hIseq : ∀ o xs n, h₃.get? I = some o → o.data ≠ .seq xs n := fun o xs n e hd => by
      obtain ⟨oi, hoi, _, hdi⟩ := hit3
      rw [e] at hoi; cases hoi; rw [hd] at hdi; cases hdi
    have tup3 : ∀ j, j < vs.length → ∃ q ta tb, qs[j]? = some q ∧ vs[j]? = some (.ref (refOf vs[j]?)) ∧ refOf vs[j]? ≠ I ∧ valsAt s₁.heap (refOf vs[j]?) = #[.str q.1 ta, .str q.2 tb] ∧ h₃.IsTuple (refOf vs[j]?) #[.str q.1 ta, .str q.2 tb] := fun j hj => by
      obtain ⟨T', q, ta, tb, h1, h2, h3, h4⟩ := pair j hj
      have e : refOf vs[j]? = T' := by rw [h1]; rfl
      rw [e]
      refine ⟨q, ta, tb, h2, h1, fun z => ?_, valsAt_tup h4, h4.at fun o eo => ext _ o (fun z => h3 (z ▸ hTd)) (kp2' _ _ eo)⟩
      obtain ⟨o, eo, _⟩ := h4
      rw [z, hIn] at eo; cases eo
    refine wpAny_builtinsFor (by rw [en.glob]; exact BM3.ns) BM.name BM.ne BM3.obj BM.cls BM.dict BM.data ?_
    refine ⟨I, _, [I], vs.toArray.size, _, _, _, fun _ => true, F, rfl, fun A' hA => acc_walks hA I a dx hane vs.toArray (fun j => refOf vs[j]?) (fun j => valsAt s₁.heap (refOf vs[j]?)) (fun j hj => ?_) (fun j hj => ?_), fun i vals hv => ?_, ⟨hit3, ⟨nl, ho3⟩, fun j hj => ?_⟩, fun b hb' => ?_, lim.keeps y3.base, fun z => ?_, fun href hhref => ⟨?_, ?_⟩, ?_⟩
    · obtain ⟨q, ta, tb, _, h2, _⟩ := tup3 j (by simpa using hj)
      simpa using h2
    · obtain ⟨q, ta, tb, _, _, h3, _⟩ := tup3 j (by simpa using hj)
      exact h3
    · obtain ⟨q, ta, tb, _, _, _, h4, _⟩ := tup3 i (by simpa using hv.1)
      exact ⟨_, _, hv.2.trans h4⟩
    · obtain ⟨q, ta, tb, _, _, _, h4, h5⟩ := tup3 j (by simpa using hj)
      show h₃.IsTuple (refOf vs[j]?) (valsAt s₁.heap (refOf vs[j]?))
      rw [h4]; exact h5
    · obtain ⟨oi, hoi, _⟩ := hit3
      rcases List.mem_cons.mp hb' with rfl | hb'
      · exact Heap.lt_size hoi
      · rcases List.mem_cons.mp hb' with rfl | hb'
        · exact Heap.lt_size ho3
        · obtain ⟨j, hj, rfl⟩ := List.mem_map.mp hb'
          obtain ⟨q, ta, tb, _, _, _, _, ⟨o, eo, _⟩⟩ := tup3 j (by simpa using hj)
          exact Heap.lt_size eo
    · have := List.mem_singleton.mp z
      have hlim := lim
      obtain ⟨_, hns, _⟩ := hlim
      obtain ⟨o, _, _, ho', _⟩ := hns
      rw [this, hIb] at ho'; cases ho'
    · intro A' E' i va vb s2 m2 _ _ _ _ _ _ _ _
      exact wpAny_tests_nil ⟨rfl, s2.heap, s2.toks, rfl, fun _ _ e => e⟩
    · intro A' E' i va vb s2 m2 hA hdep huni hP _ hns hma hmb hk
      obtain ⟨q, ta, tb, h1, _, _, h4, _⟩ := tup3 i (by simpa using hP.1)
      have hP2 : #[va, vb] = valsAt s₁.heap (refOf vs[i]?) := hP.2
      rw [h4] at hP2
      simp only [Array.mk.injEq, List.cons.injEq, and_true] at hP2
      obtain ⟨rfl, rfl⟩ := hP2
      have keep2 : ∀ b o, b ≠ I → h₃.get? b = some o → s2.heap.get? b = some o := fun b o hbI e => hk b (List.mem_range.mpr (Heap.lt_size e)) (fun z => hbI (List.mem_singleton.mp z)) o (hhref b o e)
      exact helt _ A' E' i q ta tb s2 m2 hA hdep huni h1 rfl rfl rfl hns hma hmb fun b o e => keep2 b o (fun z => by rw [z, hIb] at e; cases e) (y3.base b o e)
    · intro g0 h₅ tk gs hgb hag hsz₅ hk₅ W hat
      rw [passing_all, List.length_range] at W
      have hn' : vs.toArray.size = qs.length := by simp [hlen]
      have W2 := W.imp (P' := fun j r => F j r) fun j r hj => by
        obtain ⟨i, h1, h2⟩ := hj
        rw [List.getElem?_eq_some_iff] at h1
        obtain ⟨_, h1⟩ := h1
        simp at h1
        subst h1; exact h2
      rw [hn'] at W2
      have moved : ∀ s' : Shared, (∀ b o, b ≠ I → h₃.get? b = some o → s'.heap.get? b = some o) → AllBare s'.gens → s'.os = s₂.os → (AllBare s.gens → AllBare s'.gens) → Ok hb μ₁ s' ∧ Fw (dom μ₁) (dom μ₁) s s' := fun s' hkk hg hos hgg =>
        ⟨y3.butOne hkk hId hIb hIseq hg, fun b o hb' e => by
          have e1 := f₁.keep b o hb' e
          exact hkk b o (fun z => by rw [z, hIn] at e1; cases e1) (ext b o (fun z => hb' (z ▸ hTd)) (kp2' b o e1)), fun _ h => .inl h, by rw [hos, ← hs2]; exact f₁.os, hgg⟩
      have hg5 : AllBare (s₂.gens.push gs) := y2.bare.push hgb
      have hgg5 : AllBare s.gens → AllBare (s₂.gens.push gs) := fun hb' => AllBare.push (gens := s₂.gens) (by rw [← hs2]; exact f₁.gens hb') hgb
      have m5 := moved { s₂ with gens := s₂.gens.push gs, toks := tk, heap := h₅ } (fun b o _ e => hk₅ b o e) hg5 rfl hgg5
      refine hQ g0 _ _ _ _ _ W2 (by rw [← hn']; exact hat) (fun i s' st => st.1.typeIs) List.mem_cons_self (fun b hb' => ?_) m5.1 m5.2 fun s' hm => ?_
      · show b < h₅.objs.size
        rw [hsz₅]
        rcases List.mem_cons.mp hb' with rfl | hb'
        · exact Nat.lt_succ_self _
        · rcases List.mem_cons.mp hb' with rfl | hb'
          · exact Nat.lt_succ_of_lt hag
          · exact Nat.lt_succ_of_lt (Nat.lt_trans (List.mem_range.mp hb') hag)
      · refine moved s' (fun b o hbI e => hm.heap b o (fun z => ?_) (hk₅ b o e)) (hg5.moved hm.gens) hm.os fun hb' => (hgg5 hb').moved hm.gens
        rcases List.mem_cons.mp z with z | z
        · rw [z] at e; exact Nat.lt_irrefl _ (Heap.lt_size e)
        · exact hbI (List.mem_singleton.mp z)
  cases hnf : codeAmong pos (ps ++ more).toList with
  | some cv => exact wpAny_genexprCode_hit hcode hic hnf (rest cv s₂.heap s₂.toks (Heap.ExtBut.refl _ _) ⟨more, hic, hta⟩)
  | none =>
    refine wpAny_genexprCodeX hcode hic hta hnf fun c' h' tk hx' hge hlt' hic' _ hta' _ => ?_
    refine rest (.ref c') h' tk hx' ⟨more ++ #[rawInt pos.line, rawInt pos.col, .ref c'], ?_, ?_⟩
    · rw [← Array.append_assoc]; exact hic'
    · rw [← Array.append_assoc]; exact hta'
end
end Mine

end

noncomputable section
namespace Mine
section
variable {prog : Program} {w : World} {A : Around} {I : Addr} {fp wr : List Addr} {G : Array GenState → Array GenState → Prop} {n : Nat} {P : Nat → Value → Prop} {St : Nat → Shared → Prop}
noncomputable def shiftP (P : Nat → Value → Prop) (c : Int) : Nat → Value → Prop
  | 0, v => ∃ t, v = .int c t
  | j + 1, v => P j v
noncomputable def shiftSt (St : Nat → Shared → Prop) : Nat → Shared → Prop
  | 0, _ => False
  | j + 1, s => St j s
noncomputable def shiftV (val : Nat → Int) (c : Int) : Nat → Int
  | 0 => c
  | j + 1 => val j
/-- one item more, ahead, that is taken already -/
theorem walks_shift (W : WalksS prog w A I fp wr G n P St) (c : Int) : WalksS prog w A I fp wr G (n + 1) (shiftP P c) (shiftSt St) where
  sub := W.sub
  grefl := W.grefl
  gtrans := W.gtrans
  frame := fun i s h' tk st htk hk => by
    cases i with
    | zero => exact st
    | succ j => exact W.frame j s h' tk st htk hk
  item := fun i s Q E hi st hQ => by
    cases i with
    | zero => exact absurd st (fun h => h)
    | succ j => exact W.item j s Q E (by omega) st hQ
  done := fun s Q E st hQ => W.done s Q E st hQ
  self := fun i s Q E st hQ => by
    cases i with
    | zero => exact absurd st (fun h => h)
    | succ j => exact W.self j s Q E st hQ
theorem preSum_shift (val : Nat → Int) (c : Int) : ∀ i, preSum (shiftV val c) (i + 1) = c + preSum val i
  | 0 => by simp [preSum, shiftV]
  | i + 1 => by
    rw [preSum, preSum_shift val c i, preSum]
    simp only [shiftV]
    omega
end
section
variable {prog : Program} {w : World} {A : Around} {E : Value → Shared → Prop} {s : Shared}
theorem args_sum2 (a b : Value) : argsOk "sum" ⟨[a, b], []⟩ := by unfold argsOk; kernel_rfl
/-- sum(gen, start) -/
theorem call_sum2 {x : Value} {c0 : Int} {t0 : Tok} {Q : Value → Shared → Prop}
    (h : wpAny (model prog w) A.in1 (pyIter x) (fun it s₂ => ∃ I fp wr G n P St val, it = .ref I ∧ WalksS prog w A.in1 I fp wr G n P St ∧ St 0 s₂ ∧ (∀ b ∈ fp, b < s₂.heap.objs.size) ∧
      (∀ i v, P i v → ∃ t, v = .int (val i) t) ∧ InLong c0 ∧ (∀ j, j < n → InLong (val j) ∧ InLong (c0 + preSum val (j + 1))) ∧
      ∀ s' t', Moved wr G s₂ s' → Q (.int (c0 + preSum val n) t') s') E s) :
    wpAny (model prog w) A (call (.builtin "sum") [x, .int c0 t0]) Q E s := by
  refine call_function_tree F.kind_sum F.plain_sum F.entry_sum (args_sum2 _ _) ?_
  unfold Builtin.«sum»
  simp only [List.length_cons, List.length_nil]
  rw [if_neg (by decide)]
  refine wpAny_bind (wpAny_of_eq (show Builtin.Builtins.bindParams "sum" ["start"] 0 ⟨[.int c0 t0], []⟩ = pure [some (.int c0 t0)] from rfl) ?_)
  refine wpAny_bind (wpAny_mono h (fun it s₂ h₂ => ?_) fun _ _ e => e)
  obtain ⟨I, fp, wr, G, n, P, St, val, rfl, W, hst, hfp, hval, hcl, hfit, hQ⟩ := h₂
  have hcb : (decide (-(2 ^ 63) ≤ c0) && decide (c0 < 2 ^ 63)) = true := by
    have := hcl.1
    have := hcl.2
    simp only [Bool.and_eq_true, decide_eq_true_eq]
    exact ⟨by assumption, by assumption⟩
  dsimp only
  split
  rotate_left
  · rename_i hneg
    exact absurd hcb hneg
  refine wpAny_bind (wpAny_rule (wpAny_bind (wpAny_mkInt ?_)))
  refine wpAny_bind (wpAny_pure ?_)
  simp only [List.forIn_cons, List.forIn_nil]
  refine wpAny_bind (wpAny_bind (wpAny_bind (wpAny_isInstance (T := "int") (b := false) (typeIs_int _ _ _) PySem.sub_int_str ?_)))
  simp only [Bool.false_eq_true, if_false]
  refine wpAny_pure (wpAny_bind (wpAny_bind (wpAny_isInstance (T := "int") (b := false) (typeIs_int _ _ _) PySem.sub_int_bytes ?_)))
  simp only [Bool.false_eq_true, if_false]
  refine wpAny_pure (wpAny_bind (wpAny_bind (wpAny_isInstance (T := "int") (b := false) (typeIs_int _ _ _) PySem.sub_int_bytearray ?_)))
  simp only [Bool.false_eq_true, if_false]
  refine wpAny_pure (wpAny_pure ?_)
  refine wpAny_bind (wpAny_newObj_type ?_)
  have hSf : s₂.heap.objs.size ∉ fp := fun hm => Nat.lt_irrefl _ (hfp _ hm)
  have W' := walks_shift W c0
  have hv' : ∀ i v, shiftP P c0 i v → ∃ t, v = .int (shiftV val c0 i) t := fun i v hp => by
    cases i with
    | zero => exact hp
    | succ j => exact hval j v hp
  have hf' : ∀ j, j < n + 1 → InLong (shiftV val c0 j) ∧ InLong (preSum (shiftV val c0) (j + 1)) := fun j hj => by
    cases j with
    | zero => rw [preSum_shift]; simpa [preSum, shiftV] using hcl
    | succ i => rw [preSum_shift]; exact hfit i (by omega)
  have e1 : preSum (shiftV val c0) 1 = c0 := by rw [preSum_shift]; simp [preSum]
  refine wpAny_pure ⟨plainId_quiet F.plain_sum_loop _, codeAny_sum_loopS W' (shiftV val c0) hv' hf' s₂.heap.objs.size hSf n 1 _ s₂.toks 0 (by omega) (by omega)
    (W.frame 0 s₂ _ _ hst (by first | exact Nat.le_refl _ | exact Nat.le_succ _ | omega) fun b _ o e => Heap.get?_push_of_some _ e) (by rw [e1]; exact Heap.get?_push_size _ rfl) fun s' t' hm => ?_⟩
  rw [preSum_shift]
  exact hQ s' t' (hm.drop_new (by first | exact Nat.le_refl _ | exact Nat.le_succ _ | omega))
end
end Mine

end

noncomputable section
namespace Mine
section
variable {prog : Program} {w : World} {hb : Heap} {mg mb : Str → Option Value}
/-- len(x) of a local text, in a frame that is not ours -/
theorem raw_len {cenv : Env} {A : Around} {E : Value → Shared → Prop} {s : Shared} {m : Str → Option Value} {x : Str} {np xp pos : Pos} {z : Str} {t : Tok} {Q : Value → Shared → Prop} (G : hb.Ns mainGlobals mg) (B : hb.Ns builtinsNs mb) (hm : mg "len" = none) (hv : mb "len" = some (.builtin "len"))
    (hg : cenv.globals = mainGlobals) (hbi : cenv.builtins = builtinsNs) (hkf : cenv.scope.kind = .function) (hkl : cenv.kindOf "len" = some .globalImplicit) (hkx : cenv.kindOf x = some .local) (hbase : ∀ b o, hb.get? b = some o → s.heap.get? b = some o) (hns : s.heap.Ns cenv.locals m) (hx : m x = some (.str z t)) (hz : z.length < 2 ^ 62)
    (hxd : (x == ("__debug__" : Str)) = false) (h : Q (.int z.length (s.toks + 1)) { s with toks := s.toks + 1 + 1 }) : wpAny (model prog w) A (eval (.Call (.Name "len" np) [.Name x xp] [] pos) cenv) Q E s := by
  refine Call_name1 rfl (Calls.Name_function_global hkf hkl (Calls.loadGlobal_builtin (by rw [hg]; exact G.keeps hbase) hm (by rw [hbi]; exact B.keeps hbase) hv ?_) rfl)
  refine callWith_builtin1 ?_
  exact wpAny_Name (wpAny_loadName_local hkf hkx hns hx (P.len_str (by omega) h)) hxd

noncomputable def lenAt (qs : List (Str × Str)) (j : Nat) : Int := match qs[j]? with
  | some q => (q.1.length : Int) + (q.2.length : Int)
  | none => 0
theorem lenAt_some {qs : List (Str × Str)} {j : Nat} {q : Str × Str} (h : qs[j]? = some q) : lenAt qs j = (q.1.length : Int) + (q.2.length : Int) := by unfold lenAt; rw [h]
variable {sc : Sh} {k : Nat} {ρ : Ren} {μ : Mem} {Φ : Dat → Mem → Prop} {mN : Str → Option Value} {bm : Addr} {ob : Obj}
/-- sum((len(xa) + len(xb) for xa, xb in self), self._initial_size) -/
theorem WpE.lenSum {slf xa xb : Str} {np l1 n1 c1 l2 n2 c2 bp pa pb pt sp gp sp2 ap pos : Pos} {kt : Nat} {scope : Scope} {T cc a dx : Addr} {ps : Array Value} {c0 : Int} {qs : List (Str × Str)}
    (G : hb.Ns mainGlobals mg) (B : hb.Ns builtinsNs mb) (hms : mg "sum" = Option.none) (hvs : mb "sum" = some (.builtin "sum")) (hml : mg "len" = Option.none) (hvl : mb "len" = some (.builtin "len")) (BM : BMod hb mainGlobals mg bm ob) (lim : hb.NoLimit)
    (C : AccNames hb mN) (hmi : mN "__iter__" = Option.none) (hna : mN sizeName = Option.none) (ht : (T, MO.tab cc ps) ∈ μ) (hacc : (a, MO.acc dx (some c0) (qs.map qd)) ∈ μ) (hself : ρ.lookup slf = some (.obj a))
    (hq : ∀ q ∈ qs, q.1.length < 2 ^ 62 ∧ q.2.length < 2 ^ 62) (hc0 : InLong c0) (hfit : ∀ j, j < qs.length → InLong (lenAt qs j) ∧ InLong (c0 + preSum (lenAt qs) (j + 1))) (hΦ : Φ (.int (c0 + preSum (lenAt qs) qs.length)) μ)
    (hcc : sc.code = .ref cc := by rfl) (hk : sc.names.lookup ("sum" : Str) = some .globalImplicit := by rfl) (hloc : sc.names.lookup slf = some .local := by rfl) (hok : compOk sc.names scope.names = true := by rfl) (hkind : scope.kind = .function := by rfl) (hco : scope.isCoroutine = false := by rfl)
    (h0 : scope.names.lookup (".0" : Str) = some NameKind.local := by rfl) (hxa : scope.names.lookup xa = some .local := by rfl) (hxb : scope.names.lookup xb = some .local := by rfl) (hln : scope.names.lookup ("len" : Str) = some .globalImplicit := by rfl) (hab : xa ≠ xb := by decide)
    (da : (xa == ("__debug__" : Str)) = false := by rfl) (db : (xb == ("__debug__" : Str)) = false := by rfl) (dslf : (slf == ("__debug__" : Str)) = false := by rfl) (dslf2 : (slf == ("__classdict__" : Str)) = false := by rfl) :
    WpE prog w hb sc k (.Call (.Name "sum" np) [.GeneratorExp (.BinOp (.Call (.Name "len" l1) [.Name xa n1] [] c1) .Add (.Call (.Name "len" l2) [.Name xb n2] [] c2) bp) [⟨.Tuple [.Name xa pa, .Name xb pb] kt pt, .Name slf sp, [], 0⟩] scope gp, .Attribute (.Name slf sp2) sizeName ap] [] pos) ρ μ Φ := by
  intro env A s E c en y
  refine ⟨fun Q hQ => ?_⟩
  refine wpAny_Call_NameR (ev_builtin en y G B hms hvs ?_ hk)
  refine Calls.callWith_builtin (args := backTo pos (starEach [.GeneratorExp (.BinOp (.Call (.Name "len" l1) [.Name xa n1] [] c1) .Add (.Call (.Name "len" l2) [.Name xb n2] [] c2) bp) [⟨.Tuple [.Name xa pa, .Name xb pb] kt pt, .Name slf sp, [], 0⟩] scope gp, .Attribute (.Name slf sp2) sizeName ap] env)) rfl ?_
  refine Calls.evalArgs_plain (Calls.spliced_cons ?_)
  refine gen_two (fun j r => ∃ t, r = Value.int (lenAt qs j) t) BM lim C.X hmi c en y ht hcc hacc (WpE.name hself ⟨rfl, rfl⟩ dslf dslf2) (fun _ => rfl) hok hkind hco h0 hxa hxb hab ?_ ?_
  · intro cenv A' E' i q ta tb s2 m2 hA hdep huni hqi hsc hgl hbi hns hma hmb hbase
    have hkf : cenv.scope.kind = .function := by rw [hsc]; exact hkind
    have hkk : ∀ z kd, scope.names.lookup z = some kd → cenv.kindOf z = some kd := fun z kd e => by show cenv.scope.names.lookup z = _; rw [hsc, e]
    have hgl' : cenv.globals = mainGlobals := by rw [hgl, en.glob]
    obtain ⟨q1, q2⟩ := hq q (List.mem_of_getElem? hqi)
    refine wpAny_BinOp (raw_len G B hml hvl hgl' hbi hkf (hkk _ _ hln) (hkk _ _ hxa) hbase hns hma q1 da (raw_len G B hml hvl hgl' hbi hkf (hkk _ _ hln) (hkk _ _ hxb) hbase hns hmb q2 db ?_))
    refine add_int ⟨⟨_, by rw [lenAt_some hqi]⟩, s2.heap, _, rfl, fun _ _ e => e⟩
  · intro g0 fp wr g St s5 W hst hT ha hfp y5 f5 hmv
    have en5 := en.step f5
    obtain ⟨m5, n5, hv5⟩ := en5.vars
    obtain ⟨v5, hm5, rv5⟩ : ∃ v, m5 slf = some v ∧ Rd (dom μ) s5.heap v (.obj a) := by
      rcases hv5 slf _ hself with ⟨_, v, h2, h3⟩ | ⟨h1, _⟩
      · exact ⟨v, h2, h3⟩
      · rcases h1 with h1 | h1 <;> rw [hloc] at h1 <;> cases h1
    cases rv5
    obtain ⟨vs, nl, ho5, _, mA, hA, t5, hsz⟩ := id (y5.mem _ hacc)
    have hv : mA sizeName = some (.int c0 t5) := by rw [hsz, if_pos rfl]
    refine Calls.spliced_cons (Attribute_name (wpAny_Name (wpAny_loadName_local en5.kind (by show env.scope.names.lookup slf = _; rw [en5.scope, hloc]) n5 hm5 ?_) dslf))
    obtain ⟨h5, g5, d5, tk5, os5⟩ := s5
    refine acc_load (C.X.keeps y5.base) ho5 hA C.ga C.gg hna hv rfl (Calls.spliced_nil ?_)
    have W1 := W.in4_1
    have st6 := W1.frame 0 _ h5 (tk5 + 1) hst (Nat.le_succ _) fun b _ o e => e
    refine call_sum2 (W1.self 0 _ _ _ st6 ⟨g0, fp, wr, _, _, _, St, lenAt qs, rfl, W1, st6, hfp, fun i v hp => hp, hc0, hfit, fun s' t' hm => ?_⟩)
    obtain ⟨y6, f6⟩ := hmv s' ⟨hm.heap, hm.gens, hm.drawn, hm.os, Nat.le_trans (Nat.le_succ _) hm.toks⟩
    exact hQ _ _ μ s' hΦ (.int _ _) y6 f6
end
end Mine

end

noncomputable section
namespace Mine
section
variable {prog : Program} {w : World} {hb : Heap} {mg mb : Str → Option Value}
/-- e.join((xa, xb)) for local texts, e a text of the module, in a frame that is not ours -/
theorem raw_join2 {cenv : Env} {A : Around} {E : Value → Shared → Prop} {s : Shared} {m : Str → Option Value} {en xa xb : Str} {np ap ea eb tp pos : Pos} {nt : Nat} {sep za zb : Str} {ts ta tb : Tok} {Q : Value → Shared → Prop} (G : hb.Ns mainGlobals mg) (hm : mg en = some (.str sep ts))
    (hg : cenv.globals = mainGlobals) (hkf : cenv.scope.kind = .function) (hke : cenv.kindOf en = some .globalImplicit) (hka : cenv.kindOf xa = some .local) (hkb : cenv.kindOf xb = some .local) (hbase : ∀ b o, hb.get? b = some o → s.heap.get? b = some o) (hns : s.heap.Ns cenv.locals m) (hxa : m xa = some (.str za ta)) (hxb : m xb = some (.str zb tb))
    (hlen : za.length + zb.length + 2 * sep.length ≤ 1000) (de : (en == ("__debug__" : Str)) = false) (da : (xa == ("__debug__" : Str)) = false) (db : (xb == ("__debug__" : Str)) = false)
    (he : ∃ pl, eval (.Call (.Attribute (.Name en np) "join" ap) [.Tuple [.Name xa ea, .Name xb eb] nt tp] [] pos) cenv = (do
      let ov ← eval (.Name en np) cenv
      standAt ap.atName
      let (f, first) ← holding [ov] (getMethod ov "join" pl)
      callWith pos f first (backTo pos (starEach [.Tuple [.Name xa ea, .Name xb eb] nt tp] cenv)) []))
    (h : ∀ t' s', Keeps s s' → Q (.str (Txt.join sep [za, zb]) t') s') : wpAny (model prog w) A (eval (.Call (.Attribute (.Name en np) "join" ap) [.Tuple [.Name xa ea, .Name xb eb] nt tp] [] pos) cenv) Q E s := by
  obtain ⟨pl, he⟩ := he
  refine MethodCall_ (pl := pl) (Calls.Name_function_global hkf hke (Calls.loadGlobal_global (by rw [hg]; exact G.keeps hbase) hm ?_) de) he
  refine GM.join ?_
  refine callWith_method1 (Calls.spliced_cons (wpAny_Tuple_spliced (x1 := nt) ?_))
  refine Calls.spliced_cons (wpAny_Name (wpAny_loadName_local hkf hka hns hxa ?_) da)
  refine Calls.spliced_cons (wpAny_Name (wpAny_loadName_local hkf hkb hns hxb ?_) db)
  refine Calls.spliced_nil ⟨by exact Nat.le_of_ble_eq_true rfl, ?_⟩
  refine Calls.spliced_nil ?_
  refine join_tuple (items := [Value.str za ta, Value.str zb tb].toArray) (ys := [za, zb]) ⟨_, Heap.get?_push_size _ rfl, rfl, _, rfl⟩ (.cons za ta (.cons zb tb .nil)) (by simp; omega) fun t' kk => ?_
  exact h t' _ ⟨_, _, rfl, push_keeps _⟩

noncomputable def catAt (sep : Str) (qs : List (Str × Str)) (j : Nat) : Str := match qs[j]? with
  | some q => Txt.join sep [q.1, q.2]
  | none => sep
theorem catAt_some {sep : Str} {qs : List (Str × Str)} {j : Nat} {q : Str × Str} (h : qs[j]? = some q) : catAt sep qs j = Txt.join sep [q.1, q.2] := by unfold catAt; rw [h]
variable {sc : Sh} {k : Nat} {ρ : Ren} {μ : Mem} {Φ : Dat → Mem → Prop} {mN : Str → Option Value} {bm : Addr} {ob : Obj}
/-- e.join((e.join((xa, xb)) for xa, xb in self)) -/
theorem WpE.joinAll {slf xa xb eN : Str} {np0 ap0 np ap ea eb tp c1 pa pb pt sp gp pos : Pos} {nt kt : Nat} {scope : Scope} {T cc a dx : Addr} {ps : Array Value} {sz : Option Int} {qs : List (Str × Str)} {sep : Str} {ts : Tok}
    (G : hb.Ns mainGlobals mg) (hme : mg eN = some (.str sep ts)) (BM : BMod hb mainGlobals mg bm ob) (lim : hb.NoLimit)
    (C : AccNames hb mN) (hmi : mN "__iter__" = Option.none) (ht : (T, MO.tab cc ps) ∈ μ) (hacc : (a, MO.acc dx sz (qs.map qd)) ∈ μ) (hself : ρ.lookup slf = some (.obj a))
    (hq : ∀ q ∈ qs, q.1.length + q.2.length + 2 * sep.length ≤ 1000) (hl : qs.length ≤ 1000) (hjo : JoinOk sep ((List.range qs.length).map (catAt sep qs)) = true) (hΦ : Φ (.str (Txt.join sep ((List.range qs.length).map (catAt sep qs)))) μ)
    (he : ∀ env, ∃ pl, eval (.Call (.Attribute (.Name eN np0) "join" ap0) [.GeneratorExp (.Call (.Attribute (.Name eN np) "join" ap) [.Tuple [.Name xa ea, .Name xb eb] nt tp] [] c1) [⟨.Tuple [.Name xa pa, .Name xb pb] kt pt, .Name slf sp, [], 0⟩] scope gp] [] pos) env = (do
      let ov ← eval (.Name eN np0) env
      standAt ap0.atName
      let (f, first) ← holding [ov] (getMethod ov "join" pl)
      callWith pos f first (backTo pos (starEach [.GeneratorExp (.Call (.Attribute (.Name eN np) "join" ap) [.Tuple [.Name xa ea, .Name xb eb] nt tp] [] c1) [⟨.Tuple [.Name xa pa, .Name xb pb] kt pt, .Name slf sp, [], 0⟩] scope gp] env)) []) := by intro _; exact ⟨_, rfl⟩)
    (he2 : ∀ cenv, ∃ pl, eval (.Call (.Attribute (.Name eN np) "join" ap) [.Tuple [.Name xa ea, .Name xb eb] nt tp] [] c1) cenv = (do
      let ov ← eval (.Name eN np) cenv
      standAt ap.atName
      let (f, first) ← holding [ov] (getMethod ov "join" pl)
      callWith c1 f first (backTo c1 (starEach [.Tuple [.Name xa ea, .Name xb eb] nt tp] cenv)) []) := by intro _; exact ⟨_, rfl⟩)
    (hcc : sc.code = .ref cc := by rfl) (hk : sc.names.lookup eN = some .globalImplicit := by rfl) (hok : compOk sc.names scope.names = true := by rfl) (hkind : scope.kind = .function := by rfl) (hco : scope.isCoroutine = false := by rfl)
    (h0 : scope.names.lookup (".0" : Str) = some NameKind.local := by rfl) (hxa : scope.names.lookup xa = some .local := by rfl) (hxb : scope.names.lookup xb = some .local := by rfl) (hen : scope.names.lookup eN = some .globalImplicit := by rfl) (hab : xa ≠ xb := by decide)
    (da : (xa == ("__debug__" : Str)) = false := by rfl) (db : (xb == ("__debug__" : Str)) = false := by rfl) (de : (eN == ("__debug__" : Str)) = false := by rfl) (dslf : (slf == ("__debug__" : Str)) = false := by rfl) (dslf2 : (slf == ("__classdict__" : Str)) = false := by rfl) :
    WpE prog w hb sc k (.Call (.Attribute (.Name eN np0) "join" ap0) [.GeneratorExp (.Call (.Attribute (.Name eN np) "join" ap) [.Tuple [.Name xa ea, .Name xb eb] nt tp] [] c1) [⟨.Tuple [.Name xa pa, .Name xb pb] kt pt, .Name slf sp, [], 0⟩] scope gp] [] pos) ρ μ Φ := by
  intro env A s E c en y
  refine ⟨fun Q hQ => ?_⟩
  obtain ⟨pl, he⟩ := he env
  refine MethodCall_ (pl := pl) ((WpE.globStr (Φ := fun d μ' => d = .str sep ∧ μ' = μ) G hme ⟨rfl, rfl⟩ hk de env A s E c en y).run _ fun v d μ₁ s₁ h₁ r₁ y₁ f₁ => ?_) he
  obtain ⟨rfl, rfl⟩ := h₁
  cases r₁ with
  | str _ t1 =>
  refine GM.join ?_
  refine Calls.callWith_builtin (args := backTo pos (starEach [.GeneratorExp (.Call (.Attribute (.Name eN np) "join" ap) [.Tuple [.Name xa ea, .Name xb eb] nt tp] [] c1) [⟨.Tuple [.Name xa pa, .Name xb pb] kt pt, .Name slf sp, [], 0⟩] scope gp] env)) rfl ?_
  refine Calls.evalArgs_plain (Calls.spliced_cons ?_)
  refine gen_two (fun j r => ∃ t, r = Value.str (catAt sep qs j) t) BM lim C.X hmi c (en.step f₁) y₁ ht hcc hacc (WpE.name hself ⟨rfl, rfl⟩ dslf dslf2) (fun _ => rfl) hok hkind hco h0 hxa hxb hab ?_ ?_
  · intro cenv A' E' i q ta tb s2 m2 hA hdep huni hqi hsc hgl hbi hns hma hmb hbase
    have hkf : cenv.scope.kind = .function := by rw [hsc]; exact hkind
    have hkk : ∀ z kd, scope.names.lookup z = some kd → cenv.kindOf z = some kd := fun z kd e => by show cenv.scope.names.lookup z = _; rw [hsc, e]
    have hgl' : cenv.globals = mainGlobals := by rw [hgl, en.glob]
    exact raw_join2 G hme hgl' hkf (hkk _ _ hen) (hkk _ _ hxa) (hkk _ _ hxb) hbase hns hma hmb (hq q (List.mem_of_getElem? hqi)) de da db (he2 cenv) fun t' s' kp => ⟨⟨t', by rw [catAt_some hqi]⟩, kp⟩
  · intro g0 fp wr g St s5 W hst hT ha hfp y5 f5 hmv
    refine Calls.spliced_nil ?_
    have W2 := W.in4_2
    refine SC.joinGen W2 hT hst hfp ha (fun j v hv => let ⟨u, e⟩ := hv; ⟨_, u, e⟩) (fun s' lt hm hacc' => ?_) (Nat.le_trans hl (by decide))
    have hle : lt.map (·.1) = (List.range qs.length).map (catAt sep qs) := by
      apply List.ext_getElem?
      intro j
      have hsz : lt.length = qs.length := by simpa [strValues] using hacc'.1
      by_cases hj : j < qs.length
      · have hj' : j < lt.length := hsz ▸ hj
        obtain ⟨u, hv⟩ := hacc'.2 j (.str lt[j].1 lt[j].2) (by simp [strValues, List.getElem?_eq_getElem hj'])
        injection hv with h1 _
        simp [List.getElem?_eq_getElem hj', hj, h1]
      · rw [List.getElem?_eq_none (by simp; omega), List.getElem?_eq_none (by simp; omega)]
    rw [hle]
    refine ⟨hjo, fun t' kk => ?_⟩
    obtain ⟨y6, f6⟩ := hmv s' hm
    exact hQ _ _ μ₁ _ hΦ (.str _ _) y6.toks ((f₁.trans f6).trans Fw.toks)
end
end Mine

end

noncomputable section
namespace Mine
section
variable {prog : Program} {w : World} {A : Around} {E : Value → Shared → Prop} {s : Shared} {mN : Str → Option Value} {a f : Addr} {of : Obj}
/-- a special method that the class defines -/
theorem acc_special_fn {name : Str} {args : List Value} {y : Option Value} {Q : Option Value → Shared → Prop} (X : AccCls s.heap mN) (I : IsAcc s.heap a) (hB : typeLookup (.type "list") name = pure y) (hf : mN name = some (.ref f)) (hfo : s.heap.get? f = some of) (hfc : of.cls = .type "function")
    (hc : wpAny (model prog w) A (call (.ref f) (.ref a :: args)) (fun v => Q (some v)) E s) : wpAny (model prog w) A (callSpecial? (.ref a) name args) Q E s := by
  simp only [callSpecial?]
  refine wpAny_bind (acc_special X I hB ?_)
  rw [hf]
  refine wpAny_holding (wpAny_bind ?_)
  unfold bindSpecial
  refine wpAny_bind (wpAny_typeOf (T := "function") ⟨of, hfo, hfc⟩ ?_)
  refine wpAny_pure ?_
  exact wpAny_bind (wpAny_mono hc (fun v s' h' => wpAny_pure h') fun _ _ h' => h')
/-- the body of len -/
theorem acc_len {y : Option Value} {nn : Int} {Q : Value → Shared → Prop} (X : AccCls s.heap mN) (I : IsAcc s.heap a) (hB : typeLookup (.type "list") "__len__" = pure y) (hf : mN "__len__" = some (.ref f)) (hfo : s.heap.get? f = some of) (hfc : of.cls = .type "function") (h0 : 0 ≤ nn) (h1 : nn < 2 ^ 62)
    (hc : wpAny (model prog w) A (call (.ref f) [.ref a]) (fun v s' => ∃ t, v = .int nn t ∧ Q (.int nn s'.toks) { s' with toks := s'.toks + 1 }) E s) :
    wpAny (model prog w) A (Builtin.«len» ⟨[.ref a], []⟩) (fun fin s' => ∃ v, fin = .done (.ret v) ∧ Q v s') E s := by
  unfold Builtin.«len»
  refine wpAny_bind (m := oneArg "len" _) (wpAny_pure ?_)
  refine wpAny_bind (m := callSpecial? (.ref a) (Str.ofString "__len__")) (acc_special_fn X I hB hf hfo hfc (wpAny_mono hc (fun v s' h' => ?_) fun _ _ e => e))
  obtain ⟨t, rfl, hq⟩ := h'
  refine wpAny_bind (wpAny_holding (wpAny_pure ?_))
  refine wpAny_bind (wpAny_letGo ?_)
  show wpAny _ _ (if nn < 0 then _ else _) _ _ _
  rw [if_neg (by omega)]
  show wpAny _ _ (if nn ≥ 2 ^ 63 then _ else _) _ _ _
  rw [if_neg (by omega)]
  exact wpAny_bind (wpAny_mkInt (wpAny_pure ⟨_, rfl, hq⟩))
theorem acc_truthy {y : Option Value} {nn : Int} {Q : Bool → Shared → Prop} (X : AccCls s.heap mN) (I : IsAcc s.heap a) (hbo : mN "__bool__" = none) (hB : typeLookup (.type "list") "__len__" = pure y) (hf : mN "__len__" = some (.ref f)) (hfo : s.heap.get? f = some of) (hfc : of.cls = .type "function") (h0 : 0 ≤ nn) (h1 : nn < 2 ^ 62)
    (hc : wpAny (model prog w) A.in1 (call (.ref f) [.ref a]) (fun v s' => ∃ t, v = .int nn t ∧ Q (nn != 0) { s' with toks := s'.toks + 1 }) E s) : wpAny (model prog w) A (truthy (.ref a)) Q E s := by
  have key : wpAny (model prog w) A (runValue (.builtin "len" ⟨[.ref a], []⟩)) (fun r s' => (∃ t, r = .int nn t) ∧ Q (nn != 0) s') E s := by
    refine wpAny_runValue (codeAny_builtin entry_len ?_)
    rw [Around.under_plainId plain_len _]
    refine wpAny_mono (acc_len (Q := fun r s' => (∃ t, r = .int nn t) ∧ Q (nn != 0) s') X I hB hf hfo hfc h0 h1 (wpAny_mono hc (fun v s' h' => ?_) fun _ _ e => e)) (fun fin s' h' => by obtain ⟨r, rfl, hq⟩ := h'; exact hq) fun _ _ e => e
    obtain ⟨t, rfl, hq⟩ := h'
    exact ⟨t, rfl, ⟨_, rfl⟩, hq⟩
  unfold truthy
  refine wpAny_bind ?_
  simp only [callSpecial?]
  refine wpAny_bind (acc_special X I noBool_list ?_)
  rw [hbo]
  refine wpAny_pure ?_
  refine wpAny_bind (acc_special X I hB ?_)
  rw [hf]
  refine wpAny_bind (wpAny_mono key (fun r s' h' => ?_) fun _ _ e => e)
  obtain ⟨⟨t, rfl⟩, hq⟩ := h'
  exact wpAny_pure hq
end
end Mine

end

noncomputable section
namespace Mine
section
variable {prog : Program} {w : World} {hb : Heap} {sc : Sh} {k : Nat} {ρ : Ren} {μ : Mem} {ΦB : Bool → Mem → Prop} {Φ : Dat → Mem → Prop} {mN mg mb : Str → Option Value} {f : Addr} {of : Obj}
/-- the truth of an accumulator: by its __len__ -/
theorem WpB.accVal {x : Expr} (C : AccNames hb mN) (hbo : mN "__bool__" = none) (hf : mN "__len__" = some (.ref f)) (hfo : hb.get? f = some of) (hfc : of.cls = .type "function")
    (h : WpE prog w hb sc (k + 1) x ρ μ (fun d μ₁ => ∃ a dx sz ds nn, d = .obj a ∧ (a, MO.acc dx sz ds) ∈ μ₁ ∧ 0 ≤ nn ∧ nn < 2 ^ 62 ∧ WpC prog w hb k f [.obj a] μ₁ (fun d' μ' => d' = .int nn ∧ ΦB (nn != 0) μ')))
    (he : ∀ env, isTrue x env (eval x env) = (do let v ← eval x env; standAt x.pos; holding [v] (truthy v)) := by intro _; rfl) : WpB prog w hb sc (k + 1) x ρ μ ΦB := by
  intro env A s E c e y
  refine ⟨fun Q hQ => ?_⟩
  refine wpAny_isTrue_value ((h env A s E c e y).run _ fun v d μ₁ s₁ h₁ r₁ y₁ f₁ => ?_) (he env)
  obtain ⟨a, dx, sz, ds, nn, rfl, hm, h0, h1, hc⟩ := h₁
  cases r₁
  obtain ⟨vs, kk, ho, _⟩ := id (y₁.mem _ hm)
  refine acc_truthy (C.X.keeps y₁.base) (isAcc ho) hbo slot_list_len.lookup hf (y₁.base _ _ hfo) hfc h0 h1 ?_
  refine (hc A.in1 s₁ [.ref a] E c.in1 y₁ (.cons (.obj a) .nil)).run _ fun v' d' μ' s' a1 a2 a3 a4 => ?_
  obtain ⟨rfl, hΦ⟩ := a1
  cases a2 with
  | int _ t => exact ⟨t, rfl, hQ _ μ' _ hΦ a3.toks ((f₁.trans a4).trans Fw.toks)⟩
/-- len(acc) -/
theorem BCm.accLen {a dx : Addr} {sz : Option Int} {ds : List Dat} {nn : Int} (C : AccNames hb mN) (hf : mN "__len__" = some (.ref f)) (hfo : hb.get? f = some of) (hfc : of.cls = .type "function") (hm : (a, MO.acc dx sz ds) ∈ μ) (h0 : 0 ≤ nn) (h1 : nn < 2 ^ 62)
    (hc : WpC prog w hb k f [.obj a] μ (fun d' μ' => d' = .int nn ∧ Φ (.int nn) μ')) : BCm prog w hb "len" (k + 1) [.obj a] μ Φ := by
  intro A E s vs c y r
  refine ⟨fun Q hQ => ?_⟩
  cases r with
  | cons r1 r2 => cases r2; cases r1
                  obtain ⟨ws, kk, ho, _⟩ := id (y.mem _ hm)
                  refine Calls.call_function_entry kind_len plain_len entry_len (args_len1 _) ?_
                  refine acc_len (C.X.keeps y.base) (isAcc ho) slot_list_len.lookup hf (y.base _ _ hfo) hfc h0 h1 ?_
                  refine (hc A.in1 s [.ref a] E c.in1 y (.cons (.obj a) .nil)).run _ fun v' d' μ' s' a1 a2 a3 a4 => ?_
                  obtain ⟨rfl, hΦ⟩ := a1
                  cases a2 with
                  | int _ t => exact ⟨t, rfl, hQ _ _ μ' _ hΦ (.int _ _) a3.toks (a4.trans Fw.toks)⟩
end
end Mine

end

noncomputable section
open Builtin Builtin.Str
namespace Mine
section
variable {prog : Program} {w : World} {A : Around} {E : Value → Shared → Prop} {s : Shared}
set_option maxHeartbeats 4000000 in
/-- str(v), in this model -/
theorem str_call {v : Value} {Q : Value → Shared → Prop} (h : wpAny (model prog w) A.in1.in1 (strOf v) (fun r s' => s'.TypeIs r "str" ∧ Q r s') E s) : wpAny (model prog w) A (call (.type "str") [v]) Q E s := by
  have ft := F.called_str
  have hct := F.typeCall_str_1 v
  have hcn := F.newCall_str_1 v
  obtain ⟨c, tl, hmro⟩ := ft.mro
  have hmade := ft.made
  have hsub := ft.sub
  refine wpAny_call (codeAny_of_tree ?_)
  show wpAny _ _ (callAny (.type "str") _) _ _ _
  refine wpAny_pure ⟨Code.quiet_builtin _ (by decide +kernel), codeAny_builtin F.entry_type_call ?_⟩
  rw [Around.under_plain (weight_type_call_type "str" [v] []) (units_type_call_type "str" [v] [])]
  have h1 := ft.notType
  have h2 := ft.canCreate
  repeat (any_goals (first | assumption | wp_step))
  refine codeAny_mono (codeAny_call_builtin (R := wants (fun r s' => s'.TypeIs r "str" ∧ Q r s') E) ft.plain F.entry_str_new (wpAny_of_eq hcn ?_)) fun r s₁ hr => ?_
  · rw [str_new_tree v]
    refine wpAny_bind (wpAny_pure ?_)
    refine wpAny_bind (wpAny_of_eq isSubtype_str_str ?_)
    exact wpAny_bind (wpAny_mono h (fun r s' h' => wpAny_pure h') fun _ _ e => e)
  cases r with
  | error e => exact hr
  | ok fl =>
    cases fl with
    | ret obj =>
      obtain ⟨hT, hq⟩ := hr
      have hli := ft.init.lookup
      have hbi := ft.init.bind obj
      have gi := object_init_meets (self := obj) (rest := [v]) ft.init.lookup ft.made (by decide)
      repeat (any_goals (first | assumption | wp_step))
      refine codeAny_mono (codeAny_call_builtin (R := wants (fun r s₂ => r = .none ∧ Q obj s₂) E) ft.init.plain F.entry_object_init (ft.init.check _ _ _ _ _ _ _ _ hT (F.args_object_init_2 obj _) (gi prog w _ _ s₁ ⟨hT, rfl, hq⟩))) fun r₂ s₂ hr₂ => ?_
      cases r₂ with
      | error e => exact hr₂
      | ok fl₂ =>
        cases fl₂ with
        | ret r =>
          obtain ⟨rfl, hq⟩ := hr₂
          repeat (any_goals (first | assumption | wp_step))
        | _ => exact hr₂.elim
    | _ => exact hr.elim
end
end Mine

end

noncomputable section
open Builtin Builtin.Str
namespace Mine
section
variable {prog : Program} {w : World} {hb : Heap} {sc : Sh} {k : Nat} {ρ : Ren} {μ : Mem} {Φ : Dat → Mem → Prop} {mN mg mb : Str → Option Value} {f : Addr} {of : Obj}
/-- str(acc) -/
theorem WpE.accStr {arg : Expr} {np pos : Pos} {y : Option Value} (C : AccNames hb mN) (hB : typeLookup (.type "list") "__str__" = pure y) (hf : mN "__str__" = some (.ref f)) (hfo : hb.get? f = some of) (hfc : of.cls = .type "function") (G : hb.Ns mainGlobals mg) (B : hb.Ns builtinsNs mb) (hm : mg "str" = Option.none) (hv : mb "str" = some (.type "str"))
    (h : WpE prog w hb sc (k + 2) arg ρ μ (fun d μ₁ => ∃ a dx sz ds x, d = .obj a ∧ (a, MO.acc dx sz ds) ∈ μ₁ ∧ WpC prog w hb k f [.obj a] μ₁ (fun d' μ' => d' = .str x ∧ Φ (.str x) μ')))
    (hk : sc.names.lookup ("str" : Str) = some .globalImplicit := by rfl) (he : ∀ env, starEach [arg] env = [(false, eval arg env)] := by intro _; rfl) : WpE prog w hb sc (k + 2) (.Call (.Name "str" np) [arg] [] pos) ρ μ Φ := by
  intro env A s E c en y'
  refine ⟨fun Q hQ => ?_⟩
  refine Call_name1 (he env) (ev_builtin en y' G B hm hv ?_ hk)
  refine PySem.callWith_type rfl (Calls.evalArgs_plain (Calls.spliced_cons ((h env A s E c en y').run _ fun v d μ₁ s₁ h₁ r₁ y₁ f₁ => Calls.spliced_nil ?_)))
  obtain ⟨a, dx, sz, ds, x, rfl, hmem, hc⟩ := h₁
  cases r₁
  obtain ⟨vs, kk, ho, _⟩ := id (y₁.mem _ hmem)
  refine str_call ?_
  unfold Builtin.Str.strOf
  refine wpAny_bind (m := cRoomFor _ _) (wpAny_cRoomFor c.in1.in1.u ?_)
  refine wpAny_bind (m := callSpecial? (.ref a) (Str.ofString "__str__")) (acc_special_fn (C.X.keeps y₁.base) (isAcc ho) hB hf (y₁.base _ _ hfo) hfc ?_)
  refine (hc A.in1.in1 s₁ [.ref a] E c.in1.in1 y₁ (.cons (.obj a) .nil)).run _ fun v' d' μ' s' a1 a2 a3 a4 => ?_
  obtain ⟨rfl, hΦ⟩ := a1
  cases a2 with
  | str _ t =>
    refine wpAny_bind (m := asStr? (.str x t)) (wpAny_of_eq (a := some x) rfl ?_)
    exact wpAny_pure ⟨typeIs_str _ _ _, hQ _ _ μ' _ hΦ (.str _ _) a3 (f₁.trans a4)⟩
end
end Mine

end

noncomputable section
namespace Mine
theorem rev_lookup {x : Str} {v : Value} : ∀ (l : List (Str × Value)), (l.map (·.1)).Nodup → (x, v) ∈ l → l.reverse.lookup x = some v := by
  intro l hn hm
  refine lookup_of_mem ?_ (List.mem_reverse.mpr hm)
  rw [List.map_reverse]
  exact (List.reverse_perm _).nodup_iff.mpr hn
section
variable {prog : Program} {w : World} {hb : Heap} {k : Nat} {μ : Mem} {Φ : Dat → Mem → Prop}
/-- a def with default values or a closure, no cells of its own -/
theorem WpC.fnD {fa : Addr} {o : Obj} {fd : FuncData} {body : List Stmt} {ds dds : List Dat} (sc : Sh) (names : List Str) (dvs : List Value) (ho : hb.get? fa = some o) (hd : o.data = .func fd) (hbody : fd.body = .stmts body)
    (lim : hb.NoLimit) (hcd : hb.CodeRec sc.code fd.qualname) (hdv : ∀ X h, RdA X h dvs dds) (hbind : ∀ (s : Shared) (vs : List Value), (∀ b o, hb.get? b = some o → s.heap.get? b = some o) → vs.length = ds.length → BindsTo s fd ⟨vs, []⟩ (names.zip (vs ++ dvs)))
    (h : WpS prog w hb sc k body (names.zip (ds ++ dds)) μ (fun af _ μ' => Φ (retD af) μ'))
    (hsc : sc = ⟨fd.scope.names, fd.code⟩ := by rfl) (hnd : nodupB names = true := by rfl) (hloc : (names.all fun x => sc.names.lookup x == some .local) = true := by rfl) (hnc : (sc.names.all fun p => p.2 != .cell) = true := by rfl) (hlen : names.length = ds.length + dds.length := by rfl)
    (hfree : ∀ x, sc.names.lookup x = some .free → (fd.closure.lookup x).isSome = true) (hap : fd.closure.Pairwise fun x y => x.2 ≠ y.2)
    (hglob : fd.globals = mainGlobals := by rfl) (hbi : fd.builtins = builtinsNs := by rfl)
    (hco : fd.scope.isCoroutine = false := by rfl) (hgen : fd.scope.isGenerator = false := by rfl) (hk : fd.scope.kind = .function := by rfl) : WpC prog w hb (k + 1) fa ds μ Φ := by
  subst hsc
  intro A s vs E c y r
  refine ⟨fun Q hQ => ?_⟩
  have hnd := nodupB_ok hnd
  have hvl : vs.length = ds.length := r.length
  have hdl : dvs.length = dds.length := (hdv [] s.heap).length
  have hz : (names.zip (vs ++ dvs)).map (·.1) = names := zip_names (by rw [List.length_append]; omega)
  have hl : ∀ x ∈ names, fd.scope.names.lookup x = some .local := fun x hx => by
    have := List.all_eq_true.mp hloc x hx
    simpa using this
  have hcell : ∀ x ∈ fd.scope.names, x.2 ≠ .cell := fun x hx => by
    have := List.all_eq_true.mp hnc x hx
    simpa using this
  refine wpAny_call (codeAny_call_def (fd := fd) (binds := names.zip (vs ++ dvs)) c.room (y.base _ _ ho) hd (lim.keeps y.base) (hcd.keeps y.base) hbody (hbind s vs y.base hvl) hcell (fun x hx => hl _ (List.of_mem_zip hx).1) (fun h₀ ns kp => ?_) hco hgen hk)
  have g₁ : Fw (dom μ) (dom μ) s { s with heap := h₀, toks := s.toks + (names.zip (vs ++ dvs)).length } := Fw.keeps kp
  have r₁ := (r.step g₁).append (hdv (dom μ) h₀)
  have nin : s.heap.objs.size ∉ dom μ := not_dom y
  have e₁ : EnvOk hb ⟨fd.scope.names, fd.code⟩ (callEnv fd s.heap.objs.size fa) (names.zip (ds ++ dds)) (dom μ) h₀ := by
    refine ⟨rfl, hk, rfl, hglob, hbi, nin, base_none y (Nat.le_refl _), fun x c hx _ => absurd rfl (hcell _ (mem_of_lookup hx)), hap, fun x hx => ?_, _, ns, fun x d hx => ?_⟩
    · rcases hx with hx | hx
      · exact absurd rfl (hcell _ (mem_of_lookup hx))
      · exact hfree x hx
    · obtain ⟨v, hv, rv⟩ := zip_mem r₁ hx
      exact .inl ⟨hl x (List.of_mem_zip hv).1, v, rev_lookup _ (by rw [hz]; exact hnd) hv, rv⟩
  refine (h _ _ _ _ (c.deeper _) e₁ (y.keeps kp)).run _ fun f af ρ' μ' s' a1 a2 a3 a4 a5 => ?_
  have hown : ∀ x ∈ own ⟨fd.scope.names, fd.code⟩ (callEnv fd s.heap.objs.size fa), x = s.heap.objs.size := fun x hx => by
    rcases own_mem hx with q | ⟨n, h1, _⟩
    · exact q
    · exact absurd rfl (hcell _ (mem_of_lookup h1))
  refine hQ _ _ μ' s' a1 a2.ret a4 ⟨fun b o' hb' e => a5.keep b o' (fun hm => ?_) (kp b o' e), fun a ha => ?_, a5.os, a5.gens⟩
  · rcases List.mem_append.mp hm with hm | hm
    · rw [hown b hm, fresh_size] at e; cases e
    · exact hb' hm
  · rcases a5.dom a (List.mem_append_right _ ha) with hm | hm
    · rcases List.mem_append.mp hm with hm | hm
      · right; rw [hown a hm]; exact fresh_size
      · exact .inl hm
    · right
      cases q : s.heap.get? a with
      | none => rfl
      | some o' => have := kp a o' q; rw [this] at hm; cases hm
end
end Mine

end

noncomputable section
namespace Mine
/-! super().name(..) where the name is a slot of list. -/
noncomputable abbrev wrapObj (id : String) (a : Addr) : Obj := { cls := .type "method-wrapper", data := .fields #[.builtin id, .ref a] }
noncomputable abbrev superObj (a : Addr) : Obj := { cls := .type "super", dict := none, data := .fields #[.ref accC, .ref a, .ref accC], slots := #[] }
theorem slot_wd_get : Slot "wrapper_descriptor" "__get__" "wrapper_descriptor.__get__" := .of (owner := "wrapper_descriptor") (n := "__get__") (by rw [typeLookup_type, builtinLookup_eq_fast]; kernel_rfl) (by decide +kernel) (by decide +kernel) (by decide +kernel)
  (by first | exact .inl (by decide +kernel) | exact .inr (by decide +kernel)) (by rw [isSubtype_type]; kernel_rfl)
theorem entry_wd_get : entryFor table "wrapper_descriptor.__get__" = some Builtin.«wrapper_descriptor.__get__» := entryFor_of_tree (by kernel_rfl)
theorem args_wd_get (a b c : Value) : argsOk "wrapper_descriptor.__get__" ⟨[a, b, c], []⟩ := by unfold argsOk; kernel_rfl
theorem typ_len : typeOf (.builtin "list.__len__") = pure (.type "wrapper_descriptor") := by show builtinType _ = _; rw [builtinType_eq_fast]; kernel_rfl
theorem typ_init : typeOf (.builtin "list.__init__") = pure (.type "wrapper_descriptor") := by show builtinType _ = _; rw [builtinType_eq_fast]; kernel_rfl
theorem own_len : classOwn (.type "list") "__len__" = pure (some (.builtin "list.__len__")) := by show pure (builtinOwn _ _) = _; rw [builtinOwn_eq_fast]; kernel_rfl
theorem own_init : classOwn (.type "list") "__init__" = pure (some (.builtin "list.__init__")) := by show pure (builtinOwn _ _) = _; rw [builtinOwn_eq_fast]; kernel_rfl
section
variable {prog : Program} {w : World} {M : Model} {A : Around} {E : Value → Shared → Prop} {s : Shared} {mN : Str → Option Value} {a : Addr}
theorem wd_get {id : String} {P : PySem.Fin → Shared → Prop} (hid : id = "list.__len__" ∨ id = "list.__init__") (X : AccCls s.heap mN) (I : IsAcc s.heap a) (h : P (.done (.ret (.ref s.heap.objs.size))) { s with heap := s.heap.push (wrapObj id a) }) :
    wpAny M A (Builtin.«wrapper_descriptor.__get__» ⟨[.builtin id, .ref a, .ref accC], []⟩) P E s := by
  unfold Builtin.«wrapper_descriptor.__get__»
  refine wpAny_bind (wpAny_of_eq (a := (.builtin id, some (.ref a), some (.ref accC))) rfl ?_)
  refine wpAny_bind ?_
  rcases hid with rfl | rfl
  · refine wpAny_bind (wpAny_of_eq (a := (Str.ofString "__len__", .type "list")) (by kernel_rfl) ?_)
    refine wpAny_bind ?_
    simp only [isInstance]
    refine wpAny_bind (acc_typeOf I (acc_isSub X ?_))
    exact wpAny_pure (wpAny_bind (wpAny_newObj_type (wpAny_pure h)))
  · refine wpAny_bind (wpAny_of_eq (a := (Str.ofString "__init__", .type "list")) (by kernel_rfl) ?_)
    refine wpAny_bind ?_
    simp only [isInstance]
    refine wpAny_bind (acc_typeOf I (acc_isSub X ?_))
    exact wpAny_pure (wpAny_bind (wpAny_newObj_type (wpAny_pure h)))

theorem acc_mro {Q : List Value → Shared → Prop} (X : AccCls s.heap mN) (hq : Q [.ref accC, .type "list", .type "object"] s) : wpAny M A (mroOf (.ref accC)) Q E s := by
  obtain ⟨nm, q, bs, sn, sub, ab, col, dd, k0, k1, k2, k3, k5, e⟩ := X.obj
  obtain ⟨hp, g, d, t, os⟩ := s
  exact wpAny_mroOf_exc e hq
end
section
variable {prog : Program} {w : World} {A : Around} {E : Value → Shared → Prop} {h : Heap} {g : Array GenState} {d : Drawn} {t : Nat} {os : OsState} {mN : Str → Option Value} {a so : Addr}
theorem acc_super_ga {name : Str} {id : String} {tk : Tok} {Q : PySem.Fin → Shared → Prop} (hid : id = "list.__len__" ∨ id = "list.__init__") (hown : classOwn (.type "list") name = pure (some (.builtin id))) (htyp : typeOf (.builtin id) = pure (.type "wrapper_descriptor")) (hn : (name == ("__class__" : Str)) = false)
    (hso : h.get? so = some (superObj a)) (hno : Looks (model prog w) h (opaqueClassAbove (.ref accC)) none) (X : AccCls h mN) (I : IsAcc h a) (hac : a ≠ accC)
    (hq : Q (.done (.ret (.ref h.objs.size))) ⟨h.push (wrapObj id a), g, d, t, os⟩) :
    wpAny (model prog w) A (Builtin.«super.__getattribute__» ⟨[.ref so, .str name tk], []⟩) Q E ⟨h, g, d, t, os⟩ := by
  have hlk := slot_wd_get.lookup
  have hne : (Value.ref a == Value.ref accC) = false := by simp [hac]
  have hdt : (superObj a).data = .fields #[.ref accC, .ref a, .ref accC] := rfl
  have f0 : (#[.ref accC, .ref a, .ref accC] : Array Value)[0]? = some (.ref accC) := rfl
  have f1 : (#[.ref accC, .ref a, .ref accC] : Array Value)[1]? = some (.ref a) := rfl
  have f2 : (#[.ref accC, .ref a, .ref accC] : Array Value)[2]? = some (.ref accC) := rfl
  have hl : (([.ref accC, .type "list", .type "object"] : List Value).dropWhile (· != .ref accC)).drop 1 = [.type "list", .type "object"] := by simp
  unfold Builtin.«super.__getattribute__»
  repeat (first
    | (with_reducible refine wpAny_field hso hdt f0 ?_) | (with_reducible refine wpAny_field hso hdt f1 ?_) | (with_reducible refine wpAny_field hso hdt f2 ?_)
    | (with_reducible refine ks_wpAny_notOpaque hno ?_)
    | (with_reducible refine acc_mro (s := ⟨h, g, d, t, os⟩) X ?_; rw [hl, List.forIn_cons])
    | (with_reducible refine wpAny_of_eq hown ?_)
    | (with_reducible refine wpAny_of_eq htyp ?_)
    | ((with_reducible show wpAny _ _ (call _ _) _ _ _); refine wpAny_call_entry slot_wd_get htyp entry_wd_get ?_ (args_wd_get _ _ _))
    | ((with_reducible show wpAny _ _ (Builtin.«wrapper_descriptor.__get__» _) _ _ _); refine wd_get (s := ⟨h, g, d, t, os⟩) hid X I ?_)
    | (with_reducible refine ⟨_, rfl, ?_⟩)
    | (simp only [hn, hne, Bool.or_false, Bool.false_eq_true, if_false])
    | wp_step
    | dsimp only)
  all_goals exact hq
end
end Mine

end

noncomputable section
namespace Mine
section
variable {prog : Program} {w : World} {A : Around} {E : Value → Shared → Prop} {h : Heap} {g : Array GenState} {d : Drawn} {t : Nat} {os : OsState} {mN : Str → Option Value} {a so : Addr}
theorem acc_super_get {name : Str} {id : String} {pl : Sem Bool} {Q : Value × List Value → Shared → Prop} (hid : id = "list.__len__" ∨ id = "list.__init__") (hown : classOwn (.type "list") name = pure (some (.builtin id))) (htyp : typeOf (.builtin id) = pure (.type "wrapper_descriptor")) (hn : (name == ("__class__" : Str)) = false)
    (hso : h.get? so = some (superObj a)) (hno : Looks (model prog w) h (opaqueClassAbove (.ref accC)) none) (X : AccCls h mN) (I : IsAcc h a) (hac : a ≠ accC)
    (hq : Q (.ref h.objs.size, []) ⟨h.push (wrapObj id a), g, d, t + 1, os⟩) :
    wpAny (model prog w) A (getMethod (.ref so) name pl) Q E ⟨h, g, d, t, os⟩ := by
  have hlk := F.ks_slot_super_ga.lookup
  have hcan := F.ks_canon_super_ga
  have hT : ∀ t', (⟨h, g, d, t', os⟩ : Shared).TypeIs (.ref so) "super" := fun _ => ⟨_, hso, rfl⟩
  unfold getMethod
  refine wpAny_bind (wpAny_specialOf (hT _) hlk ?_)
  show wpAny _ _ (if (Manifest.canonical "super.__getattribute__" != "object.__getattribute__") = true then _ else _) _ _ _
  rw [if_pos hcan]
  unfold getAttr getAttrBy
  refine wpAny_bind (wpAny_bind (wpAny_mkText (wpAny_holding (wpAny_bind (wpAny_typeOf (hT _) (wpAny_bind (wpAny_of_eq hlk ?_)))))))
  show wpAny _ _ (getAttrByItsOwn (.ref so) (.str name t) (.type "super") (.builtin "super.__getattribute__") true false) _ _ _
  unfold getAttrByItsOwn hookBefore callGetattribute boundAndCalled
  refine wpAny_bind (wpAny_of_eq (show (if onTheHeap (.type "super") then typeLookup (.type "super") "__getattr__" else pure none) = pure none from rfl) ?_)
  refine wpAny_bind (wpAny_attempt (wpAny_holding ?_))
  show wpAny _ _ (bindSpecial (.builtin "super.__getattribute__") (.ref so) >>= _) _ _ _
  refine wpAny_bind (wpAny_of_eq (F.ks_slot_super_ga.bind _) ?_)
  refine wpAny_mono (Q := fun v s' => v = .ref h.objs.size ∧ s' = ⟨h.push (wrapObj id a), g, d, t + 1, os⟩) (E := fun _ _ => False)
    (wpAny_call_entry F.ks_slot_super_ga (hT _) F.ks_entry_super_ga (acc_super_ga hid hown htyp hn hso hno X I hac ⟨_, rfl, rfl, rfl⟩) (F.ks_gaArgs_super _ _)) (fun v s' hv => ?_) fun _ _ z => z.elim
  obtain ⟨rfl, rfl⟩ := hv
  exact wpAny_pure (wpAny_pure hq)
end
section
variable {prog : Program} {w : World} {A : Around} {E : Value → Shared → Prop} {s : Shared} {mN : Str → Option Value} {a : Addr}
/-- a call of such a method, no arguments -/
theorem wrap_call {id : String} {b : Builtin} {q : Addr} {Q : Value → Shared → Prop} (hq : s.heap.get? q = some (wrapObj id a)) (hchk : checkBoundCall id ⟨[.ref a], []⟩ = pure ()) (hpl : plainId id = true) (hb : entryFor table id = some b)
    (h : wpAny (model prog w) A.in1 (b ⟨[.ref a], []⟩) (fun fin s' => ∃ v, fin = .done (.ret v) ∧ Q v s') E s) : wpAny (model prog w) A (call (.ref q) []) Q E s := by
  refine wpAny_call (codeAny_of_tree ?_)
  show wpAny _ _ (callAny (.ref q) _) _ _ _
  unfold callAny
  refine wpAny_bind (wpAny_load hq ?_)
  simp only [show (Value.type "method-wrapper" == Value.type "method" || Value.type "method-wrapper" == Value.type "builtin_function_or_method" || Value.type "method-wrapper" == Value.type "method-wrapper") = true by decide, show (Value.type "method-wrapper" != Value.type "method") = true by decide, if_true]
  refine wpAny_bind (wpAny_of_eq hchk ?_)
  refine wpAny_pure ⟨plainId_quiet hpl _, codeAny_builtin hb ?_⟩
  rw [Around.under_plainId hpl _]
  refine wpAny_mono h (fun fin s' h' => ?_) fun _ _ e => e
  obtain ⟨v, rfl, hv⟩ := h'
  exact hv
theorem wrap_callWith {id : String} {q : Addr} {pos : Pos} {env : Env} {Q : Value → Shared → Prop} (hq : s.heap.get? q = some (wrapObj id a)) (h : wpAny (model prog w) A (call (.ref q) []) Q E s) : wpAny (model prog w) A (callWith pos (.ref q) [] (backTo pos (starEach [] env)) []) Q E s := by
  show wpAny _ A (callWith pos (.ref q) [] [] []) Q E s
  unfold callWith
  refine wpAny_bind (wpAny_holding (PyProof.Rows.evalArgs_none (wpAny_bind (wpAny_standAt ?_))))
  refine wpAny_bind (m := keeperOf (.ref q)) ?_
  unfold keeperOf
  refine wpAny_bind (wpAny_load hq ?_)
  simp only [wrapObj, show (Value.type "method-wrapper" != Value.type "method") = true by decide, show (Value.type "method-wrapper" == Value.type "builtin_function_or_method" || Value.type "method-wrapper" == Value.type "method-wrapper") = true by decide, if_true]
  refine wpAny_pure ?_
  exact wpAny_bind (wpAny_mono h (fun r s₂ hr => wpAny_bind (wpAny_holding (wpAny_point (wpAny_pure hr)))) fun _ _ x => x)
end
end Mine

end

noncomputable section
namespace Mine
section
variable {prog : Program} {w : World} {A : Around} {E : Value → Shared → Prop} {s : Shared} {mN : Str → Option Value} {a dx : Addr} {xs : Array Value} {n : Nat}
theorem acc_listLen {Q : Value → Shared → Prop} (ho : s.heap.get? a = some (accObj dx xs n)) (h : Q (.int xs.size s.toks) { s with toks := s.toks + 1 }) :
    wpAny (model prog w) A (Builtin.«list.__len__» ⟨[.ref a], []⟩) (fun fin s' => ∃ v, fin = .done (.ret v) ∧ Q v s') E s := by
  unfold Builtin.«list.__len__»
  refine wpAny_bind (m := slotArgs _ _ _) (wpAny_of_eq (a := (Value.ref a, [])) rfl ?_)
  refine wpAny_bind ?_
  unfold seqSize
  refine wpAny_bind (wpAny_load ho (wpAny_pure ?_))
  exact wpAny_bind (wpAny_mkInt (wpAny_pure ⟨_, rfl, h⟩))
theorem acc_listInit {Q : Value → Shared → Prop} (ho : s.heap.get? a = some (accObj dx xs n)) (hz : xs.size ≤ sizeLine) (h : ∀ h' n', h'.get? a = some (accObj dx #[] n') → Heap.SameBut a s.heap h' → Q .none { s with heap := h' }) :
    wpAny (model prog w) A (Builtin.«list.__init__» ⟨[.ref a], []⟩) (fun fin s' => ∃ v, fin = .done (.ret v) ∧ Q v s') E s := by
  unfold Builtin.«list.__init__»
  refine wpAny_bind (m := Builtin.List.listItems (.ref a)) ?_
  unfold Builtin.List.listItems
  refine wpAny_bind (wpAny_seqItems ho rfl (wpAny_pure ?_))
  refine wpAny_bind (m := updateSeq a _) (acc_update (f := fun _ => #[]) ho hz (by simp) fun h' n' e1 e2 => ?_)
  refine wpAny_bind (wpAny_letGo ?_)
  exact wpAny_pure ⟨.none, rfl, h h' n' e1 e2⟩
end
end Mine

end

noncomputable section
namespace Mine
section
variable {prog : Program} {w : World} {hb : Heap} {k : Nat} {μ : Mem} {Φ : Dat → Mem → Prop}
/-- a def with default values or a closure, no cells of its own; its own activation is known -/
theorem WpC.fnAt {fa : Addr} {o : Obj} {fd : FuncData} {body : List Stmt} {ds dds : List Dat} (sc : Sh) (names : List Str) (dvs : List Value) (ho : hb.get? fa = some o) (hd : o.data = .func fd) (hbody : fd.body = .stmts body)
    (lim : hb.NoLimit) (hcd : hb.CodeRec sc.code fd.qualname) (hdv : ∀ X h, RdA X h dvs dds) (hbind : ∀ (s : Shared) (vs : List Value), (∀ b o, hb.get? b = some o → s.heap.get? b = some o) → vs.length = ds.length → BindsTo s fd ⟨vs, []⟩ (names.zip (vs ++ dvs)))
    (h : ∀ (A : Around) (s : Shared) (E : Value → Shared → Prop) (L : Addr), Calm k A → EnvOk hb sc (callEnv fd L fa) (names.zip (ds ++ dds)) (dom μ) s.heap → Ok hb μ s → ∀ Q : Flow → Shared → Prop,
      (∀ f d μ' s', Φ d μ' → Rd (dom μ') s'.heap (match f with | .ret v => v | _ => .none) d → Ok hb μ' s' → Fw (own sc (callEnv fd L fa) ++ dom μ) (own sc (callEnv fd L fa) ++ dom μ') s s' → Q f s') →
      _root_.PySem.wpAt (model prog w) A (.func body (callEnv fd L fa)) (execs body (callEnv fd L fa)) Q E s)
    (hsc : sc = ⟨fd.scope.names, fd.code⟩ := by rfl) (hnd : nodupB names = true := by rfl) (hloc : (names.all fun x => sc.names.lookup x == some .local) = true := by rfl) (hnc : (sc.names.all fun p => p.2 != .cell) = true := by rfl) (hlen : names.length = ds.length + dds.length := by rfl)
    (hfree : ∀ x, sc.names.lookup x = some .free → (fd.closure.lookup x).isSome = true) (hap : fd.closure.Pairwise fun x y => x.2 ≠ y.2)
    (hglob : fd.globals = mainGlobals := by rfl) (hbi : fd.builtins = builtinsNs := by rfl)
    (hco : fd.scope.isCoroutine = false := by rfl) (hgen : fd.scope.isGenerator = false := by rfl) (hk : fd.scope.kind = .function := by rfl) : WpC prog w hb (k + 1) fa ds μ Φ := by
  subst hsc
  intro A s vs E c y r
  refine ⟨fun Q hQ => ?_⟩
  have hnd := nodupB_ok hnd
  have hvl : vs.length = ds.length := r.length
  have hdl : dvs.length = dds.length := (hdv [] s.heap).length
  have hz : (names.zip (vs ++ dvs)).map (·.1) = names := zip_names (by rw [List.length_append]; omega)
  have hl : ∀ x ∈ names, fd.scope.names.lookup x = some .local := fun x hx => by
    have := List.all_eq_true.mp hloc x hx
    simpa using this
  have hcell : ∀ x ∈ fd.scope.names, x.2 ≠ .cell := fun x hx => by
    have := List.all_eq_true.mp hnc x hx
    simpa using this
  refine wpAny_call (ks_codeAny_call_defAt (fd := fd) (binds := names.zip (vs ++ dvs)) c.room (y.base _ _ ho) hd (lim.keeps y.base) (hcd.keeps y.base) hbody (hbind s vs y.base hvl) hcell (fun x hx => hl _ (List.of_mem_zip hx).1) (fun h₀ ns kp => ?_) hco hgen hk)
  have g₁ : Fw (dom μ) (dom μ) s { s with heap := h₀, toks := s.toks + (names.zip (vs ++ dvs)).length } := Fw.keeps kp
  have r₁ := (r.step g₁).append (hdv (dom μ) h₀)
  have nin : s.heap.objs.size ∉ dom μ := not_dom y
  have e₁ : EnvOk hb ⟨fd.scope.names, fd.code⟩ (callEnv fd s.heap.objs.size fa) (names.zip (ds ++ dds)) (dom μ) h₀ := by
    refine ⟨rfl, hk, rfl, hglob, hbi, nin, base_none y (Nat.le_refl _), fun x c hx _ => absurd rfl (hcell _ (mem_of_lookup hx)), hap, fun x hx => ?_, _, ns, fun x d hx => ?_⟩
    · rcases hx with hx | hx
      · exact absurd rfl (hcell _ (mem_of_lookup hx))
      · exact hfree x hx
    · obtain ⟨v, hv, rv⟩ := zip_mem r₁ hx
      exact .inl ⟨hl x (List.of_mem_zip hv).1, v, rev_lookup _ (by rw [hz]; exact hnd) hv, rv⟩
  refine h _ _ _ _ (c.deeper _) e₁ (y.keeps kp) _ fun f d μ' s' a1 a2 a4 a5 => ?_
  have hown : ∀ x ∈ own ⟨fd.scope.names, fd.code⟩ (callEnv fd s.heap.objs.size fa), x = s.heap.objs.size := fun x hx => by
    rcases own_mem hx with q | ⟨n, h1, _⟩
    · exact q
    · exact absurd rfl (hcell _ (mem_of_lookup h1))
  refine hQ _ _ μ' s' a1 a2 a4 ⟨fun b o' hb' e => a5.keep b o' (fun hm => ?_) (kp b o' e), fun a ha => ?_, a5.os, a5.gens⟩
  · rcases List.mem_append.mp hm with hm | hm
    · rw [hown b hm, fresh_size] at e; cases e
    · exact hb' hm
  · rcases a5.dom a (List.mem_append_right _ ha) with hm | hm
    · rcases List.mem_append.mp hm with hm | hm
      · right; rw [hown a hm]; exact fresh_size
      · exact .inl hm
    · right
      cases q : s.heap.get? a with
      | none => rfl
      | some o' => have := kp a o' q; rw [this] at hm; cases hm

/-- what the program says of itself that super() asks -/
structure PSup (prog : Program) (file : Str) : Prop where
  file : ((prog.main.file : Str) == file) = true
  top : (prog.main.scope.names.lookup ("super" : Str)).isSome = false

variable {mN mg mb : Str → Option Value}
theorem acc_superBase {A : Around} {E : Value → Shared → Prop} {s : Shared} {sc : Sh} {ρ : Ren} {body : List Stmt} {p0 p1 : Pos} {attr : Str} {whole : Sem Value} {fd : FuncData} {fa L a dx cc cl : Addr} {of oc : Obj} {sz : Option Int} {ds : List Dat} {vs : Array Value} {file : Str} {tf : Tok} {ar : Arg} {Q : Value → Shared → Prop}
    (en : EnvOk hb sc (callEnv fd L fa) ρ (dom μ) s.heap) (y : Ok hb μ s) (P : PSup prog file) (C : AccNames hb mN) (G : hb.Ns mainGlobals mg) (B : hb.Ns builtinsNs mb) (hm : mg "super" = none) (hv : mb "super" = some (.type "super"))
    (hself : ρ.lookup ar.arg = some (.obj a)) (hmem : (a, MO.acc dx sz ds) ∈ μ) (hof : hb.get? fa = some of) (hfd : of.data = .func fd) (hp : (fd.params.posonlyargs ++ fd.params.args).head? = some ar)
    (hcc : fd.code = .ref cc) (hoc : hb.get? cc = some oc) (hod : oc.data = .fields vs) (hvs : vs[2]? = some (.str file tf)) (hclo : fd.closure = [(("__class__" : Str), cl)]) (hcell : hb.IsCell cl (some (.ref accC)))
    (hQ : ∀ so s', s'.heap.get? so = some (superObj a) → EnvOk hb sc (callEnv fd L fa) ρ (dom μ) s'.heap → Ok hb μ s' → Fw (dom μ) (dom μ) s s' → Q (.ref so) s')
    (hks : sc.names.lookup ("super" : Str) = some .globalImplicit := by rfl) (hkc : sc.names.lookup ("__class__" : Str) = some .free := by rfl) (hka : sc.names.lookup ar.arg = some .local := by rfl) (hat : (attr == ("__class__" : Str)) = false := by rfl) :
    _root_.PySem.wpAt (model prog w) A (.func body (callEnv fd L fa)) (attributeBase (.Call (.Name "super" p0) [] [] p1) attr (callEnv fd L fa) whole) Q E s := by
  have hk : (callEnv fd L fa).scope.kind = .function := en.kind
  have kd : ∀ x, (callEnv fd L fa).kindOf x = sc.names.lookup x := fun x => by show (callEnv fd L fa).scope.names.lookup x = _; rw [en.scope]
  refine ks_wpAt_super_base (env := callEnv fd L fa) (by rw [kd]; exact hks) (by rw [kd]; exact hkc) hat rfl (y.base _ _ hof) hfd hp hcc (y.base _ _ hoc) hod hvs P.file P.top ?_
  have G' : s.heap.Ns (callEnv fd L fa).globals mg := by rw [en.glob]; exact G.keeps y.base
  have B' : s.heap.Ns (callEnv fd L fa).builtins mb := by rw [en.bi]; exact B.keeps y.base
  refine ks_loadName_global hk (by rw [kd]; exact hks) (Calls.loadGlobal_builtin G' hm B' hv ⟨rfl, ?_⟩)
  have hcl : (callEnv fd L fa).cells.lookup ("__class__" : Str) = some cl := by show fd.closure.lookup _ = _; rw [hclo]; rfl
  obtain ⟨ocl, hocl, hdcl⟩ := hcell
  refine wpAny_loadName_free hk (by rw [kd]; exact hkc) hcl ⟨ocl, y.base _ _ hocl, hdcl⟩ ?_
  obtain ⟨m, ns, hv2⟩ := en.vars
  obtain ⟨v, hmv, rv⟩ : ∃ v, m ar.arg = some v ∧ Rd (dom μ) s.heap v (.obj a) := by
    rcases hv2 _ _ hself with ⟨_, v, h2, h3⟩ | ⟨h1, _⟩
    · exact ⟨v, h2, h3⟩
    · rcases h1 with h1 | h1 <;> rw [hka] at h1 <;> cases h1
  cases rv
  refine wpAny_loadName_local hk (by rw [kd]; exact hka) ns hmv ?_
  obtain ⟨nm, q, bs, sn, sub, ab, col, dd, k0, k1, k2, k3, k5, eC⟩ := (C.X.keeps y.base).obj
  obtain ⟨vs2, kk, ho, _⟩ := id (y.mem _ hmem)
  obtain ⟨hp2, g, d, t, os⟩ := s
  refine ks_wpAny_isType_cls eC rfl ⟨rfl, ?_⟩
  refine ks_wpAny_call_super eC rfl ho rfl (fun c z => by cases z) (fun A Q E s k q => wpAny_isSubtype_exc (k _ _ eC) (by simpa using q)) fun h' e kp => ?_
  have f : Fw (dom μ) (dom μ) ⟨hp2, g, d, t, os⟩ ⟨h', g, d, t, os⟩ := Fw.keeps (s := ⟨hp2, g, d, t, os⟩) (tk := t) kp
  exact hQ _ _ e (en.step f) (y.keeps (tk := t) kp) f
end
end Mine

end

noncomputable section
namespace Mine
theorem Calm.creation {k : Nat} {A : Around} (c : Calm (k + 1) A) (C : Addr) (rest : List Value) : Calm k (A.under (.builtin "type.__call__" ⟨.ref C :: rest, []⟩)) := by
  refine ⟨c.han, ?_, ?_⟩
  · have h1 : (Code.builtin "type.__call__" ⟨.ref C :: rest, []⟩).weight = 1 := by rfl
    have := c.dep
    show A.depth + (Code.builtin "type.__call__" ⟨.ref C :: rest, []⟩).weight + k < _
    rw [h1]; omega
  · have h1 : (Code.builtin "type.__call__" ⟨.ref C :: rest, []⟩).cUnits = 1 := by rfl
    have := c.uni
    show A.units + (Code.builtin "type.__call__" ⟨.ref C :: rest, []⟩).cUnits + 40 * k + 200 < _
    rw [h1]; omega
theorem ln_kind : builtinKind "list.__new__" = some .builtinFn := by decide +kernel
theorem ln_split : splitId "list.__new__" = some ("list", "__new__") := by decide +kernel
theorem ln_row : Manifest.signature? "list.__new__" = some ⟨.any, "list", "list", .cls, [⟨"args", .varPos, false⟩, ⟨"kwargs", .varKw, false⟩]⟩ := by kernel_rfl
section
variable {prog : Program} {w : World} {A : Around} {E : Value → Shared → Prop} {h : Heap} {g : Array GenState} {d : Drawn} {t : Nat} {os : OsState} {mN : Str → Option Value} {f : Addr} {of : Obj}
theorem ln_check {M : Model} {rest : List Value} {Q : Unit → Shared → Prop} (X : AccCls h mN) (hq : Q () ⟨h, g, d, t, os⟩) : wpAny M A (checkBuiltinCall "list.__new__" ⟨.ref accC :: rest, []⟩) Q E ⟨h, g, d, t, os⟩ := by
  obtain ⟨nm, q, bs, sn, sub, ab, col, dd, k0, k1, k2, k3, k5, hC⟩ := id X.obj
  have hcont : (Value.ref accC :: [Value.type "list", Value.type "object"]).contains (.type "list") = true := by decide
  simp only [checkBuiltinCall, ln_kind, ln_split, ln_row]
  repeat (first | refine wpAny_loadPart_at hC ?_ | (refine wpAny_isSubtype_exc hC ?_; rw [hcont]) | refine wpAny_staticBase_exc hC ?_ | refine wpAny_madeBy_exc hC ?_ | simp only [bne_self_eq_false, Bool.false_eq_true, if_false] | wp_step)
  exact hq
theorem ln_new {rest : List Value} {R : Result → Shared → Prop} (X : AccCls h mN) (hq : R (.ok (.ret (.ref (h.objs.size + 1)))) ⟨(h.push { cls := .type "dict", data := .dict #[] 0 }).push (accObj h.objs.size #[] 0), g, d, t, os⟩) :
    codeAny (model prog w) A (.builtin "list.__new__" ⟨.ref accC :: rest, []⟩) R ⟨h, g, d, t, os⟩ := by
  obtain ⟨nm, q, bs, sn, sub, ab, col, dd, k0, k1, k2, k3, k5, hC⟩ := id X.obj
  have hcont : (Value.ref accC :: [Value.type "list", Value.type "object"]).contains (.type "list") = true := by decide
  refine codeAny_builtin_stack F.entry_list_new rfl fun p st => ?_
  have hown := owner_list_new
  simp only [hown]
  repeat (first | with_reducible refine wpAny_loadPart_at hC ?_ | (with_reducible refine wpAny_isSubtype_exc hC ?_; rw [hcont]) | wp_step)
  have e : (h.push { cls := .type "dict", data := .dict #[] 0 }).objs.size = h.objs.size + 1 := by simp
  rw [e]
  exact hq
theorem acc_new {rest : List Value} {Q : Value → Shared → Prop} (X : AccCls h mN) (hf : mN "__init__" = some (.ref f)) (hfo : h.get? f = some of) (hfc : of.cls = .type "function")
    (hc : wpAny (model prog w) (A.under (.builtin "type.__call__" ⟨.ref accC :: rest, []⟩)) (call (.ref f) (.ref (h.objs.size + 1) :: rest)) (fun v s' => v = .none ∧ Q (.ref (h.objs.size + 1)) s') E
      ⟨(h.push { cls := .type "dict", data := .dict #[] 0 }).push (accObj h.objs.size #[] 0), g, d, t, os⟩) :
    wpAny (model prog w) A (call (.ref accC) rest) Q E ⟨h, g, d, t, os⟩ := by
  obtain ⟨nm, q, bs, sn, sub, ab, col, dd, k0, k1, k2, k3, k5, hC⟩ := id X.obj
  have f1 := tc_lookup
  have f2 := tc_bind (.ref accC)
  have hT : (⟨h, g, d, t, os⟩ : Shared).TypeIs (.ref accC) "type" := ⟨_, hC, rfl⟩
  refine wpAny_call (codeAny_of_tree ?_)
  show wpAny _ _ (callAny (.ref accC) _) _ _ _
  repeat (any_goals (first | assumption | with_reducible refine wpAny_loadPart_at hC ?_ | wp_step))
  refine ⟨rfl, ?_⟩
  refine codeAny_call_builtin_at (Code.quiet_builtin _ (by decide +kernel)) entry_typeCall (wpAny_check_type_call_sub hC ?_)
  repeat (first | with_reducible refine wpAny_loadPart_at hC ?_ | with_reducible refine wpAny_madeBy_exc hC ?_ | wp_step)
  refine codeAny_call_builtin_code (Code.quiet_builtin _ (by decide +kernel)) (ln_check X (ln_new X ?_))
  show wpAny _ _ _ _ _ _
  have kp : ∀ b o, h.get? b = some o → ((h.push { cls := .type "dict", data := .dict #[] 0 }).push (accObj h.objs.size #[] 0)).get? b = some o := fun b o e => Heap.get?_push_of_some _ (Heap.get?_push_of_some _ e)
  have hget : ((h.push { cls := .type "dict", data := .dict #[] 0 }).push (accObj h.objs.size #[] 0)).get? (h.objs.size + 1) = some (accObj h.objs.size #[] 0) := by heap_get
  have X2 := X.keeps kp
  have I2 : IsAcc ((h.push { cls := .type "dict", data := .dict #[] 0 }).push (accObj h.objs.size #[] 0)) (h.objs.size + 1) := ⟨_, hget, rfl⟩
  have hcC : (Value.ref accC :: [Value.type "list", Value.type "object"]).contains (.ref accC) = true := by simp
  unfold isInstance
  refine wpAny_bind (wpAny_bind (acc_typeOf I2 (wpAny_isSubtype_exc (kp _ _ hC) ?_)))
  rw [hcC]
  simp only [Bool.not_true, Bool.false_eq_true, if_false]
  refine wpAny_bind (wpAny_holding (acc_special_fn X2 I2 (PySem.F.slot_list_init.lookup) hf (kp _ _ hfo) hfc (wpAny_mono hc (fun v s' hv => ?_) fun _ _ e => e)))
  obtain ⟨rfl, hQ⟩ := hv
  exact wpAny_pure hQ
end
end Mine

end

noncomputable section
namespace Mine
noncomputable abbrev accPush (h : Heap) : Heap := (h.push { cls := .type "dict", data := .dict #[] 0 }).push (accObj h.objs.size #[] 0)
theorem accPush_keeps (h : Heap) : ∀ b o, h.get? b = some o → (accPush h).get? b = some o := fun _ _ e => Heap.get?_push_of_some _ (Heap.get?_push_of_some _ e)
theorem accPush_acc (h : Heap) : (accPush h).get? (h.objs.size + 1) = some (accObj h.objs.size #[] 0) := by heap_get
theorem accPush_dict (h : Heap) : (accPush h).get? h.objs.size = some { cls := .type "dict", data := .dict #[] 0 } := by heap_get
theorem Ok.pushAcc {hb : Heap} {μ : Mem} {s : Shared} {tk : Nat} (y : Ok hb μ s) : Ok hb ((s.heap.objs.size + 1, .acc s.heap.objs.size none []) :: μ) { s with heap := accPush s.heap, toks := tk } := by
  have kp := accPush_keeps s.heap
  have y' := y.keeps (tk := tk) kp
  have n0 : s.heap.objs.size ∉ dom μ := not_dom y
  have n1 : s.heap.objs.size + 1 ∉ dom μ := fun hm => absurd (dom_lt y hm) (Nat.not_lt.mpr (Nat.le_succ _))
  refine ⟨y'.base, fun a ha => ?_, fun q hq => ?_, ?_, y.bare, fun c ps a ha => ?_⟩
  · simp only [dom, MO.more, List.cons_append, List.nil_append, List.mem_cons] at ha
    rcases ha with rfl | rfl | ha
    · exact base_none y (Nat.le_succ _)
    · exact base_none y (Nat.le_refl _)
    · exact y.off a ha
  · rcases List.mem_cons.mp hq with rfl | hp'
    · exact ⟨[], 0, accPush_acc _, .nil, fun _ => none, ⟨_, _, _, accPush_dict _, rfl, (fun e he => by simp at he), by simp [UniqKeys], fun _ => rfl⟩, fun _ => rfl⟩
    · have m := (y.mem q hp').less (Y := dom ((s.heap.objs.size + 1, MO.acc s.heap.objs.size none []) :: μ)) fun b q hb' e hm => by
        simp only [dom, MO.more, List.cons_append, List.nil_append, List.mem_cons] at hm
        rcases hm with rfl | rfl | hm
        · exact absurd (Heap.lt_size e) (Nat.not_lt.mpr (Nat.le_succ _))
        · exact absurd (Heap.lt_size e) (Nat.lt_irrefl _)
        · exact hb' hm
      exact m.seq (.of_keeps kp) (fun q e => kp _ q e) (fun _ _ q e => kp _ q e) fun _ _ _ q e => kp _ q e
  · simp only [dom, MO.more, List.cons_append, List.nil_append]
    refine List.nodup_cons.mpr ⟨fun hm => ?_, List.nodup_cons.mpr ⟨n0, y.nodup⟩⟩
    rcases List.mem_cons.mp hm with e | hm
    · exact Nat.succ_ne_self _ e
    · exact n1 hm
  · rcases List.mem_cons.mp ha with e | ha
    · cases e
    · exact y.codes c ps a ha
theorem Fw.pushAcc {μ : Mem} {s : Shared} {tk : Nat} : Fw (Mine.dom μ) (Mine.dom ((s.heap.objs.size + 1, .acc s.heap.objs.size none []) :: μ)) s { s with heap := accPush s.heap, toks := tk } :=
  ⟨fun b o' _ e => accPush_keeps s.heap b o' e, fun a ha => by
    simp only [Mine.dom, MO.more, List.cons_append, List.nil_append, List.mem_cons] at ha
    rcases ha with rfl | rfl | ha
    · exact .inr (none_ge (Nat.le_succ _))
    · exact .inr fresh_size
    · exact .inl ha, rfl, fun h => h⟩
section
variable {M : Model} {A : Around} {E : Value → Shared → Prop} {s : Shared}
theorem evalArgs_nil {f : Value} {Q : Args → Shared → Prop} (h : wpAny M A (spliced []) (fun vs s' => Q ⟨vs, []⟩ s') E s) : wpAny M A (evalArgs f true [] []) Q E s := by
  unfold evalArgs
  show wpAny M A (spliced [] >>= _) Q E s
  refine wpAny_bind (wpAny_mono h (fun vs s' h' => ?_) fun _ _ x => x)
  refine wpAny_bind (wpAny_pure ?_)
  refine wpAny_holding ?_
  exact wpAny_bind (wpAny_pure (wpAny_bind (wpAny_pure (wpAny_pure h'))))
end
section
variable {prog : Program} {w : World} {hb : Heap} {sc : Sh} {k : Nat} {ρ : Ren} {μ : Mem} {Φ : Dat → Mem → Prop} {mN mg : Str → Option Value} {f : Addr} {of : Obj}
/-- a new accumulator -/
theorem WpE.accNew {x : Str} {np pos : Pos} {args : List Expr} (C : AccNames hb mN) (hf : mN "__init__" = some (.ref f)) (hfo : hb.get? f = some of) (hfc : of.cls = .type "function") (G : hb.Ns mainGlobals mg) (hx : mg x = some (.ref accC))
    (h : WpA prog w hb sc (k + 1) args pos ρ μ (fun ds μ₁ => ∀ a dx, a ∉ dom μ₁ → dx ∉ dom μ₁ → WpC prog w hb k f (.obj a :: ds) (μ₁ ++ [(a, .acc dx Option.none [])]) (fun d μ₂ => d = .none ∧ Φ (.obj a) μ₂)))
    (hev : ∀ (env : Env) (A : Around) (s : Shared) (Q : Args → Shared → Prop) (E : Value → Shared → Prop), wpAny (model prog w) A (spliced (backTo pos (starEach args env))) (fun vs s' => Q ⟨vs, []⟩ s') E s → wpAny (model prog w) A (evalArgs (.ref accC) true (backTo pos (starEach args env)) []) Q E s := by intro _ _ _ _ _ h; first | exact Calls.evalArgs_plain h | exact evalArgs_nil h)
    (hns : noStars args = true := by rfl) (hk : sc.names.lookup x = some .globalImplicit := by rfl) (hd : (x == ("__debug__" : Str)) = false := by rfl) : WpE prog w hb sc (k + 1) (.Call (.Name x np) args [] pos) ρ μ Φ := by
  intro env A s E c e y
  refine ⟨fun Q hQ => ?_⟩
  refine wpAny_Call_NameR ((WpE.glob (k := k + 1) (Φ := fun d μ' => d = .obj accC ∧ μ' = μ) G hx ⟨rfl, rfl⟩ hk hd env A s E c e y).run _ fun v₁ d₁ μ₁ s₁ h₁ r₁ y₁ f₁ => ?_)
  obtain ⟨rfl, rfl⟩ := h₁
  cases r₁
  unfold callWith
  refine wpAny_bind (wpAny_holding (hev _ _ _ _ _ ((h env A s₁ E c (e.step f₁) y₁).run _ fun vs ds μ₂ s₂ h₂ r₂ y₂ f₂ => wpAny_bind (wpAny_standAt ?_))))
  have X2 := C.X.keeps y₂.base
  obtain ⟨nm, q, bs, sn, sub, ab, col, dd, k0, k1, k2, k3, k5, hC⟩ := id X2.obj
  have hany := noStars_any (pos := pos) (env := env) hns
  simp only [hany, List.any_nil, Bool.or_false]
  have ft := (f₁.trans f₂).trans (Fw.pushAcc (tk := s₂.toks))
  have y3 := y₂.pushAcc (tk := s₂.toks)
  have hp : ((s₂.heap.objs.size + 1, MO.acc s₂.heap.objs.size Option.none []) :: μ₂).Perm (μ₂ ++ [(s₂.heap.objs.size + 1, MO.acc s₂.heap.objs.size Option.none [])]) := (List.perm_append_comm (l₁ := [(s₂.heap.objs.size + 1, MO.acc s₂.heap.objs.size Option.none [])]) (l₂ := μ₂))
  have n0 : s₂.heap.objs.size ∉ dom μ₂ := not_dom y₂
  have n1 : s₂.heap.objs.size + 1 ∉ dom μ₂ := fun hm => absurd (dom_lt y₂ hm) (Nat.not_lt.mpr (Nat.le_succ _))
  have r3 : RdA (dom (μ₂ ++ [(s₂.heap.objs.size + 1, MO.acc s₂.heap.objs.size Option.none [])])) (accPush s₂.heap) vs ds := (r₂.step (s' := { s₂ with heap := accPush s₂.heap }) (Fw.permR hp (Fw.pushAcc (tk := s₂.toks))))
  have key := h₂ _ _ n1 n0
  obtain ⟨hp2, g, d, t, os⟩ := s₂
  refine wpAny_bind (wpAny_keeperOf_exc hC ?_)
  refine wpAny_bind ?_
  refine acc_new X2 hf (y₂.base _ _ hfo) hfc ?_
  refine (key _ ⟨accPush hp2, g, d, t, os⟩ (.ref (hp2.objs.size + 1) :: vs) E (c.creation _ _) (y3.perm hp) (.cons (.obj _) r3)).run _ fun v' d' μ' s' a1 a2 a3 a4 => ?_
  obtain ⟨rfl, hΦ⟩ := a1
  cases a2
  exact ⟨rfl, wpAny_bind (wpAny_holding (wpAny_point (wpAny_pure (hQ _ _ μ' s' hΦ (.obj _) a3 ((ft.permR hp).trans a4)))))⟩
end
end Mine

end

noncomputable section
namespace Mine
theorem setM_setM (μ : Mem) (a : Addr) (o o' : MO) : setM (setM μ a o) a o' = setM μ a o' := by
  unfold setM
  rw [List.map_map]
  refine List.map_congr_left fun p _ => ?_
  simp only [Function.comp]
  by_cases h : p.1 = a
  · simp [h]
  · simp [h]
theorem setM_last {μ : Mem} {a : Addr} {o o' : MO} (h : a ∉ dom μ) : setM (μ ++ [(a, o)]) a o' = μ ++ [(a, o')] := by
  rw [setM_append, setM_off fun p hp e => h (by rw [← e]; exact mem_dom (show (p.1, p.2) ∈ μ from hp))]
  simp [setM]
theorem mem_setM {μ : Mem} {a : Addr} {o o' : MO} (h : (a, o) ∈ μ) : (a, o') ∈ setM μ a o' := List.mem_map.mpr ⟨_, h, by simp⟩
theorem mem_setM_ne {μ : Mem} {a b : Addr} {o o' : MO} (h : (b, o) ∈ μ) (hn : b ≠ a) : (b, o) ∈ setM μ a o' := List.mem_map.mpr ⟨_, h, by simp [hn]⟩
theorem setM_P {P μ : Mem} {a : Addr} {o o' : MO} (hO : Off P μ) (h : (a, o) ∈ μ) : setM (P ++ μ) a o' = P ++ setM μ a o' := by
  rw [setM_append, setM_off fun p hp e => hO p hp (by rw [e]; exact mem_dom h)]
section
variable {prog : Program} {w : World} {hb : Heap} {sc : Sh} {k : Nat} {ρ : Ren} {μ : Mem} {Φ : Dat → Mem → Prop} {mN : Str → Option Value} {f : Addr} {of : Obj}
/-- not acc, as a value -/
theorem WpE.accNot {x : Expr} {pos : Pos} (C : AccNames hb mN) (hbo : mN "__bool__" = Option.none) (hf : mN "__len__" = some (.ref f)) (hfo : hb.get? f = some of) (hfc : of.cls = .type "function")
    (h : WpE prog w hb sc (k + 1) x ρ μ (fun d μ₁ => ∃ a dx sz ds nn, d = .obj a ∧ (a, MO.acc dx sz ds) ∈ μ₁ ∧ 0 ≤ nn ∧ nn < 2 ^ 62 ∧ WpC prog w hb k f [.obj a] μ₁ (fun d' μ' => d' = .int nn ∧ Φ (.bool (nn == 0)) μ'))) :
    WpE prog w hb sc (k + 1) (.UnaryOp .Not x pos) ρ μ Φ := by
  intro env A s E c e y
  refine ⟨fun Q hQ => ?_⟩
  rw [arm_eval_UnaryOp]
  refine wpAny_bind ((h env A s E c e y).run _ fun v d μ₁ s₁ h₁ r₁ y₁ f₁ => ?_)
  obtain ⟨a, dx, sz, ds, nn, rfl, hm, h0, h1, hc⟩ := h₁
  cases r₁
  obtain ⟨vs, kk, ho, _⟩ := id (y₁.mem _ hm)
  refine wpAny_bind (wpAny_standAt (wpAny_holding (not_of ?_)))
  refine acc_truthy (C.X.keeps y₁.base) (isAcc ho) hbo slot_list_len.lookup hf (y₁.base _ _ hfo) hfc h0 h1 ?_
  refine (hc A.in1 s₁ [.ref a] E c.in1 y₁ (.cons (.obj a) .nil)).run _ fun v' d' μ' s' a1 a2 a3 a4 => ?_
  obtain ⟨rfl, hΦ⟩ := a1
  have e2 : (!(nn != 0)) = (nn == 0) := by simp [bne]
  cases a2 with
  | int _ t => exact ⟨t, rfl, by rw [e2]; exact hQ _ _ μ' _ hΦ (.bool _) a3.toks ((f₁.trans a4).trans Fw.toks)⟩
end
end Mine

end

noncomputable section
namespace Mine
/-! iterators over lists that are held by a name -/
theorem Ok.swap {hb : Heap} {μ : Mem} {s : Shared} {I : Addr} {o o' : MO} (y : Ok hb ((I, o) :: μ) s) (hm : o.more = o'.more) (hn : MAt (dom ((I, o) :: μ)) s.heap I o') (hc : ∀ c ps, o' ≠ .tab c ps) : Ok hb ((I, o') :: μ) s := by
  have e : dom ((I, o') :: μ) = dom ((I, o) :: μ) := by simp only [dom, hm]
  refine ⟨y.base, fun a ha => y.off a (by rwa [e] at ha), fun p hp => ?_, by rw [e]; exact y.nodup, y.bare, fun c ps a ha => ?_⟩
  · rw [e]
    rcases List.mem_cons.mp hp with rfl | hp
    · exact hn
    · exact y.mem p (.tail _ hp)
  · rcases List.mem_cons.mp ha with z | ha
    · cases z; exact absurd rfl (hc c ps)
    · exact y.codes c ps a (.tail _ ha)
section
variable {prog : Program} {w : World} {hb : Heap} {sc : Sh} {k : Nat} {ρ : Ren} {μ : Mem} {Φ : Dat → Mem → Prop}
theorem BCm.iterList {ds : List Dat} (h : ∀ I l, I ∉ dom μ → Φ (.obj I) (μ ++ [(I, .itr l ds)])) : BCm prog w hb "iter" k [.list ds] μ Φ := by
  intro A E s vs c y r
  refine ⟨fun Q hQ => ?_⟩
  cases r with
  | cons r1 r2 =>
    cases r2
    have r1' := r1
    cases r1 with
    | list h1 hl q =>
      rename_i l vs
      refine Calls.call_function_entry (by decide +kernel) (by decide +kernel) kdk_entry_iter (kdk_args_iter _) ?_
      unfold Builtin.«iter»
      refine wpAny_bind (m := someArgs "iter" 1 2 _) (wpAny_of_eq (a := [Value.ref l]) (by first | rfl | kernel_rfl!) ?_)
      show wpAny _ _ (pyIter (.ref l) >>= _) _ _ _
      refine wpAny_bind (wpAny_pyIter_list hl ?_)
      have y2 := y.pushPin (tk := s.toks) (o := { cls := .type "list_iterator", data := .fields #[.ref l, .int 0 0] }) (p := listIt l 0) ⟨rfl, rfl⟩
      have f2 : Fw (dom μ) (dom ((s.heap.objs.size, MO.pin (listIt l 0)) :: μ)) s { s with heap := s.heap.push { cls := .type "list_iterator", data := .fields #[.ref l, .int 0 0] } } := Fw.pushPin (tk := s.toks) rfl
      have y3 : Ok hb ((s.heap.objs.size, .itr l ds) :: μ) _ := y2.swap rfl ⟨_, Heap.get?_push_size _ rfl, ⟨rfl, rfl⟩, r1'.step f2⟩ (fun _ _ z => by cases z)
      have hp : ((s.heap.objs.size, MO.itr l ds) :: μ).Perm (μ ++ [(s.heap.objs.size, MO.itr l ds)]) := (List.perm_append_comm (l₁ := [(s.heap.objs.size, MO.itr l ds)]) (l₂ := μ))
      have f3 : Fw (dom μ) (dom ((s.heap.objs.size, MO.itr l ds) :: μ)) s { s with heap := s.heap.push { cls := .type "list_iterator", data := .fields #[.ref l, .int 0 0] } } := f2
      exact wpAny_pure ⟨_, rfl, hQ _ _ _ _ (h s.heap.objs.size l (not_dom y)) (.obj _) (y3.perm hp) (f3.permR hp)⟩
theorem WpIt.itr {x : Str} {p : Pos} {e : Expr} {Ψ : List Dat → Mem → Prop} (h : WpE prog w hb sc k e ρ μ (fun d μ₁ => ∃ I l ds μ₂, d = .obj I ∧ μ₁.Perm ((I, .itr l ds) :: μ₂) ∧ Ψ ds μ₂)) : WpIt prog w hb sc k (.Name x p) e ρ μ Ψ := by
  refine ⟨?_⟩
  intro env A s E Q c en y hQ
  refine (h env A s E c en y).run _ fun v d μ₁ s₁ h₁ r₁ y₁ f₁ => ?_
  obtain ⟨I, l, ds, μ₂, rfl, hp, hΦ⟩ := h₁
  cases r₁
  have y2 := y₁.perm hp
  obtain ⟨o, ho, hl, rl⟩ := id (y2.mem (I, .itr l ds) (.head _))
  have y3 : Ok hb ((I, .pin (listIt l 0)) :: μ₂) s₁ := y2.swap rfl ⟨o, ho, hl⟩ (fun _ _ z => by cases z)
  refine wpAny_pyIter_listiter ⟨o, ho, hl⟩ ?_
  have f2 : Fw (dom μ) (dom ((I, MO.itr l ds) :: μ₂)) s s₁ := f₁.permR hp
  refine hQ I ds [(I, .pin (listIt l 0))] [(.ref l, .list ds)] μ₂ s₁ hΦ ?_ y3 (fun p hp => ?_) f2
  · simpa using Iter.list (prog := prog) (w := w) (hb := hb) (tgt := .Name x p) rfl (l := l) (I := I) (ds := ds) ds.length 0 (by omega)
  · rw [List.mem_singleton.mp hp]
    exact rl
theorem Bop.isObj_list {ds : List Dat} {a : Addr} {o : Obj} (ho : hb.get? a = some o) (hc : o.cls ≠ .type "list") : Bop prog w hb (compareOp .Is) (.list ds) (.obj a) (.bool false) := by
  intro k A E μ s v₁ v₂ c y r₁ r₂
  refine ⟨fun Q hQ => ?_⟩
  cases r₂
  cases r₁ with
  | list h1 hl q =>
    rename_i b vs
    obtain ⟨o', ho', hc', _⟩ := hl
    refine wpAny_is_ref_other (fun e => ?_) ho' (y.base _ _ ho) (by rw [hc']; decide) (hQ _ _ μ s ⟨rfl, rfl⟩ (.bool _) y (Fw.refl _ _))
    rw [e, y.base _ _ ho] at ho'
    cases ho'
    exact hc hc'
end
end Mine

end

noncomputable section
namespace Mine
/-! Calls that may raise. -/
noncomputable def frAs (fr : List Env) : List Addr := fr.filterMap (·.frame)
/-- the frames below a call -/
noncomputable def OutC (hb : Heap) (fr : List Env) (A : Around) (X : List Addr) (h : Heap) : Prop :=
  A.frames = some fr ∧ ∀ f ∈ fr, f.scope.kind ≠ .module ∧ ∃ L o, f.frame = some L ∧ L ∉ X ∧ hb.get? L = none ∧ h.get? L = some o ∧ ∃ es ep, o.data = .dict es ep
theorem OutC.mem {hb : Heap} {fr : List Env} {A : Around} {X : List Addr} {h : Heap} (o : OutC hb fr A X h) {b : Addr} (hb' : b ∈ frAs fr) : b ∉ X ∧ hb.get? b = none ∧ ∃ q, h.get? b = some q ∧ ∃ es ep, q.data = .dict es ep := by
  obtain ⟨f, hf, e⟩ := List.mem_filterMap.mp hb'
  obtain ⟨_, L, q, h1, h2, h3, h4⟩ := o.2 f hf
  rw [e] at h1; cases h1
  exact ⟨h2, h3, q, h4⟩
/-- an exception has come out of a call -/
structure Raised (hb : Heap) (fr : List Env) (cls : String) (μ μ' : Mem) (s : Shared) (x : Value) (s' : Shared) : Prop where
  st : ∃ e B a0, x = .ref e ∧ Heap.FlyingW B fr e (.type cls) a0 s'.heap ∧ Ok hb μ' { s' with heap := B } ∧ ∀ b o, b ∉ dom μ → b ∉ frAs fr → s.heap.get? b = some o → B.get? b = some o
  slot : ∀ b o, b ∈ frAs fr → s.heap.get? b = some o → ∃ sl, s'.heap.get? b = some { o with slots := sl }
  dom : ∀ a ∈ dom μ', a ∈ dom μ ∨ s.heap.get? a = none
  os : s'.os = s.os
  gens : AllBare s.gens → AllBare s'.gens

theorem EnvOk.ownDict {hb : Heap} {sc : Sh} {env : Env} {ρ : Ren} {X : List Addr} {h : Heap} (en : EnvOk hb sc env ρ X h) : ∃ o es ep, h.get? env.locals = some o ∧ o.data = .dict es ep := by
  obtain ⟨m, ⟨o, es, ep, ho, hd, _⟩, _⟩ := en.vars
  exact ⟨o, es, ep, ho, hd⟩

/-- Ok, seen in a heap that has all but some namespaces -/
theorem Ok.rebase {hb : Heap} {μ : Mem} {sr s' : Shared} {B : Heap} {Y : List Addr} (y : Ok hb μ sr) (hg : AllBare s'.gens) (hY : ∀ b ∈ Y, b ∉ dom μ ∧ hb.get? b = none ∧ ∀ o xs n, sr.heap.get? b = some o → o.data ≠ .seq xs n) (hB : ∀ b o, b ∉ Y → sr.heap.get? b = some o → B.get? b = some o) : Ok hb μ { s' with heap := B } := by
  have hbY : ∀ b o, hb.get? b = some o → b ∉ Y := fun b o e z => by rw [(hY b z).2.1] at e; cases e
  have hdY : ∀ b ∈ dom μ, b ∉ Y := fun b hb' z => (hY b z).1 hb'
  refine ⟨fun b o e => hB b o (hbY b o e) (y.base b o e), y.off, fun p hp => ?_, y.nodup, hg, y.codes⟩
  refine (y.mem p hp).seq (fun b o xs n _ hd e => hB b o (fun z => (hY b z).2.2 o xs n e hd) e) (fun o e => hB _ o (hdY _ (mem_dom hp)) e) (fun x hx o e => hB _ o (hdY _ (mem_more hp hx)) e) fun c ps e o z => hB _ o ?_ z
  obtain ⟨oc, hoc⟩ := y.codes c ps p.1 (by rw [← e]; exact hp)
  exact hbY c oc hoc

section
variable {M : Model} {A : Around} {E : Value → Shared → Prop} {s : Shared} {hb : Heap} {sc : Sh} {env : Env} {outer : List Env} {cls : String} {sr : Shared} {x : Value} {ρ : Ren} {μ' : Mem}
/-- an exception leaves a frame -/
theorem Flight.leave {Q : Unit → Shared → Prop} (fl : Flight env outer cls sr x s) (o : OutOk hb (some outer) sc env A (dom μ') sr.heap) (en : EnvOk hb sc env ρ (dom μ') sr.heap) (y : Ok hb μ' sr)
    (h : ∀ e B a0 s', x = .ref e → Heap.FlyingW B outer e (.type cls) a0 s'.heap → Ok hb μ' { s' with heap := B } → (∀ b o, b ∉ env.locals :: frAs outer → sr.heap.get? b = some o → B.get? b = some o) → sr.heap.UpToSlots s'.heap → s'.os = sr.os → s'.gens = sr.gens → Q () s') :
    wpAny M A (leaving env x) Q E s := by
  unfold leaving
  refine wpAny_bind (fl.held o en fun e B a0 h' hx hh hB sl => ?_)
  subst hx
  refine wpAny_landsW hh fun h2 hfl sl2 => ?_
  obtain ⟨k1, k2, ⟨_, _, k3⟩, k4⟩ := hfl
  have hfr : frs env outer = env.locals :: frAs outer := by
    unfold frs frAs
    rw [List.filterMap_cons, o.2.1]
  rw [hfr] at hB
  refine h e B a0 _ rfl ⟨k1, k2, k3, k4⟩ (y.rebase (s' := { s with heap := h2 }) (by show AllBare s.gens; rw [fl.gens]; exact y.bare) (Y := env.locals :: frAs outer) (fun b hb' => ?_) hB) hB (sl.trans sl2) fl.os fl.gens
  rcases List.mem_cons.mp hb' with rfl | hb'
  · exact ⟨en.locX, en.locB, en.notSeq⟩
  · obtain ⟨f, hf, e⟩ := List.mem_filterMap.mp hb'
    obtain ⟨_, L, q, h1, h2, _, h3, h4, es, ep, h5⟩ := o.2.2 f hf
    rw [e] at h1; cases h1
    refine ⟨h2, h3, fun o xs n ho hd => ?_⟩
    rw [h4] at ho; cases ho; rw [h5] at hd; cases hd
end

section
variable (prog : Program) (w : World) (hb : Heap)
/-- a call that may raise -/
noncomputable def WpCx (k : Nat) (fa : Addr) (ds : List Dat) (μ : Mem) (Φ : Dat → Mem → Prop) (Ξ : XP) : Prop :=
  ∀ (A : Around) (s : Shared) (vs : List Value) (E : Value → Shared → Prop) (fr : List Env) (Q : Value → Shared → Prop), Calm k A → Ok hb μ s → RdA (dom μ) s.heap vs ds → OutC hb fr A (dom μ) s.heap →
    (∀ v d μ' s', Φ d μ' → Rd (dom μ') s'.heap v d → Ok hb μ' s' → Fw (dom μ) (dom μ') s s' → Q v s') →
    (∀ cls μ' x s', Ξ cls μ' → Raised hb fr cls μ μ' s x s' → E x s') → wpAny (model prog w) A (call (.ref fa) vs) Q E s
end
section
variable {prog : Program} {w : World} {hb : Heap} {k : Nat} {μ : Mem} {Φ : Dat → Mem → Prop} {Ξ : XP}
theorem WpCx.fn {fa : Addr} {o : Obj} {fd : FuncData} {body : List Stmt} {ds : List Dat} (sc : Sh) (names : List Str) (ho : hb.get? fa = some o) (hd : o.data = .func fd) (hbody : fd.body = .stmts body)
    (lim : hb.NoLimit) (hcd : hb.CodeRec sc.code fd.qualname) (hbind : ∀ vs : List Value, vs.length = names.length → bindArgs fd ⟨vs, []⟩ = pure (names.zip vs))
    (h : ∀ fr, WpSx prog w hb (some fr) sc k body (names.zip ds) μ (fun af _ μ' => Φ (retD af) μ') Ξ)
    (hsc : sc = ⟨fd.scope.names, fd.code⟩ := by rfl) (hok : parsOk names sc.names = true := by rfl) (hlen : names.length = ds.length := by rfl)
    (hglob : fd.globals = mainGlobals := by rfl) (hbi : fd.builtins = builtinsNs := by rfl) (hclo : fd.closure = [] := by rfl)
    (hco : fd.scope.isCoroutine = false := by rfl) (hgen : fd.scope.isGenerator = false := by rfl) (hk : fd.scope.kind = .function := by rfl) : WpCx prog w hb (k + 1) fa ds μ Φ Ξ := by
  subst hsc
  simp only [parsOk, Bool.and_eq_true] at hok
  have hnd := nodupB_ok hok.1.1
  have hfree := free_of hok.2
  have hkinds : ∀ x ∈ names, fd.scope.names.lookup x = some .local ∨ fd.scope.names.lookup x = some .cell := fun x hx => by
    have := List.all_eq_true.mp hok.1.2 x hx
    simpa using this
  intro A s vs E fr Q c y r oc hQ hE
  have hvl : vs.length = names.length := by rw [r.length, hlen]
  refine wpAny_call (codeAny_call_cells (fd := fd) (binds := names.zip vs) c.room (y.base _ _ ho) hd (lim.keeps y.base) (hcd.keeps y.base) hbody (hbind vs hvl) hclo (fun x hx => ?_) (fun s₁ X => ?_) hco hgen hk)
  · have hm : x.1 ∈ names := (List.of_mem_zip hx).1
    rcases hkinds x.1 hm with q | q
    · exact .inl q
    · exact .inr ⟨q, cellsFrom_some _ _ _ (.inl q)⟩
  · obtain ⟨h₁, tk₁, rfl⟩ := X.toInCall.same
    have kp : ∀ b o, s.heap.get? b = some o → h₁.get? b = some o := X.toInCall.keep
    have g₁ : Fw (dom μ) (dom μ) s { s with heap := h₁, toks := tk₁ } := Fw.keeps kp
    have r₁ := r.step g₁
    have hL : (callEnvC fd s.heap.objs.size fa).locals = s.heap.objs.size := rfl
    have hge : ∀ n c, (n, c) ∈ (callEnvC fd s.heap.objs.size fa).cells → s.heap.objs.size < c := fun n c hm => X.above n c hm
    have hgl : ∀ n c, (callEnvC fd s.heap.objs.size fa).cells.lookup n = some c → s.heap.objs.size < c := fun n c hm => hge n c (mem_of_lookup hm)
    have nin : ∀ a, s.heap.objs.size ≤ a → a ∉ dom μ := fun a ha hm => absurd (dom_lt y hm) (Nat.not_lt.mpr ha)
    have e₁ : EnvOk hb ⟨fd.scope.names, fd.code⟩ (callEnvC fd s.heap.objs.size fa) (names.zip ds) (dom μ) h₁ := by
      refine ⟨rfl, hk, rfl, hglob, hbi, nin _ (Nat.le_refl _), base_none y (Nat.le_refl _), fun x c hx hc => ?_, X.apart, fun x hx => ?_, _, X.toInCall.ns, fun x d hx => ?_⟩
      · have := hgl x c hc
        exact ⟨nin _ (Nat.le_of_lt this), base_none y (Nat.le_of_lt this), Nat.ne_of_gt this, _, X.cell x c hc⟩
      · rcases hx with hx | hx
        · exact cellsFrom_some _ _ _ (.inl hx)
        · exact absurd hx (hfree x)
      · obtain ⟨v, hv, rv⟩ := zip_mem r₁ hx
        have hm : x ∈ names := (List.of_mem_zip hv).1
        have hz : (names.zip vs).map (·.1) = names := zip_names hvl.symm
        rcases hkinds x hm with q | q
        · exact .inl ⟨q, v, bindL_get (by show fd.scope.names.lookup x = _; exact q) _ _ (by rw [hz]; exact hnd) hv, rv⟩
        · obtain ⟨c', hc'⟩ := Option.isSome_iff_exists.mp (cellsFrom_some fd.scope.names (s.heap.objs.size + 1) [] (.inl q))
          have := hgl x c' hc'
          refine .inr ⟨.inl q, c', v, hc', nin _ (Nat.le_of_lt this), Nat.ne_of_gt this, ?_, rv⟩
          have hcell := X.cell x c' hc'
          rwa [bindC_get (by show fd.scope.names.lookup x ≠ _; rw [q]; intro z; cases z) _ _ (by rw [hz]; exact hnd) hv] at hcell
    have hownF : ∀ b ∈ own ⟨fd.scope.names, fd.code⟩ (callEnvC fd s.heap.objs.size fa), s.heap.get? b = none := fun b hm => by
      rcases own_mem hm with q | ⟨xn, _, hq⟩
      · rw [q, hL]; exact none_ge (Nat.le_refl _)
      · exact none_ge (Nat.le_of_lt (hgl xn _ hq))
    have o₁ : OutOk hb (some fr) ⟨fd.scope.names, fd.code⟩ (callEnvC fd s.heap.objs.size fa) (A.deeper (callEnvC fd s.heap.objs.size fa)) (dom μ) h₁ := by
      refine ⟨by show A.frames.map _ = _; rw [oc.1]; rfl, rfl, fun f hf => ?_⟩
      obtain ⟨b1, L, q, b2, b3, b4, b5, b6⟩ := oc.2 f hf
      exact ⟨b1, L, q, b2, b3, (fun hm => by have := hownF L hm; rw [b5] at this; cases this), b4, kp _ _ b5, b6⟩
    have hFw : ∀ μ' s', Fw (own ⟨fd.scope.names, fd.code⟩ (callEnvC fd s.heap.objs.size fa) ++ dom μ) (own ⟨fd.scope.names, fd.code⟩ (callEnvC fd s.heap.objs.size fa) ++ dom μ') { s with heap := h₁, toks := tk₁ } s' → Fw (dom μ) (dom μ') s s' := fun μ' s' a5 => by
      refine ⟨fun b o' hb' e => a5.keep b o' (fun hm => ?_) (kp b o' e), fun a ha => ?_, a5.os, a5.gens⟩
      · rcases List.mem_append.mp hm with hm | hm
        · rw [hownF b hm] at e; cases e
        · exact hb' hm
      · rcases a5.dom a (List.mem_append_right _ ha) with hm | hm
        · rcases List.mem_append.mp hm with hm | hm
          · exact .inr (hownF a hm)
          · exact .inl hm
        · right
          cases q : s.heap.get? a with
          | none => rfl
          | some o' => have := kp a o' q; rw [this] at hm; cases hm
    refine (h fr _ _ _ _ (c.deeper _) e₁ (y.keeps kp) o₁).run _ (fun f af ρ' μ' s' a1 a2 a3 a4 a5 => hQ _ _ μ' s' a1 a2.ret a4 (hFw μ' s' a5)) fun outer cls μ' sr x s' b1 b2 b3 b4 b5 b6 => ?_
    cases b1
    have fw := hFw μ' sr b5
    refine b6.leave (o₁.step b5) b3 b4 fun e B a0 s2 hx hfl hok hB sl hos hgs => hE cls μ' x s2 b2 ⟨⟨e, B, a0, hx, hfl, hok, fun b q h1 h2 h3 => hB b q (fun hm => ?_) (fw.keep b q h1 h3)⟩, fun b q h1 h2 => ?_, fw.dom, hos.trans fw.os, fun hg => by rw [hgs]; exact fw.gens hg⟩
    · rcases List.mem_cons.mp hm with z | hm
      · rw [z, hL, fresh_size] at h3; cases h3
      · exact h2 hm
    · obtain ⟨c1, _, q', c2, es, ep, c3⟩ := oc.mem h1
      rw [h2] at c2; cases c2
      exact sl b q (fw.keep b q c1 h2) fun vs z => by rw [c3] at z; cases z
end
end Mine

end

noncomputable section
namespace Mine
section
variable {prog : Program} {w : World} {hb : Heap} {sc : Sh} {k : Nat} {ρ : Ren} {μ : Mem} {Ψ : AFlow → Ren → Mem → Prop} {Ξ : XP} {outer : List Env} {mN mg mb : Str → Option Value}
theorem EnvOk.none {env : Env} {X : List Addr} {h : Heap} (en : EnvOk hb sc env ρ X h) : EnvOk hb sc env [] X h := en.less fun _ _ e => by cases e
/-- what an exceptional end asks -/
noncomputable abbrev ExcP (hb : Heap) (outer : List Env) (sc : Sh) (env : Env) (μ : Mem) (Ξ : XP) (s : Shared) (E : Value → Shared → Prop) : Prop :=
  ∀ outer' cls μ' sr x s', (some outer : Option (List Env)) = some outer' → Ξ cls μ' → EnvOk hb sc env [] (dom μ') sr.heap → Ok hb μ' sr → Fw (own sc env ++ dom μ) (own sc env ++ dom μ') s sr → Flight env outer' cls sr x s' → E x s'
theorem itemOut {value slice : Expr} {spos : Pos} {env : Env} {A : Around} {s : Shared} {E : Value → Shared → Prop} {Q : Value → Shared → Prop} (XC : AccCls hb mN) (hm : mN "__getitem__" = none)
    (h : WpE prog w hb sc k value ρ μ (fun d₁ μ₁ => WpE prog w hb sc k slice ρ μ₁ (fun d₂ μ₂ => ∃ a dx sz, d₁ = .obj a ∧ (a, MO.acc dx sz []) ∈ μ₂ ∧ d₂ = .int 0 ∧ Ξ "IndexError" μ₂)))
    (c : Calm k A) (e : EnvOk hb sc env ρ (dom μ) s.heap) (y : Ok hb μ s) (hE : ExcP hb outer sc env μ Ξ s E) (hs : plainIx slice) :
    wpAny (model prog w) A (eval (.Subscript value slice spos) env) Q E s := by
  refine Subscript_ ((h env A s E c e y).run _ fun v₁ d₁ μ₁ s₁ h₁ r₁ y₁ f₁ => (h₁ env A s₁ E c (e.step f₁) y₁).run _ fun v₂ d₂ μ₂ s₂ h₂ r₂ y₂ f₂ => ?_)
  obtain ⟨a, dx, sz, rfl, hmem, rfl, hΞ⟩ := h₂
  cases r₁
  cases r₂ with
  | int _ t =>
  obtain ⟨vs, kk, ho, ra, _⟩ := y₂.mem _ hmem
  cases ra
  have X2 := XC.keeps y₂.base
  have ft := f₁.trans f₂
  exact acc_tail X2 (isAcc ho) hm (acc_getItem_out c.han X2 ho hm (by decide) (by decide) (by simp) fun h' tk ex nx => hE outer "IndexError" μ₂ s₂ (.ref ex) _ rfl hΞ (e.step ft).none y₂ (ft.lift _) ⟨rfl, rfl, ex, rfl, .inl nx⟩) (hs _ _)
/-- x = acc[0], the accumulator is empty -/
theorem Wp1x.assignOut {x : Str} {p spos pos : Pos} {value slice : Expr} (XC : AccCls hb mN) (hm : mN "__getitem__" = none)
    (h : WpE prog w hb sc k value ρ μ (fun d₁ μ₁ => WpE prog w hb sc k slice ρ μ₁ (fun d₂ μ₂ => ∃ a dx sz, d₁ = .obj a ∧ (a, MO.acc dx sz []) ∈ μ₂ ∧ d₂ = .int 0 ∧ Ξ "IndexError" μ₂)))
    (hs : plainIx slice := by intro _ _; rfl) (hsw : ∀ env, swapsWith (.Subscript value slice spos) (some (.Name x p)) pos.line env = pure false := by intro _; rfl) : Wp1x prog w hb (some outer) sc k (.Assign [.Name x p] (.Subscript value slice spos) pos) ρ μ Ψ Ξ := by
  intro env A s E c e y o
  exact ⟨fun Q hQ hE => wpAny_Assign_Name (itemOut XC hm h c e y hE hs) (hsw env)⟩
/-- if acc[0] op z, the accumulator is empty -/
theorem Wp1x.iteOut {spos cpos pos : Pos} {value slice r : Expr} {op : CmpOp} {a b : List Stmt} (XC : AccCls hb mN) (hm : mN "__getitem__" = none)
    (h : WpE prog w hb sc k value ρ μ (fun d₁ μ₁ => WpE prog w hb sc k slice ρ μ₁ (fun d₂ μ₂ => ∃ a dx sz, d₁ = .obj a ∧ (a, MO.acc dx sz []) ∈ μ₂ ∧ d₂ = .int 0 ∧ Ξ "IndexError" μ₂)))
    (hs : plainIx slice := by intro _ _; rfl) (hmk : behindInMarks op r = false := by with_unfolding_all rfl) : Wp1x prog w hb (some outer) sc k (.If (.Compare (.Subscript value slice spos) [op] [r] cpos) a b pos) ρ μ Ψ Ξ := by
  intro env A s E c e y o
  exact ⟨fun Q hQ hE => wpAny_If (wpAny_isTrue_Compare1 (itemOut XC hm h c e y hE hs) hmk)⟩
/-- raise X('..') of a built-in class -/
theorem Wp1x.raise {x : Str} {np cpos pos spos : Pos} {n : Nat} {z : Str} {cls newId initId : String} (F : ExcCallFacts cls newId initId) (R : ExcRaiseFacts cls) (G : hb.Ns mainGlobals mg) (B : hb.Ns builtinsNs mb) (hm : mg x = none) (hv : mb x = some (.type cls)) (hΞ : Ξ cls μ)
    (hk : sc.names.lookup x = some .globalImplicit := by rfl) (hd : (x == ("__debug__" : Str)) = false := by rfl) :
    Wp1x prog w hb (some outer) sc k (.Raise (some (.Call (.Name x np) [.Constant (.str z) n spos] [] cpos)) none pos) ρ μ Ψ Ξ := by
  intro env A s E c e y o
  refine ⟨fun Q hQ hE => ?_⟩
  refine wpAny_Raise_call F R c.han rfl (ev_builtin e y G B hm hv ⟨rfl, ?_⟩ hk hd)
  refine Calls.evalArgs_plain (Calls.spliced_cons (wpAny_Constant_str (pos := spos) (k := n) (Calls.spliced_nil ⟨rfl, by size_fits, fun h' ex mk => ?_⟩)))
  have f : Fw (dom μ) (dom μ) s { s with toks := s.toks + 1 } := Fw.toks
  exact hE outer cls μ { s with toks := s.toks + 1 } (.ref ex) _ rfl hΞ (e.step f).none y.toks (f.lift _) ⟨rfl, rfl, ex, rfl, .inl mk.newExc⟩
end
end Mine

end

noncomputable section
namespace Mine
/-- as Fw, but the frames fr may have other slots -/
structure FwU (fr X X' : List Addr) (s s' : Shared) : Prop where
  keep : ∀ b o, b ∉ X → b ∉ fr → s.heap.get? b = some o → s'.heap.get? b = some o
  slot : ∀ b o, b ∈ fr → b ∉ X → s.heap.get? b = some o → ∃ sl, s'.heap.get? b = some { o with slots := sl }
  dom : ∀ a ∈ X', a ∈ X ∨ s.heap.get? a = none
  os : s'.os = s.os
  gens : AllBare s.gens → AllBare s'.gens
section
variable {fr X X' : List Addr} {s s' : Shared}
theorem FwU.any (f : FwU fr X X' s s') {b : Addr} {o : Obj} (hb : b ∉ X) (e : s.heap.get? b = some o) : b ∉ X' ∧ ∃ sl, s'.heap.get? b = some { o with slots := sl } := by
  refine ⟨fun h => (f.dom b h).elim hb (fun z => by rw [e] at z; cases z), ?_⟩
  by_cases h : b ∈ fr
  · exact f.slot b o h hb e
  · exact ⟨o.slots, f.keep b o hb h e⟩
mutual
theorem Rd.stepU (f : FwU fr X X' s s') : ∀ {v d}, Rd X s.heap v d → Rd X' s'.heap v d
  | _, _, .none => .none
  | _, _, .bool b => .bool b
  | _, _, .int i t => .int i t
  | _, _, .str x t => .str x t
  | _, _, .tuple ha ⟨_, ho, hc, n, hd⟩ r => let ⟨h1, _, h2⟩ := f.any ha ho; .tuple h1 ⟨_, h2, hc, n, hd⟩ (RdA.stepU f r)
  | _, _, .list ha ⟨_, ho, hc, n, hd⟩ r => let ⟨h1, _, h2⟩ := f.any ha ho; .list h1 ⟨_, h2, hc, n, hd⟩ (RdA.stepU f r)
  | _, _, .obj a => .obj a
theorem RdA.stepU (f : FwU fr X X' s s') : ∀ {vs ds}, RdA X s.heap vs ds → RdA X' s'.heap vs ds
  | _, _, .nil => .nil
  | _, _, .cons h r => .cons (Rd.stepU f h) (RdA.stepU f r)
end
theorem FwU.cell (f : FwU fr X X' s s') {c : Addr} {v : Option Value} (hb : c ∉ X) (e : s.heap.IsCell c v) : c ∉ X' ∧ s'.heap.IsCell c v := by
  obtain ⟨o, ho, hd⟩ := e
  obtain ⟨h1, sl, h2⟩ := f.any hb ho
  exact ⟨h1, _, h2, hd⟩
theorem EnvOk.stepU {hb : Heap} {sc : Sh} {env : Env} {ρ : List (Str × Dat)} (x : EnvOk hb sc env ρ X s.heap) (f : FwU fr X X' s s') : EnvOk hb sc env ρ X' s'.heap := by
  obtain ⟨m, ⟨o, es, ep, ho, r⟩, hv⟩ := x.vars
  obtain ⟨l1, sl, l2⟩ := f.any x.locX ho
  refine ⟨x.scope, x.kind, x.code, x.glob, x.bi, l1, x.locB, fun y c hk hc => ?_, x.apart, x.has, m, ⟨_, es, ep, l2, r⟩, fun y d hy => ?_⟩
  · obtain ⟨h1, h2, h3, v, h4⟩ := x.cells y c hk hc
    exact ⟨(f.cell h1 h4).1, h2, h3, v, (f.cell h1 h4).2⟩
  · rcases hv y d hy with ⟨h1, v, h2, h3⟩ | ⟨h1, c, v, h2, h3, h4, h5, h6⟩
    · exact .inl ⟨h1, v, h2, h3.stepU f⟩
    · exact .inr ⟨h1, c, v, h2, (f.cell h3 h5).1, h4, (f.cell h3 h5).2, h6.stepU f⟩
end
theorem Fw.toU {fr X X' : List Addr} {s s' : Shared} (f : Fw X X' s s') : FwU fr X X' s s' := ⟨fun b o h _ e => f.keep b o h e, fun b o _ h e => ⟨o.slots, f.keep b o h e⟩, f.dom, f.os, f.gens⟩
theorem Fw.thenU {fr X Y Z : List Addr} {s₁ s₂ s₃ : Shared} (f : Fw X Y s₁ s₂) (g : FwU fr Y Z s₂ s₃) : FwU fr X Z s₁ s₃ := by
  refine ⟨fun b o hb hf e => ?_, fun b o hf hb e => ?_, fun a ha => ?_, g.os.trans f.os, fun h => g.gens (f.gens h)⟩
  · obtain ⟨h1, h2⟩ := f.get hb e
    exact g.keep b o h1 hf h2
  · obtain ⟨h1, h2⟩ := f.get hb e
    exact g.slot b o hf h1 h2
  · rcases g.dom a ha with h | h
    · exact f.dom a h
    · by_cases hX : a ∈ X
      · exact .inl hX
      · right
        cases q : s₁.heap.get? a with
        | none => rfl
        | some o => rw [f.keep a o hX q] at h; cases h
theorem FwU.then {fr X Y Z : List Addr} {s₁ s₂ s₃ : Shared} (f : FwU fr X Y s₁ s₂) (g : Fw Y Z s₂ s₃) : FwU fr X Z s₁ s₃ := by
  refine ⟨fun b o hb hf e => ?_, fun b o hf hb e => ?_, fun a ha => ?_, g.os.trans f.os, fun h => g.gens (f.gens h)⟩
  · have h1 : b ∉ Y := fun h => (f.dom b h).elim hb (fun z => by rw [e] at z; cases z)
    exact g.keep b o h1 (f.keep b o hb hf e)
  · have h1 : b ∉ Y := fun h => (f.dom b h).elim hb (fun z => by rw [e] at z; cases z)
    obtain ⟨sl, h2⟩ := f.slot b o hf hb e
    exact ⟨sl, g.keep b _ h1 h2⟩
  · rcases g.dom a ha with h | h
    · exact f.dom a h
    · by_cases hX : a ∈ X
      · exact .inl hX
      · right
        cases q : s₁.heap.get? a with
        | none => rfl
        | some o =>
          by_cases hf : a ∈ fr
          · obtain ⟨sl, h2⟩ := f.slot a o hf hX q; rw [h2] at h; cases h
          · rw [f.keep a o hX hf q] at h; cases h

section
variable {prog : Program} {w : World} {A : Around} {E : Value → Shared → Prop} {hb : Heap} {sc : Sh} {ρ : Ren} {env : Env} {fr : List Env} {cls : String} {μ μ' : Mem} {s s' : Shared} {x : Value} {mg mb : Str → Option Value}
/-- an exception that has been caught is at hand -/
structure Landed (hb : Heap) (fr : List Env) (cls : String) (μ μ' : Mem) (s : Shared) (e : Addr) (s' : Shared) : Prop where
  st : ∃ B a0, Heap.FlyingW B fr e (.type cls) a0 s'.heap ∧ Ok hb μ' { s' with heap := B } ∧ ∀ b o, b ∉ Mine.dom μ → b ∉ frAs fr → s.heap.get? b = some o → B.get? b = some o
  fw : FwU (frAs fr) (Mine.dom μ) (Mine.dom μ') s s'
  ok : Ok hb μ' s'
theorem Raised.landed (r : Raised hb fr cls μ μ' s x s') : ∃ e, x = .ref e ∧ Landed hb fr cls μ μ' s e s' := by
  obtain ⟨e, B, a0, hx, hfl, hok, hB⟩ := r.st
  have st : ∀ b o, B.get? b = some o → s'.heap.get? b = some o := hfl.1
  exact ⟨e, hx, ⟨B, a0, hfl, hok, hB⟩, ⟨fun b o h1 h2 h3 => st b o (hB b o h1 h2 h3), fun b o h1 _ h3 => r.slot b o h1 h3, r.dom, r.os, r.gens⟩, hok.keeps (s := { s' with heap := B }) (tk := s'.toks) st⟩
theorem Landed.up {e : Addr} {h2 : Heap} (l : Landed hb fr cls μ μ' s e s') {B : Heap} {a0 : Value} (hfl : Heap.FlyingW B fr e (.type cls) a0 h2) (hok : Ok hb μ' { s' with heap := B }) (hB : ∀ b o, b ∉ Mine.dom μ → b ∉ frAs fr → s.heap.get? b = some o → B.get? b = some o)
    (hd : ∀ b o, b ∈ frAs fr → b ∉ Mine.dom μ → s.heap.get? b = some o → ∀ vs, o.data ≠ .fields vs) (sl : s'.heap.UpToSlots h2) : Landed hb fr cls μ μ' s e { s' with heap := h2 } := by
  have st : ∀ b o, B.get? b = some o → h2.get? b = some o := hfl.1
  refine ⟨⟨B, a0, hfl, hok, hB⟩, ⟨fun b o h1 h2 h3 => st b o (hB b o h1 h2 h3), fun b o h1 h2 h3 => ?_, l.fw.dom, l.fw.os, l.fw.gens⟩, hok.keeps (s := { s' with heap := B }) (tk := s'.toks) st⟩
  obtain ⟨sl1, e1⟩ := l.fw.slot b o h1 h2 h3
  obtain ⟨sl2, e2⟩ := sl b _ e1 (hd b o h1 h2 h3)
  exact ⟨sl2, e2⟩
/-- into the handlers -/
theorem Raised.handle {hs : List ExceptHandler} {Q : Flow → Shared → Prop} (r : Raised hb (env :: fr) cls μ μ' s x s') (hfr : A.frames = some (env :: fr)) (hf : env.frame = some env.locals) (hd : ∀ b o, b ∈ frAs (env :: fr) → b ∉ Mine.dom μ → s.heap.get? b = some o → ∀ vs, o.data ≠ .fields vs)
    (h : ∀ e s2, Landed hb (env :: fr) cls μ μ' s e s2 → wpAny (model prog w) A (handleBy (.ref e) env hs) Q E s2) :
    wpAny (model prog w) A (noteFrame x env) (fun _ s₂ => wpAny (model prog w) A (setFlight x none) (fun _ s₃ => wpAny (model prog w) A (handleBy x env hs) Q E s₃) E s₂) E s' := by
  obtain ⟨e, rfl, l⟩ := r.landed
  obtain ⟨B, a0, hfl, hok, hB⟩ := l.st
  refine wpAny_looks_onW hfr hf hfl fun h1 hheld sl1 => ?_
  refine wpAny_landsW hheld fun h2 hfl2 sl2 => ?_
  exact h e _ (l.up hfl2 hok hB hd (sl1.trans sl2))
/-- a handler of a built-in class -/
theorem Landed.test {e : Addr} {xn : Str} {np pos : Pos} {T' : String} {b : Bool} {b₀ : Stmt} {suite : List Stmt} {rest : List ExceptHandler} {Q : Flow → Shared → Prop} (l : Landed hb (env :: fr) cls μ μ' s e s') (en : EnvOk hb sc env ρ (dom μ) s.heap) (G : hb.Ns mainGlobals mg) (B : hb.Ns builtinsNs mb) (hm : mg xn = none) (hv : mb xn = some (.type T'))
    (hexc : isSubtype (.type T') (.type "BaseException") = pure true) (hnt : isSubtype (.type ((Manifest.find? T').elim "type" fun y => y.metatype)) (.type "tuple") = pure false) (hsub : isSubtype (.type cls) (.type T') = pure b)
    (hd : ∀ b o, b ∈ frAs (env :: fr) → b ∉ dom μ → s.heap.get? b = some o → ∀ vs, o.data ≠ .fields vs)
    (h : if b then (∀ s2, Landed hb (env :: fr) cls μ μ' s e s2 → wpAny (model prog w) (A.mark (some (.ref e))) (execs (b₀ :: suite) env) Q (fun _ _ => False) s2) else wpAny (model prog w) A (handleBy (.ref e) env rest) Q E s')
    (hk : sc.names.lookup xn = some .globalImplicit := by rfl) (hdb : (xn == ("__debug__" : Str)) = false := by rfl) :
    wpAny (model prog w) A (handleBy (.ref e) env (.ExceptHandler (some (.Name xn np)) none (b₀ :: suite) pos :: rest)) Q E s' := by
  obtain ⟨Bh, a0, hfl, hok, hB⟩ := l.st
  obtain ⟨ob, hob, hobc⟩ := hfl.there
  refine wpAny_handleBy_builtin (X := cls) (T := T') (b := b) hexc hnt hsub (ev_builtin (en.stepU l.fw) l.ok G B hm hv ⟨rfl, ⟨ob, hob, hobc⟩, ?_⟩ hk hdb)
  cases b with
  | false => exact h
  | true =>
    refine lands_againW hfl fun h2 hfl2 sl2 => ?_
    exact wpAny_mono (h _ (l.up hfl2 hok hB hd sl2)) (fun _ _ z => z) fun _ _ z => z.elim
end
end Mine

end

noncomputable section
namespace Mine
section
variable (prog : Program) (w : World) (hb : Heap)
/-- a call behind which the frames below may have other slots -/
noncomputable def WpCu (k : Nat) (fa : Addr) (ds : List Dat) (μ : Mem) (Φ : Dat → Mem → Prop) : Prop :=
  ∀ (A : Around) (s : Shared) (vs : List Value) (E : Value → Shared → Prop) (fr : List Env) (Q : Value → Shared → Prop), Calm k A → Ok hb μ s → RdA (dom μ) s.heap vs ds → OutC hb fr A (dom μ) s.heap →
    (∀ v d μ' s', Φ d μ' → Rd (dom μ') s'.heap v d → Ok hb μ' s' → FwU (frAs fr) (dom μ) (dom μ') s s' → Q v s') → wpAny (model prog w) A (call (.ref fa) vs) Q E s
end
section
variable {prog : Program} {w : World} {hb : Heap} {k : Nat} {μ : Mem} {Φ : Dat → Mem → Prop}
theorem callU (fr : List Env) {fa : Addr} {o : Obj} {fd : FuncData} {body : List Stmt} {ds : List Dat} (sc : Sh) (names : List Str) (ho : hb.get? fa = some o) (hd : o.data = .func fd) (hbody : fd.body = .stmts body)
    (lim : hb.NoLimit) (hcd : hb.CodeRec sc.code fd.qualname) (hbind : ∀ vs : List Value, vs.length = names.length → bindArgs fd ⟨vs, []⟩ = pure (names.zip vs))
    (h : ∀ (env : Env) (A : Around) (s : Shared) (E : Value → Shared → Prop), Calm k A → EnvOk hb sc env (names.zip ds) (dom μ) s.heap → Ok hb μ s → OutOk hb (some fr) sc env A (dom μ) s.heap → ∀ Q : Flow → Shared → Prop,
      (∀ f d μ' s', Φ d μ' → Rd (dom μ') s'.heap (match f with | .ret v => v | _ => .none) d → Ok hb μ' s' → FwU (frAs fr) (own sc env ++ dom μ) (own sc env ++ dom μ') s s' → Q f s') → wpAny (model prog w) A (execs body env) Q E s)
    (hsc : sc = ⟨fd.scope.names, fd.code⟩ := by rfl) (hok : parsOk names sc.names = true := by rfl) (hlen : names.length = ds.length := by rfl)
    (hglob : fd.globals = mainGlobals := by rfl) (hbi : fd.builtins = builtinsNs := by rfl) (hclo : fd.closure = [] := by rfl)
    (hco : fd.scope.isCoroutine = false := by rfl) (hgen : fd.scope.isGenerator = false := by rfl) (hk : fd.scope.kind = .function := by rfl) :
    ∀ (A : Around) (s : Shared) (vs : List Value) (E : Value → Shared → Prop) (Q : Value → Shared → Prop), Calm (k + 1) A → Ok hb μ s → RdA (dom μ) s.heap vs ds → OutC hb fr A (dom μ) s.heap →
      (∀ v d μ' s', Φ d μ' → Rd (dom μ') s'.heap v d → Ok hb μ' s' → FwU (frAs fr) (dom μ) (dom μ') s s' → Q v s') → wpAny (model prog w) A (call (.ref fa) vs) Q E s := by
  subst hsc
  simp only [parsOk, Bool.and_eq_true] at hok
  have hnd := nodupB_ok hok.1.1
  have hfree := free_of hok.2
  have hkinds : ∀ x ∈ names, fd.scope.names.lookup x = some .local ∨ fd.scope.names.lookup x = some .cell := fun x hx => by
    have := List.all_eq_true.mp hok.1.2 x hx
    simpa using this
  intro A s vs E Q c y r oc hQ
  have hvl : vs.length = names.length := by rw [r.length, hlen]
  refine wpAny_call (codeAny_call_cells (fd := fd) (binds := names.zip vs) c.room (y.base _ _ ho) hd (lim.keeps y.base) (hcd.keeps y.base) hbody (hbind vs hvl) hclo (fun x hx => ?_) (fun s₁ X => ?_) hco hgen hk)
  · have hm : x.1 ∈ names := (List.of_mem_zip hx).1
    rcases hkinds x.1 hm with q | q
    · exact .inl q
    · exact .inr ⟨q, cellsFrom_some _ _ _ (.inl q)⟩
  · obtain ⟨h₁, tk₁, rfl⟩ := X.toInCall.same
    have kp : ∀ b o, s.heap.get? b = some o → h₁.get? b = some o := X.toInCall.keep
    have g₁ : Fw (dom μ) (dom μ) s { s with heap := h₁, toks := tk₁ } := Fw.keeps kp
    have r₁ := r.step g₁
    have hL : (callEnvC fd s.heap.objs.size fa).locals = s.heap.objs.size := rfl
    have hge : ∀ n c, (n, c) ∈ (callEnvC fd s.heap.objs.size fa).cells → s.heap.objs.size < c := fun n c hm => X.above n c hm
    have hgl : ∀ n c, (callEnvC fd s.heap.objs.size fa).cells.lookup n = some c → s.heap.objs.size < c := fun n c hm => hge n c (mem_of_lookup hm)
    have nin : ∀ a, s.heap.objs.size ≤ a → a ∉ dom μ := fun a ha hm => absurd (dom_lt y hm) (Nat.not_lt.mpr ha)
    have e₁ : EnvOk hb ⟨fd.scope.names, fd.code⟩ (callEnvC fd s.heap.objs.size fa) (names.zip ds) (dom μ) h₁ := by
      refine ⟨rfl, hk, rfl, hglob, hbi, nin _ (Nat.le_refl _), base_none y (Nat.le_refl _), fun x c hx hc => ?_, X.apart, fun x hx => ?_, _, X.toInCall.ns, fun x d hx => ?_⟩
      · have := hgl x c hc
        exact ⟨nin _ (Nat.le_of_lt this), base_none y (Nat.le_of_lt this), Nat.ne_of_gt this, _, X.cell x c hc⟩
      · rcases hx with hx | hx
        · exact cellsFrom_some _ _ _ (.inl hx)
        · exact absurd hx (hfree x)
      · obtain ⟨v, hv, rv⟩ := zip_mem r₁ hx
        have hm : x ∈ names := (List.of_mem_zip hv).1
        have hz : (names.zip vs).map (·.1) = names := zip_names hvl.symm
        rcases hkinds x hm with q | q
        · exact .inl ⟨q, v, bindL_get (by show fd.scope.names.lookup x = _; exact q) _ _ (by rw [hz]; exact hnd) hv, rv⟩
        · obtain ⟨c', hc'⟩ := Option.isSome_iff_exists.mp (cellsFrom_some fd.scope.names (s.heap.objs.size + 1) [] (.inl q))
          have := hgl x c' hc'
          refine .inr ⟨.inl q, c', v, hc', nin _ (Nat.le_of_lt this), Nat.ne_of_gt this, ?_, rv⟩
          have hcell := X.cell x c' hc'
          rwa [bindC_get (by show fd.scope.names.lookup x ≠ _; rw [q]; intro z; cases z) _ _ (by rw [hz]; exact hnd) hv] at hcell
    have hownF : ∀ b ∈ own ⟨fd.scope.names, fd.code⟩ (callEnvC fd s.heap.objs.size fa), s.heap.get? b = none := fun b hm => by
      rcases own_mem hm with q | ⟨xn, _, hq⟩
      · rw [q, hL]; exact none_ge (Nat.le_refl _)
      · exact none_ge (Nat.le_of_lt (hgl xn _ hq))
    have o₁ : OutOk hb (some fr) ⟨fd.scope.names, fd.code⟩ (callEnvC fd s.heap.objs.size fa) (A.deeper (callEnvC fd s.heap.objs.size fa)) (dom μ) h₁ := by
      refine ⟨by show A.frames.map _ = _; rw [oc.1]; rfl, rfl, fun f hf => ?_⟩
      obtain ⟨b1, L, q, b2, b3, b4, b5, b6⟩ := oc.2 f hf
      exact ⟨b1, L, q, b2, b3, (fun hm => by have := hownF L hm; rw [b5] at this; cases this), b4, kp _ _ b5, b6⟩
    refine h _ _ _ _ (c.deeper _) e₁ (y.keeps kp) o₁ _ fun f d μ' s' a1 a2 a4 a5 => hQ _ _ μ' s' a1 a2 a4 ?_
    refine ⟨fun b o' hb' hf' e => a5.keep b o' (fun hm => ?_) hf' (kp b o' e), fun b o' hf' hb' e => a5.slot b o' hf' (fun hm => ?_) (kp b o' e), fun a ha => ?_, a5.os, a5.gens⟩
    · rcases List.mem_append.mp hm with hm | hm
      · rw [hownF b hm] at e; cases e
      · exact hb' hm
    · rcases List.mem_append.mp hm with hm | hm
      · rw [hownF b hm] at e; cases e
      · exact hb' hm
    · rcases a5.dom a (List.mem_append_right _ ha) with hm | hm
      · rcases List.mem_append.mp hm with hm | hm
        · exact .inr (hownF a hm)
        · exact .inl hm
      · right
        cases q : s.heap.get? a with
        | none => rfl
        | some o' => have := kp a o' q; rw [this] at hm; cases hm
theorem WpCu.fn {fa : Addr} {o : Obj} {fd : FuncData} {body : List Stmt} {ds : List Dat} (sc : Sh) (names : List Str) (ho : hb.get? fa = some o) (hd : o.data = .func fd) (hbody : fd.body = .stmts body)
    (lim : hb.NoLimit) (hcd : hb.CodeRec sc.code fd.qualname) (hbind : ∀ vs : List Value, vs.length = names.length → bindArgs fd ⟨vs, []⟩ = pure (names.zip vs))
    (h : ∀ (env : Env) (A : Around) (s : Shared) (E : Value → Shared → Prop) (fr : List Env), Calm k A → EnvOk hb sc env (names.zip ds) (dom μ) s.heap → Ok hb μ s → OutOk hb (some fr) sc env A (dom μ) s.heap → ∀ Q : Flow → Shared → Prop,
      (∀ f d μ' s', Φ d μ' → Rd (dom μ') s'.heap (match f with | .ret v => v | _ => .none) d → Ok hb μ' s' → FwU (frAs fr) (own sc env ++ dom μ) (own sc env ++ dom μ') s s' → Q f s') → wpAny (model prog w) A (execs body env) Q E s)
    (hsc : sc = ⟨fd.scope.names, fd.code⟩ := by rfl) (hok : parsOk names sc.names = true := by rfl) (hlen : names.length = ds.length := by rfl)
    (hglob : fd.globals = mainGlobals := by rfl) (hbi : fd.builtins = builtinsNs := by rfl) (hclo : fd.closure = [] := by rfl)
    (hco : fd.scope.isCoroutine = false := by rfl) (hgen : fd.scope.isGenerator = false := by rfl) (hk : fd.scope.kind = .function := by rfl) : WpCu prog w hb (k + 1) fa ds μ Φ :=
  fun A s vs E fr Q c y r oc hQ => callU fr sc names ho hd hbody lim hcd hbind (fun env A s E c en y o => h env A s E fr c en y o) hsc hok hlen hglob hbi hclo hco hgen hk A s vs E Q c y r oc hQ
end
/-- from a frame to the call behind it -/
theorem OutOk.toC {hb : Heap} {fr : List Env} {sc : Sh} {env : Env} {A : Around} {ρ : Ren} {X : List Addr} {h : Heap} (o : OutOk hb (some fr) sc env A X h) (en : EnvOk hb sc env ρ X h) : OutC hb (env :: fr) A X h := by
  refine ⟨o.1, fun f hf => ?_⟩
  rcases List.mem_cons.mp hf with rfl | hf
  · obtain ⟨q, es, ep, h1, h2⟩ := en.ownDict
    exact ⟨by rw [en.kind]; decide, f.locals, q, o.2.1, en.locX, en.locB, h1, es, ep, h2⟩
  · obtain ⟨a1, L, q, a2, a3, _, a5, a6, a7⟩ := o.2.2 f hf
    exact ⟨a1, L, q, a2, a3, a5, a6, a7⟩
section
variable {prog : Program} {w : World} {hb : Heap} {sc : Sh} {k : Nat} {ρ : Ren} {μ : Mem} {Φ : Dat → Mem → Prop} {mg : Str → Option Value}
/-- f(x) in a frame, where the call may raise -/
theorem callX {x : Str} {np pos : Pos} {args : List Expr} {fa : Addr} {o : Obj} {fd : FuncData} {env : Env} {A : Around} {s : Shared} {E : Value → Shared → Prop} {Q : Value → Shared → Prop} {fr : List Env} {Ξ : XP} (G : hb.Ns mainGlobals mg) (hx : mg x = some (.ref fa)) (ho : hb.get? fa = some o) (hd : o.data = .func fd)
    (c : Calm k A) (en : EnvOk hb sc env ρ (dom μ) s.heap) (y : Ok hb μ s) (oo : OutOk hb (some fr) sc env A (dom μ) s.heap)
    (h : WpA prog w hb sc k args pos ρ μ (fun ds μ₁ => WpCx prog w hb k fa ds μ₁ Φ Ξ))
    (hQ : ∀ v d μ' s', Φ d μ' → Rd (dom μ') s'.heap v d → Ok hb μ' s' → Fw (dom μ) (dom μ') s s' → Q v s')
    (hE : ∀ cls μ₁ μ' s₁ x s', Ξ cls μ' → Fw (dom μ) (dom μ₁) s s₁ → Raised hb (env :: fr) cls μ₁ μ' s₁ x s' → E x s')
    (hk : sc.names.lookup x = some .globalImplicit := by rfl) (hst : ∀ env, ∃ y r, backTo pos (starEach args env) = (false, y) :: r := by intro _; exact ⟨_, _, rfl⟩) (hdb : (x == ("__debug__" : Str)) = false := by rfl) :
    wpAny (model prog w) A (eval (.Call (.Name x np) args [] pos) env) Q E s := by
  refine wpAny_Call_NameR ((WpE.glob (k := k) (Φ := fun d μ' => d = .obj fa ∧ μ' = μ) G hx ⟨rfl, rfl⟩ hk hdb env A s E c en y).run _ fun v₁ d₁ μ₁ s₁ h₁ r₁ y₁ f₁ => ?_)
  obtain ⟨rfl, rfl⟩ := h₁
  cases r₁
  refine Calls.callWith_function (o := o) (fd := fd) ?_
  obtain ⟨yy, r, hy⟩ := hst env
  have key := h env A s₁ E c (en.step f₁) y₁
  rw [hy] at key ⊢
  refine Calls.evalArgs_plain (key.run _ fun vs ds μ₂ s₂ h₂ r₂ y₂ f₂ => ⟨⟨y₂.base _ _ ho, hd⟩, ?_⟩)
  have ft := f₁.trans f₂
  have o2 := oo.step (ft.lift (own sc env))
  exact h₂ A s₂ vs E (env :: fr) Q c y₂ r₂ (o2.toC (en.step ft)) (fun v d μ' s' a1 a2 a3 a4 => hQ v d μ' s' a1 a2 a3 (ft.trans a4)) fun cls μ' x s' b1 b2 => hE cls μ₂ μ' s₂ x s' b1 ft b2
end
end Mine

end

noncomputable section
namespace Mine
/-! zip of three lists -/
noncomputable abbrev zipO (TI TO : Addr) (f0 : Value) : Obj := { cls := .type "zip", dict := none, data := .fields #[f0, .bool false, .bool false, .ref TI, .ref TO], slots := #[] }
noncomputable abbrev tup3 (a b c : Value) : Obj := { cls := .type "tuple", data := .seq #[a, b, c] }
structure Far3 (z TI TO i1 i2 i3 l1 l2 l3 : Addr) : Prop where
  zt : TI ≠ z ∧ TO ≠ z ∧ i1 ≠ z ∧ i2 ≠ z ∧ i3 ≠ z
  it : TI ≠ TO ∧ TI ≠ i1 ∧ TI ≠ i2 ∧ TI ≠ i3
  ot : TO ≠ i1 ∧ TO ≠ i2 ∧ TO ≠ i3
  ii : i1 ≠ i2 ∧ i1 ≠ i3 ∧ i2 ≠ i3
  ll : ∀ l, l = l1 ∨ l = l2 ∨ l = l3 → l ≠ z ∧ l ≠ TO ∧ l ≠ i1 ∧ l ≠ i2 ∧ l ≠ i3
section
variable {prog : Program} {w : World} {A : Around} {E : Value → Shared → Prop} {s : Shared}
theorem tup3_set {T : Addr} {a b c x : Value} {k : Nat} {Q : Unit → Shared → Prop} (hT : s.heap.get? T = some (tup3 a b c))
    (h : ∀ h', h'.get? T = some { cls := .type "tuple", data := .seq ((#[a, b, c] : Array Value).setIfInBounds k x) } → Heap.SameBut T s.heap h' → Q () { s with heap := h' }) :
    wpAny (model prog w) A (updateSeq T (·.setIfInBounds k x)) Q E s := by
  refine wpAny_updateSeq hT rfl (h _ ?_ (Heap.SameBut.update ..))
  rw [Heap.get?_update_self _ hT rfl]
  simp [Obj.mapSeq]
variable {z TI TO i1 i2 i3 l1 l2 l3 : Addr} {n : Nat} {xs ys zs : Array Value}
theorem zip3_item {x y u a b c : Value} {Q : Value → Shared → Prop} (D : Far3 z TI TO i1 i2 i3 l1 l2 l3) (hz : s.heap.get? z = some (zipO TI TO .none)) (hTI : s.heap.get? TI = some (tup3 (.ref i1) (.ref i2) (.ref i3))) (hTO : s.heap.get? TO = some (tup3 a b c))
    (g1 : s.heap.IsListIter i1 l1 n) (g2 : s.heap.IsListIter i2 l2 n) (g3 : s.heap.IsListIter i3 l3 n) (m1 : s.heap.IsList l1 xs) (m2 : s.heap.IsList l2 ys) (m3 : s.heap.IsList l3 zs) (hx : xs[n]? = some x) (hy : ys[n]? = some y) (hu : zs[n]? = some u)
    (hQ : ∀ h', h'.get? z = some (zipO TI TO (rawInt s.heap.objs.size)) → h'.get? TO = some (tup3 x y u) → h'.IsListIter i1 l1 (n + 1) → h'.IsListIter i2 l2 (n + 1) → h'.IsListIter i3 l3 (n + 1) → h'.get? s.heap.objs.size = some (tup3 x y u) →
      (∀ q o, q ≠ z → q ≠ TO → q ≠ i1 → q ≠ i2 → q ≠ i3 → s.heap.get? q = some o → h'.get? q = some o) → Q (.ref s.heap.objs.size) { s with heap := h' }) :
    wpAny (model prog w) A (Builtin.«zip.__next__» ⟨[.ref z], []⟩) (fun fin s' => ∃ v, fin = .done (.ret v) ∧ Q v s') E s := by
  obtain ⟨zt1, zt2, zt3, zt4, zt5⟩ := D.zt
  obtain ⟨ot1, ot2, ot3⟩ := D.ot
  obtain ⟨ii1, ii2, ii3⟩ := D.ii
  obtain ⟨p1, p2, p3, p4, p5⟩ := D.ll l1 (.inl rfl)
  obtain ⟨q1, q2, q3, q4, q5⟩ := D.ll l2 (.inr (.inl rfl))
  obtain ⟨r1, r2, r3, r4, r5⟩ := D.ll l3 (.inr (.inr rfl))
  show wpAny _ _ (field (.ref z) 2 >>= _) _ _ _
  refine wpAny_bind (wpAny_field hz rfl (x := .bool false) rfl ?_)
  show wpAny _ _ (field (.ref z) 3 >>= _) _ _ _
  refine wpAny_bind (wpAny_field hz rfl (x := .ref TI) rfl (wpAny_bind (wpAny_seqItems hTI rfl ?_)))
  show wpAny _ _ (Builtin.SmallTypes.ownedTupleIsFree (.ref z) >>= _) _ _ _
  refine wpAny_bind ?_
  unfold Builtin.SmallTypes.ownedTupleIsFree
  refine wpAny_bind (wpAny_field hz rfl (x := .none) rfl (wpAny_pure ?_))
  simp only [if_true]
  refine wpAny_bind (wpAny_rule (wpAny_bind (wpAny_field hz rfl (x := .ref TO) rfl ?_)))
  refine wpAny_bind (wpAny_setField_rec hz (by simp) fun h1 hz1 s1 => ?_)
  replace hz1 : h1.get? z = some (zipO TI TO .ellipsis) := hz1
  refine wpAny_bind ?_
  simp only [List.zipIdx_cons, List.zipIdx_nil, List.forIn_cons, List.forIn_nil]
  have k1 : ∀ q o, q ≠ z → s.heap.get? q = some o → h1.get? q = some o := fun q o hq e => (s1.2 q hq).trans e
  -- the first
  refine wpAny_bind (wpAny_bind (wpAny_onRaise ?_))
  show wpAny _ _ (Builtin.SmallTypes.nextOf (.ref i1) >>= _) _ _ _
  refine wpAny_bind (wpAny_nextOf_list_item (g1.at fun o e => k1 _ o zt3 e) (m1.at fun o e => k1 _ o p1 e) hx fun h2 g1' s2 => wpAny_pure ?_)
  have k2 : ∀ q o, q ≠ z → q ≠ i1 → s.heap.get? q = some o → h2.get? q = some o := fun q o a b e => (s2.2 q b).trans (k1 q o a e)
  have hTO2 := k2 _ _ zt2 ot1 hTO
  refine wpAny_bind (wpAny_seqItems hTO2 rfl ?_)
  refine wpAny_bind (tup3_set hTO2 fun h3 hTO3 s3 => wpAny_bind (wpAny_letGo (wpAny_pure ?_)))
  replace hTO3 : h3.get? TO = some (tup3 x b c) := hTO3
  have k3 : ∀ q o, q ≠ z → q ≠ i1 → q ≠ TO → s.heap.get? q = some o → h3.get? q = some o := fun q o a b c e => (s3.2 q c).trans (k2 q o a b e)
  -- the second
  refine wpAny_bind (wpAny_bind (wpAny_onRaise ?_))
  show wpAny _ _ (Builtin.SmallTypes.nextOf (.ref i2) >>= _) _ _ _
  refine wpAny_bind (wpAny_nextOf_list_item (g2.at fun o e => k3 _ o zt4 ii1.symm ot2.symm e) (m2.at fun o e => k3 _ o q1 q3 q2 e) hy fun h4 g2' s4 => wpAny_pure ?_)
  have hTO4 : h4.get? TO = some (tup3 x b c) := (s4.2 _ ot2).trans hTO3
  have k4 : ∀ q o, q ≠ z → q ≠ i1 → q ≠ TO → q ≠ i2 → s.heap.get? q = some o → h4.get? q = some o := fun q o a b c d e => (s4.2 q d).trans (k3 q o a b c e)
  refine wpAny_bind (wpAny_seqItems hTO4 rfl ?_)
  refine wpAny_bind (tup3_set hTO4 fun h5 hTO5 s5 => wpAny_bind (wpAny_letGo (wpAny_pure ?_)))
  replace hTO5 : h5.get? TO = some (tup3 x y c) := hTO5
  have k5 : ∀ q o, q ≠ z → q ≠ i1 → q ≠ TO → q ≠ i2 → s.heap.get? q = some o → h5.get? q = some o := fun q o a b c d e => (s5.2 q c).trans (k4 q o a b c d e)
  -- the third
  refine wpAny_bind (wpAny_bind (wpAny_onRaise ?_))
  show wpAny _ _ (Builtin.SmallTypes.nextOf (.ref i3) >>= _) _ _ _
  refine wpAny_bind (wpAny_nextOf_list_item (g3.at fun o e => k5 _ o zt5 ii2.symm ot3.symm ii3.symm e) (m3.at fun o e => k5 _ o r1 r3 r2 r4 e) hu fun h6 g3' s6 => wpAny_pure ?_)
  have hTO6 : h6.get? TO = some (tup3 x y c) := (s6.2 _ ot3).trans hTO5
  have k6 : ∀ q o, q ≠ z → q ≠ i1 → q ≠ TO → q ≠ i2 → q ≠ i3 → s.heap.get? q = some o → h6.get? q = some o := fun q o a b c d f e => (s6.2 q f).trans (k5 q o a b c d e)
  refine wpAny_bind (wpAny_seqItems hTO6 rfl ?_)
  refine wpAny_bind (tup3_set hTO6 fun h7 hTO7 s7 => wpAny_bind (wpAny_letGo (wpAny_pure (wpAny_pure ?_))))
  replace hTO7 : h7.get? TO = some (tup3 x y u) := hTO7
  have k7 : ∀ q o, q ≠ z → q ≠ i1 → q ≠ TO → q ≠ i2 → q ≠ i3 → s.heap.get? q = some o → h7.get? q = some o := fun q o a b c d f e => (s7.2 q c).trans (k6 q o a b c d f e)
  refine wpAny_bind (wpAny_seqItems hTO7 rfl ?_)
  refine wpAny_bind (wpAny_newTuple ?_)
  have hsz : h7.objs.size = s.heap.objs.size := by rw [s7.1, s6.1, s5.1, s4.1, s3.1, s2.1, s1.1]
  have hz7 : h7.get? z = some (zipO TI TO .ellipsis) := (s7.2 _ zt2.symm).trans ((s6.2 _ zt5.symm).trans ((s5.2 _ zt2.symm).trans ((s4.2 _ zt4.symm).trans ((s3.2 _ zt2.symm).trans ((s2.2 _ zt3.symm).trans hz1)))))
  have a1 : h7.IsListIter i1 l1 (n + 1) := g1'.at fun o e => (s7.2 _ ot1.symm).trans ((s6.2 _ ii2).trans ((s5.2 _ ot1.symm).trans ((s4.2 _ ii1).trans ((s3.2 _ ot1.symm).trans e))))
  have a2 : h7.IsListIter i2 l2 (n + 1) := g2'.at fun o e => (s7.2 _ ot2.symm).trans ((s6.2 _ ii3).trans ((s5.2 _ ot2.symm).trans e))
  have a3 : h7.IsListIter i3 l3 (n + 1) := g3'.at fun o e => (s7.2 _ ot3.symm).trans e
  show wpAny _ _ (Builtin.SmallTypes.ownedTupleHandOut (.ref z) (.ref h7.objs.size) >>= _) _ _ _
  refine wpAny_bind ?_
  unfold Builtin.SmallTypes.ownedTupleHandOut
  have hz8 : (h7.push (tup3 x y u)).get? z = some (zipO TI TO .ellipsis) := Heap.get?_push_of_some _ hz7
  refine wpAny_bind (wpAny_setField_rec hz8 (by simp) fun h9 hz9 s9 => ?_)
  replace hz9 : h9.get? z = some (zipO TI TO (rawInt h7.objs.size)) := hz9
  refine wpAny_setField_rec hz9 (by simp) fun h10 hz10 s10 => ?_
  replace hz10 : h10.get? z = some (zipO TI TO (rawInt h7.objs.size)) := hz10
  have up : ∀ q o, q ≠ z → h7.get? q = some o → h10.get? q = some o := fun q o hq e => (s10.2 q hq).trans ((s9.2 q hq).trans (Heap.get?_push_of_some _ e))
  have hzn : h7.objs.size ≠ z := Nat.ne_of_gt (Heap.lt_size hz7)
  have hT10 : h10.get? h7.objs.size = some (tup3 x y u) := (s10.2 _ hzn).trans ((s9.2 _ hzn).trans (Heap.get?_push_size _ rfl))
  rw [hsz] at hz10 hT10
  refine wpAny_pure ⟨_, rfl, ?_⟩
  show Q (.ref h7.objs.size) _
  rw [hsz]
  exact hQ h10 hz10 (up _ _ zt2 hTO7) (a1.at fun o e => up _ o zt3 e) (a2.at fun o e => up _ o zt4 e) (a3.at fun o e => up _ o zt5 e) hT10 fun q o b1 b2 b3 b4 b5 e => up q o b1 (k7 q o b1 b3 b2 b4 b5 e)
theorem zip3_end {a b c : Value} {Q : PySem.Fin → Shared → Prop} (hh : A.handled = none) (D : Far3 z TI TO i1 i2 i3 l1 l2 l3) (hz : s.heap.get? z = some (zipO TI TO .none)) (hTI : s.heap.get? TI = some (tup3 (.ref i1) (.ref i2) (.ref i3))) (hTO : s.heap.get? TO = some (tup3 a b c))
    (g1 : s.heap.IsListIter i1 l1 n) (m1 : s.heap.IsList l1 xs) (hx : xs[n]? = none)
    (hE : ∀ h' e, (∀ q o, q ≠ z → q ≠ i1 → s.heap.get? q = some o → h'.get? q = some o) → (∃ o, h'.get? e = some o ∧ o.cls = .type "StopIteration") → E (.ref e) { s with heap := h' }) :
    wpAny (model prog w) A (Builtin.«zip.__next__» ⟨[.ref z], []⟩) Q E s := by
  obtain ⟨zt1, zt2, zt3, zt4, zt5⟩ := D.zt
  obtain ⟨p1, _⟩ := D.ll l1 (.inl rfl)
  show wpAny _ _ (field (.ref z) 2 >>= _) _ _ _
  refine wpAny_bind (wpAny_field hz rfl (x := .bool false) rfl ?_)
  show wpAny _ _ (field (.ref z) 3 >>= _) _ _ _
  refine wpAny_bind (wpAny_field hz rfl (x := .ref TI) rfl (wpAny_bind (wpAny_seqItems hTI rfl ?_)))
  show wpAny _ _ (Builtin.SmallTypes.ownedTupleIsFree (.ref z) >>= _) _ _ _
  refine wpAny_bind ?_
  unfold Builtin.SmallTypes.ownedTupleIsFree
  refine wpAny_bind (wpAny_field hz rfl (x := .none) rfl (wpAny_pure ?_))
  simp only [if_true]
  refine wpAny_bind (wpAny_rule (wpAny_bind (wpAny_field hz rfl (x := .ref TO) rfl ?_)))
  refine wpAny_bind (wpAny_setField_rec hz (by simp) fun h1 hz1 s1 => ?_)
  replace hz1 : h1.get? z = some (zipO TI TO .ellipsis) := hz1
  refine wpAny_bind ?_
  simp only [List.zipIdx_cons, List.zipIdx_nil, List.forIn_cons, List.forIn_nil]
  have k1 : ∀ q o, q ≠ z → s.heap.get? q = some o → h1.get? q = some o := fun q o hq e => (s1.2 q hq).trans e
  refine wpAny_bind (wpAny_bind (wpAny_onRaise ?_))
  show wpAny _ _ (Builtin.SmallTypes.nextOf (.ref i1) >>= _) _ _ _
  refine wpAny_bind (wpAny_nextOf_list_end hh (g1.at fun o e => k1 _ o zt3 e) (m1.at fun o e => k1 _ o p1 e) hx fun h2 e s2 he => ?_)
  obtain ⟨oe, hoe, hce⟩ := he
  have hz2 : h2.get? z = some (zipO TI TO .ellipsis) := s2 _ _ zt3.symm hz1
  have hez : e ≠ z := fun q => by subst q; rw [hz2] at hoe; cases hoe; simp at hce
  refine wpAny_setField_rec hz2 (by simp) fun h3 _ s3 => hE h3 e (fun q o c1 c2 e' => (s3.2 q c1).trans (s2 _ _ c2 (k1 q o c1 e'))) ⟨oe, (s3.2 _ hez).trans hoe, hce⟩
theorem next3_item {x y u a b c : Value} {Q : Option Value → Shared → Prop} (D : Far3 z TI TO i1 i2 i3 l1 l2 l3) (hz : s.heap.get? z = some (zipO TI TO .none)) (hTI : s.heap.get? TI = some (tup3 (.ref i1) (.ref i2) (.ref i3))) (hTO : s.heap.get? TO = some (tup3 a b c))
    (g1 : s.heap.IsListIter i1 l1 n) (g2 : s.heap.IsListIter i2 l2 n) (g3 : s.heap.IsListIter i3 l3 n) (m1 : s.heap.IsList l1 xs) (m2 : s.heap.IsList l2 ys) (m3 : s.heap.IsList l3 zs) (hx : xs[n]? = some x) (hy : ys[n]? = some y) (hu : zs[n]? = some u)
    (hQ : ∀ h', h'.get? z = some (zipO TI TO (rawInt s.heap.objs.size)) → h'.get? TO = some (tup3 x y u) → h'.IsListIter i1 l1 (n + 1) → h'.IsListIter i2 l2 (n + 1) → h'.IsListIter i3 l3 (n + 1) → h'.get? s.heap.objs.size = some (tup3 x y u) →
      (∀ q o, q ≠ z → q ≠ TO → q ≠ i1 → q ≠ i2 → q ≠ i3 → s.heap.get? q = some o → h'.get? q = some o) → Q (some (.ref s.heap.objs.size)) { s with heap := h' }) :
    wpAny (model prog w) A (pyNext (.ref z)) Q E s := by
  have hT : s.TypeIs (.ref z) "zip" := ⟨_, hz, rfl⟩
  unfold pyNext
  exact wpAny_bind (wpAny_attempt (wpAny_callSpecial?_slot (name := Str.ofString "__next__") hT F.slot_zip_next
    (wpAny_call_entry F.slot_zip_next hT F.entry_zip_next (zip3_item D hz hTI hTO g1 g2 g3 m1 m2 m3 hx hy hu fun h' b1 b2 b3 b4 b5 b6 b7 => wpAny_pure (hQ h' b1 b2 b3 b4 b5 b6 b7)) (F.args_zip_next_1 _))))
theorem next3_end {a b c : Value} {Q : Option Value → Shared → Prop} (hh : A.handled = none) (D : Far3 z TI TO i1 i2 i3 l1 l2 l3) (hz : s.heap.get? z = some (zipO TI TO .none)) (hTI : s.heap.get? TI = some (tup3 (.ref i1) (.ref i2) (.ref i3))) (hTO : s.heap.get? TO = some (tup3 a b c))
    (g1 : s.heap.IsListIter i1 l1 n) (m1 : s.heap.IsList l1 xs) (hx : xs[n]? = none) (hQ : ∀ h', (∀ q o, q ≠ z → q ≠ i1 → s.heap.get? q = some o → h'.get? q = some o) → Q none { s with heap := h' }) : wpAny (model prog w) A (pyNext (.ref z)) Q E s := by
  have hT : s.TypeIs (.ref z) "zip" := ⟨_, hz, rfl⟩
  unfold pyNext
  refine wpAny_bind (wpAny_attempt (wpAny_callSpecial?_slot (name := Str.ofString "__next__") hT F.slot_zip_next
    (wpAny_call_entry F.slot_zip_next hT F.entry_zip_next (zip3_end hh D hz hTI hTO g1 m1 hx fun h' e hk he => ?_) (F.args_zip_next_1 _))))
  obtain ⟨o, ho, hc⟩ := he
  refine wpAny_bind (wpAny_isInstance (T := "StopIteration") (b := true) ⟨o, ho, hc⟩ isSubtype_stop ?_)
  exact wpAny_pure (hQ _ hk)
end
theorem tc_zip3 (a b c : Value) : checkTypeCall "zip" ⟨[a, b, c], []⟩ = pure () := by kernel_rfl
theorem nc_zip3 (a b c : Value) : checkBuiltinCall "zip.__new__" ⟨[.type "zip", a, b, c], []⟩ = pure () := by kernel_rfl
theorem oi_4 (a b c d : Value) : argsOk "object.__init__" ⟨[a, b, c, d], []⟩ := by
  unfold argsOk; rw [signature?_of (id := "object.__init__") (n := ['_', '_', 't', 'i', 'n', 'i', '_', '_']) (o := ['t', 'c', 'e', 'j', 'b', 'o']) (by kernel_rfl) PySem.F.owner_object]; kernel_rfl
noncomputable abbrev liO (l : Addr) : Obj := { cls := .type "list_iterator", data := .fields #[.ref l, .int 0 0] }
noncomputable abbrev z3a (h : Heap) (l1 : Addr) : Heap := h.push (liO l1)
noncomputable abbrev z3b (h : Heap) (l1 l2 : Addr) : Heap := (z3a h l1).push (liO l2)
noncomputable abbrev z3c (h : Heap) (l1 l2 l3 : Addr) : Heap := (z3b h l1 l2).push (liO l3)
noncomputable abbrev z3d (h : Heap) (l1 l2 l3 : Addr) : Heap := (z3c h l1 l2 l3).push (tup3 (.ref h.objs.size) (.ref (z3a h l1).objs.size) (.ref (z3b h l1 l2).objs.size))
noncomputable abbrev z3e (h : Heap) (l1 l2 l3 : Addr) : Heap := (z3d h l1 l2 l3).push (tup3 .none .none .none)
/-- the heap behind zip(l1, l2, l3) -/
noncomputable abbrev z3H (h : Heap) (l1 l2 l3 : Addr) : Heap := (z3e h l1 l2 l3).push { cls := .type "zip", data := .fields #[.none, .bool false, .bool false, .ref (z3c h l1 l2 l3).objs.size, .ref (z3d h l1 l2 l3).objs.size] }
set_option maxHeartbeats 2000000 in
theorem zip3_new (l1 l2 l3 : Addr) (xs ys zs : Array Value) :
    Meets (Builtin.«zip.__new__» ⟨[.type "zip", .ref l1, .ref l2, .ref l3], []⟩) (fun _ R s => s.heap.IsList l1 xs ∧ s.heap.IsList l2 ys ∧ s.heap.IsList l3 zs ∧
      R (.ok (.ret (.ref (z3e s.heap l1 l2 l3).objs.size))) { s with heap := z3H s.heap l1 l2 l3 }) :=
  .of_wp fun prog w A R s h => by
    obtain ⟨hp, g, d, tk, os⟩ := s; obtain ⟨m1, m2, m3, h⟩ := h
    have hsub := sub_zip
    have hL1 : Heap.IsList (Shared.heap ⟨hp, g, d, tk, os⟩) l1 xs := m1
    have hL2 : Heap.IsList (Shared.heap ⟨hp.push (liO l1), g, d, tk, os⟩) l2 ys := Heap.IsList.push m2 _
    have hL3 : Heap.IsList (Shared.heap ⟨(hp.push (liO l1)).push (liO l2), g, d, tk, os⟩) l3 zs := Heap.IsList.push (Heap.IsList.push m3 _) _
    repeat (first | (with_reducible refine wpAny_pyIter_list hL1 ?_) | (with_reducible refine wpAny_pyIter_list hL2 ?_) | (with_reducible refine wpAny_pyIter_list hL3 ?_) | wp_step)
    exact ⟨_, rfl, h⟩
section
variable {prog : Program} {w : World} {A : Around} {E : Value → Shared → Prop} {s : Shared}
theorem call_zip3 {l1 l2 l3 : Addr} {xs ys zs : Array Value} {Q : Value → Shared → Prop} (m1 : s.heap.IsList l1 xs) (m2 : s.heap.IsList l2 ys) (m3 : s.heap.IsList l3 zs)
    (h : ∀ h', h'.get? (s.heap.objs.size + 5) = some (zipO (s.heap.objs.size + 3) (s.heap.objs.size + 4) .none) → h'.get? (s.heap.objs.size + 3) = some (tup3 (.ref s.heap.objs.size) (.ref (s.heap.objs.size + 1)) (.ref (s.heap.objs.size + 2))) →
      h'.get? (s.heap.objs.size + 4) = some (tup3 .none .none .none) → h'.IsListIter s.heap.objs.size l1 0 → h'.IsListIter (s.heap.objs.size + 1) l2 0 → h'.IsListIter (s.heap.objs.size + 2) l3 0 →
      (∀ q o, s.heap.get? q = some o → h'.get? q = some o) → Q (.ref (s.heap.objs.size + 5)) { s with heap := h' }) :
    wpAny (model prog w) A (call (.type "zip") [.ref l1, .ref l2, .ref l3]) Q E s := by
  refine callType_new F.called_zip (by decide) (tc_zip3 _ _ _) (nc_zip3 _ _ _) (fun obj => oi_4 obj _ _ _) F.entry_zip_new (zip3_new l1 l2 l3 xs ys zs) ⟨m1, m2, m3, ?_⟩
  have n1 : (z3a s.heap l1).objs.size = s.heap.objs.size + 1 := Heap.size_push ..
  have n2 : (z3b s.heap l1 l2).objs.size = s.heap.objs.size + 2 := by rw [Heap.size_push, n1]
  have n3 : (z3c s.heap l1 l2 l3).objs.size = s.heap.objs.size + 3 := by rw [Heap.size_push, n2]
  have n4 : (z3d s.heap l1 l2 l3).objs.size = s.heap.objs.size + 4 := by rw [Heap.size_push, n3]
  have n5 : (z3e s.heap l1 l2 l3).objs.size = s.heap.objs.size + 5 := by rw [Heap.size_push, n4]
  have e6 : (z3H s.heap l1 l2 l3).get? (z3e s.heap l1 l2 l3).objs.size = some _ := Heap.get?_push_size _ rfl
  have e5 : (z3H s.heap l1 l2 l3).get? (z3d s.heap l1 l2 l3).objs.size = some _ := Heap.get?_push_of_some _ (Heap.get?_push_size _ rfl)
  have e4 : (z3H s.heap l1 l2 l3).get? (z3c s.heap l1 l2 l3).objs.size = some _ := Heap.get?_push_of_some _ (Heap.get?_push_of_some _ (Heap.get?_push_size _ rfl))
  have e3 : (z3H s.heap l1 l2 l3).get? (z3b s.heap l1 l2).objs.size = some _ := Heap.get?_push_of_some _ (Heap.get?_push_of_some _ (Heap.get?_push_of_some _ (Heap.get?_push_size _ rfl)))
  have e2 : (z3H s.heap l1 l2 l3).get? (z3a s.heap l1).objs.size = some _ := Heap.get?_push_of_some _ (Heap.get?_push_of_some _ (Heap.get?_push_of_some _ (Heap.get?_push_of_some _ (Heap.get?_push_size _ rfl))))
  have e1 : (z3H s.heap l1 l2 l3).get? s.heap.objs.size = some _ := Heap.get?_push_of_some _ (Heap.get?_push_of_some _ (Heap.get?_push_of_some _ (Heap.get?_push_of_some _ (Heap.get?_push_of_some _ (Heap.get?_push_size _ rfl)))))
  show _ ∧ _
  rw [n3, n4, n5] at e6
  rw [n4] at e5
  rw [n1, n2, n3] at e4
  rw [n2] at e3
  rw [n1] at e2
  rw [n5]
  exact ⟨⟨_, e6, rfl⟩, h _ e6 e4 e5 ⟨_, e1, rfl, rfl⟩ ⟨_, e2, rfl, rfl⟩ ⟨_, e3, rfl, rfl⟩ fun q o x => Heap.get?_push_of_some _ (Heap.get?_push_of_some _ (Heap.get?_push_of_some _ (Heap.get?_push_of_some _ (Heap.get?_push_of_some _ (Heap.get?_push_of_some _ x)))))⟩
theorem go3 {es : List Expr} {k : Nat} {pos : Pos} {z TI TO T : Addr} {Q : Unit → Shared → Prop} (hz : s.heap.get? z = some (zipO TI TO (rawInt T)))
    (hQ : ∀ h', h'.get? z = some (zipO TI TO .none) → Heap.SameBut z s.heap h' → Q () { s with heap := h' }) : wpAny (model prog w) A (letOwnedTupleGo (.Tuple es k pos) (.ref z) (.ref T)) Q E s := wpAny_letOwnedTupleGo_zip (x1 := k) hz hQ
end
end Mine

end

noncomputable section
namespace Mine
noncomputable def any3 (o : Obj) : Prop := ∃ a b c, o = tup3 a b c
noncomputable def is3 (a b c : Value) (o : Obj) : Prop := o = tup3 a b c
noncomputable def zip3Pins (z TI TO i1 i2 i3 l1 l2 l3 : Addr) (i : Nat) : Mem := [(z, .pin (zipIt TI TO)), (TI, .pin (is3 (.ref i1) (.ref i2) (.ref i3))), (TO, .pin any3), (i1, .pin (listIt l1 i)), (i2, .pin (listIt l2 i)), (i3, .pin (listIt l3 i))]
theorem zip3Pins_all {z TI TO i1 i2 i3 l1 l2 l3 : Addr} {i : Nat} : AllPin (zip3Pins z TI TO i1 i2 i3 l1 l2 l3 i) := by
  intro p hp
  simp only [zip3Pins, List.mem_cons, List.not_mem_nil, or_false] at hp
  rcases hp with rfl | rfl | rfl | rfl | rfl | rfl <;> exact ⟨_, rfl⟩
noncomputable def zip3D : List Dat → List Dat → List Dat → List Dat
  | a :: x, b :: y, c :: z => .tuple [a, b, c] :: zip3D x y z
  | _, _, _ => []
section
variable {prog : Program} {w : World} {hb : Heap} {sc : Sh} {k : Nat} {ρ : Ren} {μ : Mem}
theorem zip3_facts {z TI TO i1 i2 i3 l1 l2 l3 : Addr} {i : Nat} {s : Shared} (y : Ok hb (zip3Pins z TI TO i1 i2 i3 l1 l2 l3 i ++ μ) s) (h1 : l1 ∉ dom (zip3Pins z TI TO i1 i2 i3 l1 l2 l3 i ++ μ)) (h2 : l2 ∉ dom (zip3Pins z TI TO i1 i2 i3 l1 l2 l3 i ++ μ)) (h3 : l3 ∉ dom (zip3Pins z TI TO i1 i2 i3 l1 l2 l3 i ++ μ)) :
    Far3 z TI TO i1 i2 i3 l1 l2 l3 ∧ s.heap.get? z = some (zipO TI TO .none) ∧ s.heap.get? TI = some (tup3 (.ref i1) (.ref i2) (.ref i3)) ∧ (∃ a b c, s.heap.get? TO = some (tup3 a b c)) ∧ s.heap.IsListIter i1 l1 i ∧ s.heap.IsListIter i2 l2 i ∧ s.heap.IsListIter i3 l3 i := by
  obtain ⟨oz, ez, rz⟩ := y.mem (z, _) (.head _)
  obtain ⟨oI, eI, rI⟩ := y.mem (TI, _) (.tail _ (.head _))
  obtain ⟨oO, eO, a, b, c, rO⟩ := y.mem (TO, _) (.tail _ (.tail _ (.head _)))
  have e1 := y.mem (i1, _) (.tail _ (.tail _ (.tail _ (.head _))))
  have e2 := y.mem (i2, _) (.tail _ (.tail _ (.tail _ (.tail _ (.head _)))))
  have e3 := y.mem (i3, _) (.tail _ (.tail _ (.tail _ (.tail _ (.tail _ (.head _))))))
  unfold zipIt at rz; unfold is3 at rI
  subst rz; subst rI; subst rO
  have nd := y.nodup
  simp only [zip3Pins, dom, MO.more, List.nil_append, List.cons_append, List.nodup_cons, List.mem_cons, not_or] at nd h1 h2 h3
  obtain ⟨⟨a1, a2, a3, a4, a5, _⟩, ⟨b1, b2, b3, b4, _⟩, ⟨c1, c2, c3, _⟩, ⟨d1, d2, _⟩, ⟨f1, _⟩, _⟩ := nd
  obtain ⟨p1, p2, p3, p4, p5, p6, _⟩ := h1
  obtain ⟨q1, q2, q3, q4, q5, q6, _⟩ := h2
  obtain ⟨r1, r2, r3, r4, r5, r6, _⟩ := h3
  refine ⟨⟨⟨Ne.symm a1, Ne.symm a2, Ne.symm a3, Ne.symm a4, Ne.symm a5⟩, ⟨b1, b2, b3, b4⟩, ⟨c1, c2, c3⟩, ⟨d1, d2, f1⟩, fun l hl => ?_⟩, ez, eI, ⟨a, b, c, eO⟩, e1, e2, e3⟩
  rcases hl with rfl | rfl | rfl
  · exact ⟨p1, p3, p4, p5, p6⟩
  · exact ⟨q1, q3, q4, q5, q6⟩
  · exact ⟨r1, r3, r4, r5, r6⟩
theorem pin_at {h h' : Heap} {i l : Addr} {n : Nat} (g : h.IsListIter i l n) (k : ∀ o, h.get? i = some o → h'.get? i = some o) : ∃ o, h'.get? i = some o ∧ listIt l n o := by
  obtain ⟨o, e, z⟩ := g
  exact ⟨o, k o e, z⟩
theorem Iter.zip3 {es : List Expr} {nn : Nat} {pp : Pos} {z TI TO i1 i2 i3 l1 l2 l3 : Addr} {xd yd zd : List Dat} (hl1 : xd.length = yd.length) (hl2 : xd.length = zd.length) : ∀ (n i : Nat), n + i = xd.length →
    Iter prog w hb [(.ref l1, .list xd), (.ref l2, .list yd), (.ref l3, .list zd)] (.Tuple es nn pp) z (zip3D (xd.drop i) (yd.drop i) (zd.drop i)) (zip3Pins z TI TO i1 i2 i3 l1 l2 l3 i)
  | 0, i, hn => by
    rw [List.drop_eq_nil_of_le (show xd.length ≤ i by omega)]
    show Iter _ _ _ _ _ _ [] _
    refine ⟨zip3Pins_all, fun A E s μ Q y h => ?_, fun k A E s μ Q c y hs h => ?_⟩
    · obtain ⟨oz, ez, rz⟩ := y.mem (z, _) (.head _)
      unfold zipIt at rz; subst rz
      exact wpAny_pyIter_zip ez h
    · have r1 := hs _ (.head _)
      have r2 := hs _ (.tail _ (.head _))
      have r3 := hs _ (.tail _ (.tail _ (.head _)))
      cases r1 with
      | list h1 m1 q1 =>
      cases r2 with
      | list h2 m2 q2 =>
      cases r3 with
      | list h3 m3 q3 =>
      obtain ⟨D, hz, hTI, ⟨a, b, c', hTO⟩, g1, g2, g3⟩ := zip3_facts y h1 h2 h3
      refine next3_end c.han D hz hTI hTO g1 m1 (by simp [q1.length]; omega) fun h' he' => ?_
      obtain ⟨y2, f2⟩ := y.unpin (P := zip3Pins z TI TO i1 i2 i3 l1 l2 l3 i) (tk := s.toks) (h' := h') fun b o hb' zz => he' b o (fun q => hb' (q ▸ .head _)) (fun q => hb' (q ▸ .tail _ (.tail _ (.tail _ (.head _))))) zz
      exact h _ y2 f2
  | n + 1, i, hn => by
    have hx : i < xd.length := by omega
    have hy : i < yd.length := by omega
    have hu : i < zd.length := by omega
    rw [List.drop_eq_getElem_cons hx, List.drop_eq_getElem_cons hy, List.drop_eq_getElem_cons hu]
    show Iter _ _ _ _ _ _ (Dat.tuple [xd[i], yd[i], zd[i]] :: zip3D (xd.drop (i + 1)) (yd.drop (i + 1)) (zd.drop (i + 1))) _
    refine ⟨zip3Pins_all, fun A E s μ Q y h => ?_, fun k A E s μ Q c y hs h => ?_⟩
    · obtain ⟨oz, ez, rz⟩ := y.mem (z, _) (.head _)
      unfold zipIt at rz; subst rz
      exact wpAny_pyIter_zip ez h
    · have r1 := hs _ (.head _)
      have r2 := hs _ (.tail _ (.head _))
      have r3 := hs _ (.tail _ (.tail _ (.head _)))
      cases r1 with
      | list h1 m1 q1 =>
      cases r2 with
      | list h2 m2 q2 =>
      cases r3 with
      | list h3 m3 q3 =>
      obtain ⟨D, hz, hTI, ⟨a, b, c', hTO⟩, g1, g2, g3⟩ := zip3_facts y h1 h2 h3
      obtain ⟨v1, hv1, rv1⟩ := q1.get i (List.getElem?_eq_getElem hx)
      obtain ⟨v2, hv2, rv2⟩ := q2.get i (List.getElem?_eq_getElem hy)
      obtain ⟨v3, hv3, rv3⟩ := q3.get i (List.getElem?_eq_getElem hu)
      refine next3_item D hz hTI hTO g1 g2 g3 m1 m2 m3 (by simpa using hv1) (by simpa using hv2) (by simpa using hv3) fun h' hz' hTO' g1' g2' g3' hT hk => ⟨_, rfl, ?_⟩
      refine go3 hz' fun h'' hz'' hs'' => ?_
      obtain ⟨zt1, zt2, zt3, zt4, zt5⟩ := D.zt
      obtain ⟨it1, it2, it3, it4⟩ := D.it
      have hTz : s.heap.objs.size ≠ z := Nat.ne_of_gt (Heap.lt_size hz)
      have up : ∀ q o, q ≠ z → h'.get? q = some o → h''.get? q = some o := fun q o hq e => (hs''.2 q hq).trans e
      have hTI' : h''.get? TI = some (tup3 (.ref i1) (.ref i2) (.ref i3)) := up _ _ zt1 (hk TI _ zt1 it1 it2 it3 it4 hTI)
      obtain ⟨o1, e1, t1⟩ := pin_at g1' fun o e => up _ o zt3 e
      obtain ⟨o2, e2, t2⟩ := pin_at g2' fun o e => up _ o zt4 e
      obtain ⟨o3, e3, t3⟩ := pin_at g3' fun o e => up _ o zt5 e
      obtain ⟨y2, f2⟩ := y.repin (P := zip3Pins z TI TO i1 i2 i3 l1 l2 l3 i) (P' := zip3Pins z TI TO i1 i2 i3 l1 l2 l3 (i + 1)) (tk := s.toks) (h' := h'') rfl
        (fun b o hb' zz => up b o (fun q => hb' (q ▸ .head _)) (hk b o (fun q => hb' (q ▸ .head _)) (fun q => hb' (q ▸ .tail _ (.tail _ (.head _)))) (fun q => hb' (q ▸ .tail _ (.tail _ (.tail _ (.head _))))) (fun q => hb' (q ▸ .tail _ (.tail _ (.tail _ (.tail _ (.head _)))))) (fun q => hb' (q ▸ .tail _ (.tail _ (.tail _ (.tail _ (.tail _ (.head _))))))) zz))
        (PinsAt.cons (PinsAt.cons (PinsAt.cons (PinsAt.cons (PinsAt.cons (PinsAt.nil.cons e3 t3) e2 t2) e1 t1) (up _ _ zt2 hTO') ⟨_, _, _, rfl⟩) hTI' rfl) hz'' rfl)
      refine h _ _ _ (Iter.zip3 hl1 hl2 n (i + 1) (by omega)) rfl ?_ y2 f2
      refine .tuple (vs := [v1, v2, v3]) (fun hm => ?_) ⟨_, up _ _ hTz hT, rfl, _, rfl⟩ (.cons (rv1.step f2) (.cons (rv2.step f2) (.cons (rv3.step f2) .nil)))
      have hm' : s.heap.objs.size ∈ dom (zip3Pins z TI TO i1 i2 i3 l1 l2 l3 i ++ μ) := hm
      exact absurd (dom_lt y hm') (Nat.lt_irrefl _)
theorem WpIt.zip3 {es : List Expr} {nn : Nat} {pp np pos : Pos} {a b c : Expr} {Φ : List Dat → Mem → Prop} {mg mb : Str → Option Value} (G : hb.Ns mainGlobals mg) (B : hb.Ns builtinsNs mb) (hm : mg ("zip" : Str) = none) (hv : mb ("zip" : Str) = some (.type "zip"))
    (h : WpA prog w hb sc k [a, b, c] pos ρ μ (fun dd μ₁ => ∃ xd yd zd, dd = [.list xd, .list yd, .list zd] ∧ xd.length = yd.length ∧ xd.length = zd.length ∧ Φ (zip3D xd yd zd) μ₁)) (hk : sc.names.lookup ("zip" : Str) = some .globalImplicit := by rfl)
    (he : ∀ env, starEach [a, b, c] env = [(false, eval a env), (false, eval b env), (false, eval c env)] := by intro _; rfl) : WpIt prog w hb sc k (.Tuple es nn pp) (.Call (.Name "zip" np) [a, b, c] [] pos) ρ μ Φ := by
  refine ⟨?_⟩
  intro env A s E Q cc en y hQ
  refine wpAny_Call_NameR (ev_builtin en y G B hm hv ?_ hk)
  refine PyProof.Rows.callWith_type (by rw [he]; rfl) ?_
  have key := h env A s E cc en y
  rw [he] at key ⊢
  refine Calls.evalArgs_plain (key.run _ fun vv dd μ₁ s₁ h₁ r₁ y₁ f₁ => ?_)
  obtain ⟨xd, yd, zd, rfl, hl1, hl2, hΦ⟩ := h₁
  cases r₁ with
  | cons ra r₁ =>
  cases r₁ with
  | cons rb r₁ =>
  cases r₁ with
  | cons rc r₁ =>
  cases r₁
  have ra' := ra
  have rb' := rb
  have rc' := rc
  cases ra with
  | list h1 m1 q1 =>
  cases rb with
  | list h2 m2 q2 =>
  cases rc with
  | list h3 m3 q3 =>
  rename_i l1 vs l2 ws l3 us
  refine call_zip3 m1 m2 m3 fun h' hz' hTI' hTO' g1 g2 g3 hk' => wpAny_pyIter_zip hz' ?_
  obtain ⟨o1, e1, t1⟩ := g1
  obtain ⟨o2, e2, t2⟩ := g2
  obtain ⟨o3, e3, t3⟩ := g3
  obtain ⟨y2, f2⟩ := y₁.addPins (tk := s₁.toks) (P := zip3Pins (s₁.heap.objs.size + 5) (s₁.heap.objs.size + 3) (s₁.heap.objs.size + 4) s₁.heap.objs.size (s₁.heap.objs.size + 1) (s₁.heap.objs.size + 2) l1 l2 l3 0) hk'
    (PinsAt.cons (PinsAt.cons (PinsAt.cons (PinsAt.cons (PinsAt.cons (PinsAt.nil.cons e3 t3) e2 t2) e1 t1) hTO' ⟨_, _, _, rfl⟩) hTI' rfl) hz' rfl)
    (fun p hp => by
      simp only [zip3Pins, List.mem_cons, List.not_mem_nil, or_false] at hp
      rcases hp with rfl | rfl | rfl | rfl | rfl | rfl <;> simp) (by simp [zip3Pins])
  refine hQ _ _ _ [(.ref l1, .list xd), (.ref l2, .list yd), (.ref l3, .list zd)] μ₁ _ hΦ ?_ y2 (fun p hp => ?_) (f₁.trans f2)
  · simpa using Iter.zip3 (prog := prog) (w := w) (hb := hb) (es := es) (nn := nn) (pp := pp) (z := s₁.heap.objs.size + 5) (TI := s₁.heap.objs.size + 3) (TO := s₁.heap.objs.size + 4) (i1 := s₁.heap.objs.size) (i2 := s₁.heap.objs.size + 1) (i3 := s₁.heap.objs.size + 2) (l1 := l1) (l2 := l2) (l3 := l3) hl1 hl2 xd.length 0 (by omega)
  · rcases List.mem_cons.mp hp with rfl | hp
    · exact ra'.step f2
    · rcases List.mem_cons.mp hp with rfl | hp
      · exact rb'.step f2
      · rw [List.mem_singleton.mp hp]; exact rc'.step f2
end
end Mine

end

noncomputable section
namespace Mine
section
variable {prog : Program} {w : World} {hb : Heap} {M : MP} {sc : Sh} {k : Nat} {ρ : Ren} {μ : Mem} {Ψ : AFlow → Ren → Mem → Prop} {Ξ : XP} {mg : Str → Option Value}
theorem PAll.orNil : PAll prog w hb M sc k .Or [] ρ false := fun μ hM => .orNil ⟨rfl, rfl⟩
theorem PAll.or {x : Expr} {r : List Expr} {p q : Bool} (h : PB prog w hb M sc k x ρ p) (hr : p = false → PAll prog w hb M sc k .Or r ρ q) : PAll prog w hb M sc k .Or (x :: r) ρ (p || q) := fun μ hM => .or (h.useM hM (by
  cases p
  · exact hr rfl μ hM
  · exact ⟨rfl, rfl⟩))
/-- x and z, as a value -/
theorem PE.and2 {x z : Expr} {pos : Pos} {p q : Bool} (h : PE prog w hb M sc k x ρ (.bool p)) (hz : p = true → PE prog w hb M sc k z ρ (.bool q)) : PE prog w hb M sc k (.BoolOp .And [x, z] pos) ρ (.bool (p && q)) := fun μ hM => .and2 (h.useM hM ⟨p, rfl, by
  cases p
  · exact ⟨rfl, rfl⟩
  · exact hz rfl μ hM⟩)
/-- a, b = e -/
theorem Wp1.assignTup {es : List Expr} {n : Nat} {tp pos : Pos} {value : Expr} (h : WpE prog w hb sc k value ρ μ (fun d μ₁ => ∃ ρ₁, bindT (.Tuple es n tp) d = some ρ₁ ∧ (ρ₁.all fun p => sc.names.lookup p.1 == some .local) = true ∧ Ψ .next (ρ₁ ++ ρ) μ₁))
    (hp : plainTgt (.Tuple es n tp) = true := by rfl) (hs : ∀ env, swapsWithSole [.Tuple es n tp] value pos.line env = pure false := by intro _; rfl) (hw : ∀ env, swappedStores [.Tuple es n tp] value env = pure none := by intro _; rfl) : Wp1 prog w hb sc k (.Assign [.Tuple es n tp] value pos) ρ μ Ψ := by
  intro env A s E c en y
  refine ⟨fun Q hQ => ?_⟩
  refine Assign_Tuple ((h env A s E c en y).run _ fun v d μ₁ s₁ h₁ r₁ y₁ f₁ => ?_) (hs env) (hw env)
  obtain ⟨ρ₁, hb1, hb2, hΨ⟩ := h₁
  have hloc : ∀ p ∈ ρ₁, sc.names.lookup p.1 = some .local := fun p hp' => by
    have := List.all_eq_true.mp hb2 p hp'
    simpa using this
  refine assignT c.han hb1 hloc (fun es n p z => plain_each es (by rw [z] at hp; exact hp)) (en.step f₁) y₁ r₁ fun h4 tk4 e4 y4 k4 => ?_
  have f4 : Fw (own sc env ++ dom μ₁) (own sc env ++ dom μ₁) s₁ { s₁ with heap := h4, toks := tk4 } := ⟨fun b o hb' z => k4 b o (fun q => hb' (q ▸ List.mem_append_left _ (.head _))) z, fun _ h => .inl h, rfl, fun z => z⟩
  exact hQ .next .next _ μ₁ _ hΨ trivial e4 y4 ((f₁.lift _).trans f4)
/-- a, b = f(x), where the frames may have other slots behind the call -/
theorem Wp1x.assignU {es : List Expr} {n : Nat} {tp np cpos pos : Pos} {x : Str} {args : List Expr} {fa : Addr} {o : Obj} {fd : FuncData} (G : hb.Ns mainGlobals mg) (hx : mg x = some (.ref fa)) (ho : hb.get? fa = some o) (hd : o.data = .func fd)
    (h : WpA prog w hb sc k args cpos ρ μ (fun ds μ₁ => WpCu prog w hb k fa ds μ₁ (fun d μ₂ => ∃ ρ₁, bindT (.Tuple es n tp) d = some ρ₁ ∧ (ρ₁.all fun p => sc.names.lookup p.1 == some .local) = true ∧ Ψ .next (ρ₁ ++ ρ) μ₂)))
    (hp : plainTgt (.Tuple es n tp) = true := by rfl) (hs : ∀ env, swapsWithSole [.Tuple es n tp] (.Call (.Name x np) args [] cpos) pos.line env = pure false := by intro _; rfl) (hw : ∀ env, swappedStores [.Tuple es n tp] (.Call (.Name x np) args [] cpos) env = pure none := by intro _; rfl)
    (hk : sc.names.lookup x = some .globalImplicit := by rfl) (hst : ∀ env, ∃ y r, backTo cpos (starEach args env) = (false, y) :: r := by intro _; exact ⟨_, _, rfl⟩) (hdb : (x == ("__debug__" : Str)) = false := by rfl) :
    Wp1x prog w hb (some []) sc k (.Assign [.Tuple es n tp] (.Call (.Name x np) args [] cpos) pos) ρ μ Ψ Ξ := by
  intro env A s E c en y oo
  refine ⟨fun Q hQ _ => ?_⟩
  refine Assign_Tuple ?_ (hs env) (hw env)
  refine wpAny_Call_NameR ((WpE.glob (k := k) (Φ := fun d μ' => d = .obj fa ∧ μ' = μ) G hx ⟨rfl, rfl⟩ hk hdb env A s E c en y).run _ fun v₁ d₁ μ₁ s₁ h₁ r₁ y₁ f₁ => ?_)
  obtain ⟨rfl, rfl⟩ := h₁
  cases r₁
  refine Calls.callWith_function (o := o) (fd := fd) ?_
  obtain ⟨yy, r, hy⟩ := hst env
  have key := h env A s₁ E c (en.step f₁) y₁
  rw [hy] at key ⊢
  refine Calls.evalArgs_plain (key.run _ fun vs ds μ₂ s₂ h₂ r₂ y₂ f₂ => ⟨⟨y₂.base _ _ ho, hd⟩, ?_⟩)
  have ft := f₁.trans f₂
  have o2 := oo.step (ft.lift (own sc env))
  refine h₂ A s₂ vs E [env] _ c y₂ r₂ (o2.toC (en.step ft)) fun v d μ' s' a1 a2 a3 a4 => ?_
  obtain ⟨ρ₁, hb1, hb2, hΨ⟩ := a1
  have hloc : ∀ p ∈ ρ₁, sc.names.lookup p.1 = some .local := fun p hp' => by
    have := List.all_eq_true.mp hb2 p hp'
    simpa using this
  refine assignT c.han hb1 hloc (fun es n p z => plain_each es (by rw [z] at hp; exact hp)) ((en.step ft).stepU a4) a3 a2 fun h4 tk4 e4 y4 k4 => ?_
  have f4 : Fw (own sc env ++ dom μ') (own sc env ++ dom μ') s' { s' with heap := h4, toks := tk4 } := ⟨fun b o hb' z => k4 b o (fun q => hb' (q ▸ List.mem_append_left _ (.head _))) z, fun _ h => .inl h, rfl, fun z => z⟩
  have hfa : frAs [env] = [env.locals] := by unfold frAs; rw [List.filterMap_cons, oo.2.1]; rfl
  rw [hfa] at a4
  have f3 : Fw (own sc env ++ dom μ₂) (own sc env ++ dom μ') s₂ s' := by
    refine ⟨fun b o hb' z => a4.keep b o (fun q => hb' (List.mem_append_right _ q)) (fun q => hb' (List.mem_append_left _ ?_)) z, fun a ha => (List.mem_append.mp ha).elim (fun q => .inl (List.mem_append_left _ q)) fun q => (a4.dom a q).imp (List.mem_append_right _) id, a4.os, a4.gens⟩
    rw [List.mem_singleton.mp q]; exact .head _
  exact hQ .next .next _ μ' _ hΨ trivial e4 y4 (((ft.lift _).trans f3).trans f4)
end
end Mine

end

noncomputable section
set_option maxHeartbeats 1000000
namespace Mine
/-- what is read of the module's top -/
structure TR (mg mb : Str → Option Value) (h : Heap) : Prop where
  g : h.Ns mainGlobals mg
  b : h.Ns builtinsNs mb
  nolimit : h.NoLimit
  builtins : ∀ x : Str, x ≠ "__name__" → mb x = bootBuiltins x
structure Lib (w : World) (mg mb : Str → Option Value) (hb : Heap) : Prop where
  K : (Mine.hp w.params).In hb
  R : TR mg mb hb
  M : ∃ bm ob, BMod hb mainGlobals mg bm ob

section
variable {prog : Program} {w : World} {hb : Heap} {mg mb : Str → Option Value} {k : Nat} {μ : Mem}
theorem Lib.find (L : Lib w mg mb hb) {x : Str} {v : Option Value} (h : ∀ es ep, (Mine.hp w.params).lookup 3 = some ⟨.type "dict", none, .dict es ep, #[]⟩ → nsFind es x = v) : mg x = v := by
  obtain ⟨o, es, ep, ho, hd, hk, hm⟩ := L.R.g
  rw [← hm x]
  have h3 := L.K 3 _ rfl
  rw [show mainGlobals = 3 from rfl, h3] at ho
  cases ho
  cases hd
  exact h _ _ rfl
theorem Lib.piece (L : Lib w mg mb hb) : mg "_law_piece" = some (.ref 125) := L.find fun _ _ e => by cases e; rfl
theorem Lib.len (L : Lib w mg mb hb) : mg "len" = none := L.find fun _ _ e => by cases e; rfl
theorem Lib.lenB (L : Lib w mg mb hb) : mb "len" = some (.builtin "len") := (L.R.builtins "len" (by decide)).trans PyProof.Rows.Boot.«len»
end
end Mine

end

noncomputable section
set_option maxHeartbeats 1000000
namespace Mine
/-! The nine pieces. -/
noncomputable abbrev Pc := Fin 9
noncomputable def pcs : Pc → Str × Str
  | 0 => ("", "") | 1 => ("", "a") | 2 => (" ", "a") | 3 => ("", "b") | 4 => (" ", "b") | 5 => (" ", "") | 6 => ("", "cd") | 7 => ("\t", "c") | 8 => ("", "o")
noncomputable def pd (p : Pc) : Dat := .tuple [.str (pcs p).1, .str (pcs p).2]
noncomputable def pieceOf (n : Int) : Pc := Fin.ofNat 9 ((n.fdiv 3).fmod 8).toNat
noncomputable def rowOf (ns : List Int) (place : Int) : List Pc := (if decide (place < 2) then [8] else []) ++ (ns.filter fun n => n.fmod 3 == place).map pieceOf
theorem pd_fine : ∀ p : Pc, (pd p).fine = true := by decide +kernel
theorem pd_depth : ∀ p : Pc, (pd p).py.depth ≤ 64 := by decide +kernel
theorem pd_shp (p : Pc) : (pd p).shp := ⟨pd_fine p, pd_depth p⟩
theorem pd_eqv : ∀ p q : Pc, PyData.eqv (pd p).py (pd q).py = (p == q) := by decide +kernel
theorem pds_fine : ∀ l : List Pc, Dat.fines (l.map pd) = true
  | [] => rfl
  | p :: r => by
    show ((pd p).fine && Dat.fines (r.map pd)) = true
    rw [pd_fine, pds_fine r]; rfl
theorem pd_any (l : List Pc) (p : Pc) : ((l.map pd).any fun y => PyData.eqv y.py (pd p).py) = l.contains p := by
  rw [List.any_map]
  induction l with
  | nil => rfl
  | cons q r ih =>
    rw [List.any_cons, List.contains_cons, ih]
    show (PyData.eqv (pd q).py (pd p).py || _) = _
    rw [pd_eqv]
    congr 1
    exact Bool.beq_comm ..

theorem fmod8 (n : Int) : 0 ≤ n.fmod 8 ∧ n.fmod 8 < 8 := ⟨Int.fmod_nonneg_of_pos _ (by decide), Int.fmod_lt_of_pos _ (by decide)⟩
section
variable {prog : Program} {w : World} {hb : Heap} {mg mb : Str → Option Value} {k : Nat} {μ : Mem}

theorem Bop.eqP {p q : Pc} : Bop prog w hb (compareOp .Eq) (pd p) (pd q) (.bool (p == q)) := by rw [← pd_eqv]; exact .eqD (pd_shp p) (pd_shp q)
theorem Bop.inP {p : Pc} {l : List Pc} : Bop prog w hb (compareOp .In) (pd p) (.list (l.map pd)) (.bool (l.contains p)) := by rw [← pd_any]; exact .inList (pd_shp p) (pds_fine l)
theorem Bop.notInP {p : Pc} {l : List Pc} : Bop prog w hb (compareOp .NotIn) (pd p) (.list (l.map pd)) (.bool (!l.contains p)) := by rw [← pd_any]; exact .notInList (pd_shp p) (pds_fine l)

noncomputable def sc125 : Sh := ⟨[("number", .local)], .ref 124⟩
theorem piece_ok (L : Lib w mg mb hb) (n : Int) : PC prog w hb (k + 1) 125 [.int n] (pd (pieceOf n)) := by
  intro μ
  refine WpC.fnK sc125 ["number"] (L.K 125 _ rfl) rfl rfl L.R.nolimit ⟨_, _, _, _, rfl, L.K 124 _ rfl, rfl, rfl⟩ (fun vs h => by match vs, h with | [v], _ => rfl) ?_
  refine WpS.cons ?_
  refine Wp1.ret ?_
  have h8 := fmod8 (n.fdiv 3)
  refine PE.use (d := pd (pieceOf n)) ?_ ⟨rfl, rfl⟩
  refine PE.item (ds := ([0, 1, 2, 3, 4, 5, 6, 7] : List Pc).map pd) (i := (n.fdiv 3).fmod 8)
    (.list (.cons (.tuple (.cons .str (.cons .str .nil))) (.cons (.tuple (.cons .str (.cons .str .nil))) (.cons (.tuple (.cons .str (.cons .str .nil))) (.cons (.tuple (.cons .str (.cons .str .nil))) (.cons (.tuple (.cons .str (.cons .str .nil))) (.cons (.tuple (.cons .str (.cons .str .nil))) (.cons (.tuple (.cons .str (.cons .str .nil))) (.cons (.tuple (.cons .str (.cons .str .nil))) .nil)))))))))
    (.bin (.bin .name .int (.divInt (by decide) (by decide))) .int (.modInt (by decide))) (.inl rfl) h8.1 (by omega) ?_
  have hlt : ((n.fdiv 3).fmod 8).toNat < 8 := by omega
  rw [List.getElem?_map]
  unfold pieceOf
  generalize ((n.fdiv 3).fmod 8).toNat = i at hlt
  have : ∀ i : Fin 8, ([0, 1, 2, 3, 4, 5, 6, 7] : List Pc)[i.val]? = some (Fin.ofNat 9 i.val) := by decide
  rw [this ⟨i, hlt⟩]; rfl

noncomputable def sc130 : Sh := ⟨[("drawn", .local), ("place", .cell), ("opening", .local)], .ref 129⟩
theorem row_ok (L : Lib w mg mb hb) (ns : List Int) (place : Int) (hn : ns.length ≤ 12) : PC prog w hb (k + 2) 130 [.list (ns.map .int), .int place] (.list ((rowOf ns place).map pd)) := by
  intro μ
  refine WpC.fnK sc130 ["drawn", "place"] (L.K 130 _ rfl) rfl rfl L.R.nolimit ⟨_, _, _, _, rfl, L.K 129 _ rfl, rfl, rfl⟩ (fun vs h => by match vs, h with | [v, u], _ => rfl) ?_
  refine WpS.cons ?_
  refine Wp1.assignV ?_
  refine PE.use (d := .list ((if decide (place < 2) then [(8 : Pc)] else []).map pd)) (.ite (q := decide (place < 2)) (.cmp .name .int .ltInt) (fun h => ?_) fun h => ?_) ?_
  · rw [h]; exact .list (.cons (.tuple (.cons .str (.cons .str .nil))) .nil)
  · rw [h]; exact .list .nil
  refine WpS.cons ?_
  refine Wp1.ret ?_
  have ef : (ns.flatMap fun n => if n.fmod 3 == place then [pd (pieceOf n)] else []) = ((ns.filter fun n => n.fmod 3 == place).map pieceOf).map pd := by
    clear hn
    induction ns with
    | nil => rfl
    | cons n r ih =>
      rw [List.flatMap_cons, ih, List.filter_cons]
      cases hq : (n.fmod 3 == place) <;> simp
  have hlen : (ns.flatMap fun n => if n.fmod 3 == place then [pd (pieceOf n)] else []).length ≤ 12 := by
    rw [ef, List.length_map, List.length_map]
    exact Nat.le_trans (List.length_filter_le ..) hn
  refine PE.use (.bin .name (.compT ns .int (fun n => if n.fmod 3 == place then [pd (pieceOf n)] else []) (.list .name) (fun n _ => ?_) (Nat.le_trans hlen (by decide))) (.addList ?_)) ⟨?_, rfl⟩
  · refine .mkIf [("number", .int n)] (n.fmod 3 == place) rfl rfl (.cmp (.bin .name .int (.modInt (by decide))) .name .eqInt) (fun hb => ?_) fun hb => ?_
    · simp only [hb, if_true]
      exact .elt (.call L.R.g L.piece (L.K 125 _ rfl) rfl (.cons .name .nil) (piece_ok L n))
    · simp only [hb, Bool.false_eq_true, if_false]
  · refine Nat.le_trans (Nat.add_le_add_left hlen _) ?_
    cases decide (place < 2) <;> decide
  · rw [ef]
    show Dat.list _ = _
    rw [← List.map_append]
    rfl

noncomputable def sc175 : Sh := ⟨[("text", .local), ("piece", .local)], .ref 174⟩
theorem joined_ok (L : Lib w mg mb hb) (t : Str) (p : Pc) (hn : t.length ≤ 1000) : PC prog w hb (k + 1) 175 [.str t, pd p] (.str (t ++ (pcs p).1 ++ (pcs p).2)) := by
  intro μ
  refine WpC.fnK sc175 ["text", "piece"] (L.K 175 _ rfl) rfl rfl L.R.nolimit ⟨_, _, _, _, rfl, L.K 174 _ rfl, rfl, rfl⟩ (fun vs h => by match vs, h with | [v, u], _ => rfl) ?_
  refine WpS.cons ?_
  refine Wp1.ret ?_
  have h1 : (pcs p).1.length ≤ 2 := (by decide +kernel : ∀ p : Pc, (pcs p).1.length ≤ 2) p
  have h2 : (pcs p).2.length ≤ 2 := (by decide +kernel : ∀ p : Pc, (pcs p).2.length ≤ 2) p
  have h3 : (t ++ (pcs p).1).length = t.length + (pcs p).1.length := Array.size_append
  have hs : (1004 : Nat) ≤ sizeLine := by decide
  exact PE.use (.bin (.bin .name (.item (d := .str (pcs p).1) .name .int (.inr rfl) (by decide) (by decide) rfl) (.addStr (by omega))) (.item (d := .str (pcs p).2) .name .int (.inr rfl) (by decide) (by decide) rfl) (.addStr (by omega))) ⟨rfl, rfl⟩

/-! wanted -/
noncomputable def var (ρ : Ren) (x : Str) (d : Dat) : Prop := ρ.lookup x = some d

noncomputable def liveN (row : List Pc) (size : Int) : Nat → Nat
  | 0 => 0
  | n + 1 => if size == 0 && row[n]? == some 0 then liveN row size n else n + 1
noncomputable def wantedOf (row : List Pc) (size : Int) : List Pc := row.take (liveN row size row.length)
noncomputable def sc158 : Sh := ⟨[("row", .local), ("size", .local), ("live", .local), ("len", .globalImplicit)], .ref 157⟩
theorem wanted_ok (L : Lib w mg mb hb) (row : List Pc) (size : Int) (hn : row.length ≤ 1000) : PC prog w hb (k + 1) 158 [.list (row.map pd), .int size] (.list ((wantedOf row size).map pd)) := by
  intro μ
  refine WpC.fnK sc158 ["row", "size"] (L.K 158 _ rfl) rfl rfl L.R.nolimit ⟨_, _, _, _, rfl, L.K 157 _ rfl, rfl, rfl⟩ (fun vs h => by match vs, h with | [v, u], _ => rfl) ?_
  refine WpS.cons ?_
  refine Wp1.assignV ?_
  refine PE.use (.bcall L.R.g L.R.b L.len L.lenB (.cons .name .nil) (.lenList (by simp; omega))) ?_
  refine WpS.cons ?_
  refine Wp1.ofx ?_
  refine Wp1x.while (fun n ρ' μ' => μ' = μ ∧ n ≤ row.length ∧ liveN row size n = liveN row size row.length ∧ var ρ' "row" (.list (row.map pd)) ∧ var ρ' "size" (.int size) ∧ var ρ' "live" (.int n)) row.length ⟨rfl, Nat.le_refl _, rfl, rfl, rfl, ?_⟩ ?_
  · show some (Dat.int ((row.map pd).length : Int)) = _
    rw [List.length_map]
  intro n ρ' μ' hI
  obtain ⟨rfl, hle, hlv, hr, hs, hl⟩ := hI
  have hlt : row.length < 2 ^ 24 := by omega
  cases n with
  | zero =>
    refine PB.use (.all (.and (.cmp (.name hs) .int .eqInt) fun _ => .and (q := true) (.cmp (.name hl) .int .gtInt) fun h => ?_)) ?_
    · simp at h
    · have hb0 : ((size == 0) && (decide ((0 : Int) < ((0 : Nat) : Int)) && true)) = false := by simp
      rw [hb0]
      simp only [Bool.false_eq_true, if_false]
      refine WpSx.nil ?_
      refine WpS.cons ?_
      refine Wp1.ret ?_
      refine PE.use (.upto (.name hr) (.name hl) (by simp) (by rw [List.length_map]; unfold sizeLine; omega)) ⟨?_, rfl⟩
      show Dat.list _ = Dat.list _
      unfold wantedOf
      rw [← hlv, List.map_take]; rfl
  | succ m =>
    have hm : m < row.length := hle
    have hg : (row.map pd)[m]? = some (pd row[m]) := by rw [List.getElem?_map, List.getElem?_eq_getElem hm]; rfl
    refine PB.use (.all (.and (.cmp (.name hs) .int .eqInt) fun _ => .and (.cmp (.name hl) .int .gtInt) fun _ => .and (.cmp (.item (i := ((m + 1 : Nat) : Int) - 1) (ds := row.map pd) (d := pd row[m]) (.name hr) (.bin (.name hl) .int .subInt) (.inl rfl) (by omega) (by omega) (by rw [show (((m + 1 : Nat) : Int) - 1).toNat = m by omega]; exact hg)) (.tuple (ds := [.str "", .str ""]) (.cons .str (.cons .str .nil))) (.eqD (pd_shp _) (pd_shp 0))) fun _ => .andNil)) ?_
    have e1 : ((size == 0) && (decide ((0 : Int) < ((m + 1 : Nat) : Int)) && (PyData.eqv (pd row[m]).py (pd 0).py && true))) = (size == 0 && row[m]? == some 0) := by
      rw [pd_eqv, List.getElem?_eq_getElem hm]
      have : decide ((0 : Int) < ((m + 1 : Nat) : Int)) = true := by simp
      rw [this, Bool.and_true, Bool.true_and]; rfl
    rw [e1]
    have hst : liveN row size (m + 1) = if (size == 0 && row[m]? == some 0) = true then liveN row size m else m + 1 := rfl
    cases hc : (size == 0 && row[m]? == some 0) with
    | true =>
      simp only [if_true]
      refine WpSx.cons ?_
      refine Wp1x.of ?_
      refine Wp1.assignV ?_
      refine PE.use (.bin (.name hl) .int .subInt) ?_
      refine WpSx.nil ?_
      rw [hc, if_pos rfl] at hst
      refine ⟨m, Nat.lt_succ_self m, rfl, by omega, by rw [← hst, hlv], hr, hs, ?_⟩
      show some (Dat.int (((m + 1 : Nat) : Int) - 1)) = some (Dat.int m)
      rw [show ((m + 1 : Nat) : Int) - 1 = m by omega]
    | false =>
      simp only [Bool.false_eq_true, if_false]
      rw [hc, if_neg (by simp)] at hst
      refine WpSx.nil ?_
      refine WpS.cons ?_
      refine Wp1.ret ?_
      refine PE.use (.upto (.name hr) (.name hl) (by omega) (by rw [List.length_map]; unfold sizeLine; omega)) ⟨?_, rfl⟩
      show Dat.list _ = Dat.list _
      unfold wantedOf
      rw [← hlv, hst, List.map_take]; rfl
end
end Mine

end

noncomputable section
set_option maxHeartbeats 1000000
namespace Mine
section
variable {prog : Program} {w : World} {hb : Heap} {M : MP} {mg mb : Str → Option Value} {k : Nat} {μ : Mem} {sc : Sh} {ρ : Ren}
theorem Lib.zip (L : Lib w mg mb hb) : mg "zip" = none := L.find fun _ _ e => by cases e; rfl
theorem Lib.zipB (L : Lib w mg mb hb) : mb "zip" = some (.type "zip") := (L.R.builtins "zip" (by decide)).trans PyProof.Rows.Boot.«zip»
theorem Lib.enumerate (L : Lib w mg mb hb) : mg "enumerate" = none := L.find fun _ _ e => by cases e; rfl
theorem Lib.enumerateB (L : Lib w mg mb hb) : mb "enumerate" = some (.type "enumerate") := (L.R.builtins "enumerate" (by decide)).trans PyProof.Rows.Boot.«enumerate»
theorem Lib.range (L : Lib w mg mb hb) : mg "range" = none := L.find fun _ _ e => by cases e; rfl
theorem Lib.rangeB (L : Lib w mg mb hb) : mb "range" = some (.type "range") := (L.R.builtins "range" (by decide)).trans PyProof.Rows.Boot.«range»

theorem PIt.zip (L : Lib w mg mb hb) {es : List Expr} {nn : Nat} {pp np pos : Pos} {a b : Expr} {ds es' : List Dat} (h1 : PE prog w hb M sc k a ρ (.list ds)) (h2 : PE prog w hb M sc k b ρ (.list es')) (hl : ds.length = es'.length)
    (hk : sc.names.lookup ("zip" : Str) = some .globalImplicit := by rfl) (he : ∀ env, starEach [a, b] env = [(false, eval a env), (false, eval b env)] := by intro _; rfl) (h1' : ∀ env, starEach [a, b] env = (false, eval a env) :: starEach [b] env := by intro _; rfl) (h2' : ∀ env, starEach [b] env = (false, eval b env) :: starEach [] env := by intro _; rfl) :
    PIt prog w hb M sc k (.Tuple es nn pp) (.Call (.Name "zip" np) [a, b] [] pos) ρ (List.zipWith pairItem ds es') := fun μ hM =>
  .zip L.R.g L.R.b L.zip L.zipB (PA.useM (.cons h1 (.cons h2 .nil h2') h1') hM ⟨ds, es', rfl, hl, rfl, rfl⟩) hk he
theorem PIt.enum (L : Lib w mg mb hb) {es : List Expr} {nn : Nat} {pp np pos : Pos} {a : Expr} {ds : List Dat} (h1 : PE prog w hb M sc k a ρ (.list ds))
    (hk : sc.names.lookup ("enumerate" : Str) = some .globalImplicit := by rfl) (he : ∀ env, starEach [a] env = [(false, eval a env)] := by intro _; rfl) :
    PIt prog w hb M sc k (.Tuple es nn pp) (.Call (.Name "enumerate" np) [a] [] pos) ρ (ds.zipIdx.map enumItem) := fun μ hM => .enum L.R.g L.R.b L.enumerate L.enumerateB (h1.useM hM ⟨ds, rfl, rfl, rfl⟩) hk he
theorem PIt.range (L : Lib w mg mb hb) {x : Str} {p np pos : Pos} {a : Expr} {m : Nat} (h1 : PE prog w hb M sc k a ρ (.int m)) (hm : m < 1000)
    (hk : sc.names.lookup ("range" : Str) = some .globalImplicit := by rfl) (he : ∀ env, starEach [a] env = [(false, eval a env)] := by intro _; rfl) :
    PIt prog w hb M sc k (.Name x p) (.Call (.Name "range" np) [a] [] pos) ρ ((List.range m).map fun (j : Nat) => Dat.int (j : Int)) := fun μ hM => .range L.R.g L.R.b L.range L.rangeB (h1.useM hM ⟨m, rfl, hm, rfl, rfl⟩) hk he

/-! ahead -/
noncomputable def aheadOf (rows wanted : List (List Pc)) (piece : Pc) : List Pc := (rows.zip wanted).flatMap fun p => p.1.zipIdx.flatMap fun q => if q.1 == piece then p.2.take q.2 else []
noncomputable def rowsD (l : List (List Pc)) : Dat := .list (l.map fun r => .list (r.map pd))
noncomputable def sc163 : Sh := ⟨[("rows", .local), ("wanted", .local), ("piece", .cell), ("zip", .globalImplicit)], .ref 162⟩
theorem ahead_ok (L : Lib w mg mb hb) (rows wanted : List (List Pc)) (piece : Pc) (h1 : rows.length = wanted.length) (hb1 : ∀ r ∈ rows, r.length ≤ 100) (hb2 : ∀ r ∈ wanted, r.length ≤ 100) (hl : (aheadOf rows wanted piece).length ≤ sizeLine) :
    PC prog w hb (k + 1) 163 [rowsD rows, rowsD wanted, pd piece] (.list ((aheadOf rows wanted piece).map pd)) := by
  intro μ
  refine WpC.fnK sc163 ["rows", "wanted", "piece"] (L.K 163 _ rfl) rfl rfl L.R.nolimit ⟨_, _, _, _, rfl, L.K 162 _ rfl, rfl, rfl⟩ (fun vs h => by match vs, h with | [v, u, x], _ => rfl) ?_
  refine WpS.cons ?_
  refine Wp1.ret ?_
  have hz : List.zipWith pairItem (rows.map fun r => Dat.list (r.map pd)) (wanted.map fun r => Dat.list (r.map pd)) = (rows.zip wanted).map fun p => pairItem (Dat.list (p.1.map pd)) (Dat.list (p.2.map pd)) := by
    rw [List.zipWith_map, List.zip, List.map_zipWith]
  have he : (aheadOf rows wanted piece).map pd = (rows.zip wanted).flatMap fun p => p.1.zipIdx.flatMap fun q => if q.1 == piece then (p.2.take q.2).map pd else [] := by
    unfold aheadOf
    rw [List.map_flatMap]
    congr 1; funext p
    rw [List.map_flatMap]
    congr 1; funext q
    split <;> rfl
  refine PE.use (.compT (rows.zip wanted) (fun p => pairItem (Dat.list (p.1.map pd)) (Dat.list (p.2.map pd))) (fun p => p.1.zipIdx.flatMap fun q => if q.1 == piece then (p.2.take q.2).map pd else []) (by rw [← hz]; exact .zip L .name .name (by simp [h1])) (fun p hp => ?_) (by rw [← he]; simpa using hl)) ⟨by rw [he]; rfl, rfl⟩
  have hp1 : p.1.length ≤ 100 := hb1 _ (List.of_mem_zip hp).1
  have hp2 : p.2.length ≤ 100 := hb2 _ (List.of_mem_zip hp).2
  refine .mk [("part", .list (p.2.map pd)), ("row", .list (p.1.map pd))] rfl rfl ?_
  have hq : (p.1.map pd).zipIdx.map enumItem = p.1.zipIdx.map fun q => enumItem (pd q.1, q.2) := by
    rw [List.zipIdx_map, List.map_map]; rfl
  refine .clauseT p.1.zipIdx (fun q => enumItem (pd q.1, q.2)) _ (by rw [← hq]; exact .enum L .name) fun q hq' => ?_
  refine .mkIf [("other", pd q.1), ("place", .int q.2)] (q.1 == piece) rfl rfl ?_ (fun hb' => ?_) fun hb' => ?_
  · exact .cmp .name .name .eqP
  · simp only [hb', if_true]
    have ht : (p.2.take q.2).map pd = ((p.2.take q.2).flatMap fun r => [pd r]) := by rw [← List.map_eq_flatMap]
    rw [ht]
    have hi : (p.2.map pd).take ((q.2 : Int)).toNat = (p.2.take q.2).map pd := by rw [List.map_take]; rfl
    refine .clauseT (p.2.take q.2) pd _ (.list (by rw [← hi]; exact .upto .name .name (by omega) (by rw [List.length_map]; exact Nat.le_trans hp2 (by decide)))) fun r _ => ?_
    exact .mk [("low", pd r)] rfl rfl (.elt .name)
  · simp only [hb', Bool.false_eq_true, if_false]
end
end Mine

end

noncomputable section
set_option maxHeartbeats 1000000
namespace Mine
/-! what is told -/
noncomputable def tWanted (rows : List (List Pc)) (sizes : List Int) : List (List Pc) := List.zipWith wantedOf rows sizes
noncomputable def tWaits (rows wanted : List (List Pc)) : List (Nat × Pc × List Pc) := (List.range 3).flatMap fun place => (wanted.getD place []).map fun piece => (place, piece, aheadOf rows wanted piece)
noncomputable def tCounts (wanted : List (List Pc)) (out : List Pc) : List Nat := wanted.map fun part => (part.filter (out.contains ·)).length
noncomputable def tEnded (wanted : List (List Pc)) (sizes : List Int) (counts : List Nat) : List Nat := (List.range 3).filter fun place => decide (0 < sizes.getD place 0) && counts.getD place 0 == (wanted.getD place []).length
noncomputable def tReady (waits : List (Nat × Pc × List Pc)) (out : List Pc) : List (Nat × Pc) := (waits.filter fun x => !out.contains x.2.1 && x.2.2.all (out.contains ·)).map fun x => (x.1, x.2.1)
noncomputable def tBump (wanted : List (List Pc)) (e : Nat) (p : Pc) (counts : List Nat) : List Nat := counts.zipIdx.map fun x => x.1 + if decide (x.2 < e) && (wanted.getD x.2 []).contains p then 1 else 0
noncomputable def toldFrom (wanted : List (List Pc)) (sizes : List Int) (waits : List (Nat × Pc × List Pc)) : Nat → List Pc → Str × List Pc × List Nat
  | 0, _ => ("", [], [])
  | n + 1, out => match tEnded wanted sizes (tCounts wanted out), tReady waits out with
    | e :: _, (pl, p) :: _ => ("ended", [], if pl < e then tBump wanted e p (tCounts wanted out) else tCounts wanted out)
    | _ :: _, [] => ("ended", [], tCounts wanted out)
    | [], r => if tCounts wanted out == wanted.map List.length then ("merged", out, tCounts wanted out) else match r with
      | [] => ("stuck", [], tCounts wanted out)
      | (_, p) :: _ => toldFrom wanted sizes waits n (out ++ [p])
noncomputable def toldOf (rows : List (List Pc)) (sizes : List Int) : Str × List Pc × List Nat := toldFrom (tWanted rows sizes) sizes (tWaits rows (tWanted rows sizes)) 10 []
noncomputable def natD (n : Nat) : Dat := .int (n : Int)
noncomputable def resD (r : Str × List Pc × List Nat) : Dat := .tuple [.str r.1, .list (r.2.1.map pd), .list (r.2.2.map natD)]
noncomputable def waitD (x : Nat × Pc × List Pc) : Dat := .tuple [natD x.1, pd x.2.1, .list (x.2.2.map pd)]
noncomputable def readyD (x : Nat × Pc) : Dat := .tuple [natD x.1, pd x.2]

section
variable {prog : Program} {w : World} {hb : Heap} {M : MP} {mg mb : Str → Option Value} {k : Nat} {μ : Mem} {sc : Sh} {ρ : Ren}
theorem Lib.wanted (L : Lib w mg mb hb) : mg "_law_wanted" = some (.ref 158) := L.find fun _ _ e => by cases e; rfl
theorem Lib.ahead (L : Lib w mg mb hb) : mg "_law_ahead" = some (.ref 163) := L.find fun _ _ e => by cases e; rfl
theorem Lib.all (L : Lib w mg mb hb) : mg "all" = none := L.find fun _ _ e => by cases e; rfl
theorem Lib.allB (L : Lib w mg mb hb) : mb "all" = some (.builtin "all") := (L.R.builtins "all" (by decide)).trans PyProof.Rows.Boot.«all»

theorem flat_le {α β : Type} {f : α → List β} {b : Nat} : ∀ {l : List α}, (∀ x ∈ l, (f x).length ≤ b) → (l.flatMap f).length ≤ l.length * b
  | [], _ => by simp
  | x :: r, h => by
    have h1 := h x (.head _)
    have h2 := flat_le (f := f) (b := b) (l := r) fun y hy => h y (.tail _ hy)
    rw [List.flatMap_cons, List.length_append, List.length_cons, Nat.add_mul]; omega
theorem wanted_le (row : List Pc) (size : Int) : (wantedOf row size).length ≤ row.length := by unfold wantedOf; rw [List.length_take]; omega
theorem ahead_le {rows wanted : List (List Pc)} (p : Pc) (h1 : rows.length ≤ 3) (h2 : ∀ r ∈ rows, r.length ≤ 13) (h3 : ∀ r ∈ wanted, r.length ≤ 13) : (aheadOf rows wanted p).length ≤ 507 := by
  have a : (rows.zip wanted).length ≤ 3 := by rw [List.length_zip]; omega
  have b := flat_le (l := rows.zip wanted) (b := 169) (f := fun q : List Pc × List Pc => q.1.zipIdx.flatMap fun z => if z.1 == p then q.2.take z.2 else []) fun q hq => by
    have c1 := h2 _ (List.of_mem_zip hq).1
    have c2 := h3 _ (List.of_mem_zip hq).2
    have c3 := flat_le (l := q.1.zipIdx) (b := 13) (f := fun z : Pc × Nat => if z.1 == p then q.2.take z.2 else []) fun z _ => by
      split
      · rw [List.length_take]; omega
      · simp
    rw [List.length_zipIdx] at c3
    omega
  show ((rows.zip wanted).flatMap _).length ≤ 507
  omega

theorem nats_depth : ∀ l : List Nat, PyData.depthAll (Dat.pys (l.map natD)) = 0
  | [] => by simp [Dat.pys, PyData.depthAll]
  | n :: r => by simp [Dat.pys, PyData.depthAll, natD, Dat.py, PyData.depth, nats_depth r]
theorem nats_fine : ∀ l : List Nat, Dat.fines (l.map natD) = true
  | [] => rfl
  | n :: r => by
    show ((natD n).fine && Dat.fines (r.map natD)) = true
    rw [nats_fine r]; rfl
theorem nats_shp (l : List Nat) : (Dat.list (l.map natD)).shp := ⟨nats_fine l, by simp [Dat.py, PyData.depth, nats_depth]⟩
theorem nats_eqv : ∀ l m : List Nat, PyData.eqv (Dat.list (l.map natD)).py (Dat.list (m.map natD)).py = (l == m) := by
  have key : ∀ l m : List Nat, PyData.eqvAll (Dat.pys (l.map natD)) (Dat.pys (m.map natD)) = (l == m) := by
    intro l
    induction l with
    | nil => intro m; cases m <;> simp [Dat.pys, PyData.eqvAll]
    | cons a r ih =>
      intro m
      cases m with
      | nil => simp [Dat.pys, PyData.eqvAll]
      | cons b q =>
        simp only [List.map_cons, Dat.pys, PyData.eqvAll, ih, natD, Dat.py, PyData.eqv]
        rw [show ((a : Int) == (b : Int)) = (a == b) by rw [Bool.eq_iff_iff, beq_iff_eq, beq_iff_eq]; omega]
        rfl
  intro l m
  simp only [Dat.py, PyData.eqv]
  exact key l m

/-- the tables of the code objects that make generators, and one list that grows -/
noncomputable def MT (T : Addr) (ps : Array Value) (D : Addr) (l : List Pc) : MP := ⟨fun μ => (D, MO.lst (l.map pd)) ∈ μ ∧ (T, MO.tab 167 ps) ∈ μ, fun _ _ h => ⟨List.mem_append_right _ h.1, List.mem_append_right _ h.2⟩⟩

noncomputable abbrev toldRen (rows wanted : List (List Pc)) (sizes : List Int) (D : Addr) : Ren := [("out", .obj D), ("waits", .list ((tWaits rows wanted).map waitD)), ("wanted", rowsD wanted), ("rows", rowsD rows), ("sizes", .list (sizes.map .int))]
noncomputable def sc168 : Sh := ⟨[("rows", .cell), ("sizes", .cell), ("wanted", .cell), ("waits", .local), ("counts", .cell), ("ended", .cell), ("ready", .cell), ("out", .cell), ("zip", .globalImplicit), ("range", .globalImplicit), ("enumerate", .globalImplicit)], .ref 167⟩
theorem told_ok (L : Lib w mg mb hb) (rows : List (List Pc)) (sizes : List Int) (T : Addr) (ps : Array Value) (ht : (T, MO.tab 167 ps) ∈ μ) (hr : rows.length = 3) (hs : sizes.length = 3) (hl : ∀ r ∈ rows, r.length ≤ 13) :
    WpC prog w hb (k + 3) 168 [rowsD rows, .list (sizes.map .int)] μ (fun d μ' => d = resD (toldOf rows sizes) ∧ μ' = μ) := by
  refine WpC.fnK sc168 ["rows", "sizes"] (L.K 168 _ rfl) rfl rfl L.R.nolimit ⟨_, _, _, _, rfl, L.K 167 _ rfl, rfl, rfl⟩ (fun vs h => by match vs, h with | [v, u], _ => rfl) ?_
  have hwl : (tWanted rows sizes).length = 3 := by unfold tWanted; rw [List.length_zipWith]; omega
  -- wanted
  refine WpS.cons ?_
  refine Wp1.assignV ?_
  have hz : List.zipWith pairItem (rows.map fun r => Dat.list (r.map pd)) (sizes.map Dat.int) = (rows.zip sizes).map fun p => pairItem (Dat.list (p.1.map pd)) (.int p.2) := by
    rw [List.zipWith_map, List.zip, List.map_zipWith]
  have hw : (rows.zip sizes).flatMap (fun p => [Dat.list ((wantedOf p.1 p.2).map pd)]) = (tWanted rows sizes).map fun r => Dat.list (r.map pd) := by
    rw [← List.map_eq_flatMap, tWanted, List.map_zipWith, List.zip, List.map_zipWith]
  refine PE.use (d := rowsD (tWanted rows sizes)) ?_ ?_
  · unfold rowsD
    rw [← hw]
    refine .compT (rows.zip sizes) (fun p => pairItem (Dat.list (p.1.map pd)) (.int p.2)) _ (by rw [← hz]; exact .zip L .name .name (by simp [hr, hs])) (fun p hp => ?_) (by rw [hw, List.length_map, hwl]; decide)
    exact .mk [("size", .int p.2), ("row", .list (p.1.map pd))] rfl rfl (.elt (.call L.R.g L.wanted (L.K 158 _ rfl) rfl (.cons .name (.cons .name .nil)) (wanted_ok L p.1 p.2 (Nat.le_trans (hl _ (List.of_mem_zip hp).1) (by decide)))))
  -- waits
  have hwm : ∀ r ∈ tWanted rows sizes, r.length ≤ 13 := fun r hm => by
    unfold tWanted at hm
    rw [List.zipWith_eq_zipWith_take_min] at hm
    obtain ⟨i, hi, rfl⟩ := List.mem_iff_getElem.mp hm
    rw [List.getElem_zipWith]
    refine Nat.le_trans (wanted_le _ _) (hl _ ?_)
    rw [List.getElem_take]
    exact List.getElem_mem _
  generalize hW : tWanted rows sizes = wanted at *
  have hget : ∀ place < 3, (wanted.map fun r => Dat.list (r.map pd))[place]? = some (.list ((wanted.getD place []).map pd)) := fun place hp => by
    rw [List.getElem?_map, List.getD_eq_getElem?_getD, List.getElem?_eq_getElem (by omega)]; rfl
  have hgl : ∀ place, (wanted.getD place []).length ≤ 13 := fun place => by
    rw [List.getD_eq_getElem?_getD]
    cases hq : wanted[place]? with
    | none => simp
    | some r => exact hwm r (List.mem_of_getElem? hq)
  have hwd : (tWaits rows wanted).map waitD = (List.range 3).flatMap fun place => (wanted.getD place []).flatMap fun piece => [waitD (place, piece, aheadOf rows wanted piece)] := by
    unfold tWaits
    rw [List.map_flatMap]
    congr 1; funext place
    rw [List.map_map, ← List.map_eq_flatMap]; rfl
  have hwlen : ((tWaits rows wanted).map waitD).length ≤ 39 := by
    rw [hwd]
    have := flat_le (l := List.range 3) (b := 13) (f := fun place => (wanted.getD place []).flatMap fun piece => [waitD (place, piece, aheadOf rows wanted piece)]) fun place _ => by
      rw [← List.map_eq_flatMap, List.length_map]; exact hgl place
    simpa using this
  refine WpS.cons ?_
  refine Wp1.assignCT (M := MP.all) (List.range 3) natD (fun place => (wanted.getD place []).flatMap fun piece => [waitD (place, piece, aheadOf rows wanted piece)]) (.range L (m := 3) .int (by decide)) (fun place hp => ?_) (by rw [← hwd]; exact Nat.le_trans hwlen (by decide)) trivial ?_
  · have hp3 : place < 3 := List.mem_range.mp hp
    refine .mk [("place", natD place)] rfl rfl ?_
    refine .clauseT (wanted.getD place []) pd _ (.list (.item (i := (place : Int)) .name .name (.inl rfl) (by omega) (by omega) (hget place hp3))) fun piece _ => ?_
    refine .mk [("piece", pd piece)] rfl rfl (.elt (.tuple (.cons .name (.cons .name (.cons (.call L.R.g L.ahead (L.K 163 _ rfl) rfl (.cons .name (.cons .name (.cons .name .nil))) (ahead_ok L rows wanted piece (by omega) (fun r hr' => Nat.le_trans (hl r hr') (by decide)) (fun r hr' => Nat.le_trans (hwm r hr') (by decide)) ?_)) .nil)))))
    exact Nat.le_trans (ahead_le piece (by omega) hl hwm) (by decide)
  rw [← hwd]
  -- out
  refine WpS.cons ?_
  refine Wp1.assignV ?_
  refine WpE.newList fun D hD => ?_
  refine WpS.cons ?_
  refine Wp1.ofx ?_
  refine Wp1x.while (fun n ρ' μ' => ∃ out : List Pc, ρ' = toldRen rows wanted sizes D ∧ μ' = μ ++ [(D, .lst (out.map pd))] ∧ out.Nodup ∧ n + out.length = 10 ∧ toldFrom wanted sizes (tWaits rows wanted) n out = toldFrom wanted sizes (tWaits rows wanted) 10 []) 10 ⟨[], rfl, rfl, List.nodup_nil, rfl, rfl⟩ ?_
  intro n ρ' μ' hI
  obtain ⟨out, rfl, rfl, hnd, hlen, heq⟩ := hI
  have hol : out.length ≤ 9 := by
    have := nodup_len out (List.finRange 9) hnd fun x _ => List.mem_finRange x
    simpa using this
  obtain ⟨n, rfl⟩ : ∃ m, n = m + 1 := ⟨n - 1, by omega⟩
  have hM : (MT T ps D out).holds (μ ++ [(D, .lst (out.map pd))]) := ⟨List.mem_append_right _ (.head _), List.mem_append_left _ ht⟩
  refine PB.use (.val .boolc .bool) ?_
  simp only [if_true]
  -- counts
  refine WpSx.cons ?_
  refine Wp1x.of ?_
  refine Wp1.assignV ?_
  have hcd : wanted.flatMap (fun part => [natD (part.filter (out.contains ·)).length]) = (tCounts wanted out).map natD := by
    rw [← List.map_eq_flatMap, tCounts, List.map_map]; rfl
  refine PE.useM (M := MT T ps D out) (d := .list ((tCounts wanted out).map natD)) ?_ hM ?_
  · rw [← hcd]
    refine .compT wanted (fun r => Dat.list (r.map pd)) _ (.list .name) (fun part hp => ?_) (by rw [hcd, List.length_map, tCounts, List.length_map, hwl]; decide)
    refine .mk [("part", .list (part.map pd))] rfl rfl (.elt ?_)
    have hfd : part.flatMap (fun p => if out.contains p then [pd p] else []) = (part.filter (out.contains ·)).map pd := by
      clear hp
      induction part with
      | nil => rfl
      | cons p r ih =>
        rw [List.flatMap_cons, ih, List.filter_cons]
        cases out.contains p <;> rfl
    have hpl : (part.filter (out.contains ·)).length ≤ 13 := Nat.le_trans (List.length_filter_le ..) (hwm part hp)
    have hll : ((part.filter (out.contains ·)).map pd).length = (part.filter (out.contains ·)).length := List.length_map _
    unfold natD
    rw [← hll]
    refine .bcall L.R.g L.R.b L.len L.lenB (.cons ?_ .nil) (.lenList (by omega))
    rw [← hfd]
    refine .compT part pd _ (.list .name) (fun p _ => ?_) (by rw [hfd, hll]; exact Nat.le_trans hpl (by decide))
    refine .mkIf [("piece", pd p)] (out.contains p) rfl rfl ?_ (fun hb' => ?_) fun hb' => ?_
    · rw [← pd_any]
      exact .inObj (fun μ h => h.1) .name .name (pd_shp p) (pds_fine out)
    · simp only [hb', if_true]; exact .elt .name
    · simp only [hb', Bool.false_eq_true, if_false]
  have hsl : ∀ place < 3, (sizes.map Dat.int)[place]? = some (.int (sizes.getD place 0)) := fun place hp => by
    rw [List.getElem?_map, List.getD_eq_getElem?_getD, List.getElem?_eq_getElem (by omega)]; rfl
  have hcl : (tCounts wanted out).length = 3 := by rw [tCounts, List.length_map, hwl]
  have hcg : ∀ place < 3, ((tCounts wanted out).map natD)[place]? = some (natD ((tCounts wanted out).getD place 0)) := fun place hp => by
    rw [List.getElem?_map, List.getD_eq_getElem?_getD, List.getElem?_eq_getElem (by omega)]; rfl
  generalize hC : tCounts wanted out = counts at *
  -- ended
  have hed : (List.range 3).flatMap (fun place => if decide (0 < sizes.getD place 0) && counts.getD place 0 == (wanted.getD place []).length then [natD place] else []) = (tEnded wanted sizes counts).map natD := by
    unfold tEnded
    generalize List.range 3 = l
    induction l with
    | nil => rfl
    | cons p r ih =>
      rw [List.flatMap_cons, ih, List.filter_cons]
      cases (decide (0 < sizes.getD p 0) && counts.getD p 0 == (wanted.getD p []).length) <;> rfl
  have hel : (tEnded wanted sizes counts).length ≤ 3 := by unfold tEnded; exact Nat.le_trans (List.length_filter_le ..) (by simp)
  refine WpSx.cons ?_
  refine Wp1x.of ?_
  refine Wp1.assignV ?_
  refine PE.useM (M := MT T ps D out) (d := .list ((tEnded wanted sizes counts).map natD)) ?_ hM ?_
  · rw [← hed]
    refine .compT (List.range 3) natD _ (.range L (m := 3) .int (by decide)) (fun place hp => ?_) (by rw [hed, List.length_map]; exact Nat.le_trans hel (by decide))
    have hp3 : place < 3 := List.mem_range.mp hp
    refine .mkIf [("place", natD place)] (decide (0 < sizes.getD place 0) && counts.getD place 0 == (wanted.getD place []).length) rfl rfl ?_ (fun hb' => ?_) fun hb' => ?_
    · have e1 : (counts.getD place 0 == (wanted.getD place []).length) = (((counts.getD place 0 : Nat) : Int) == (((wanted.getD place []).map pd).length : Int)) := by
        rw [List.length_map, Bool.eq_iff_iff, beq_iff_eq, beq_iff_eq]
        omega
      rw [e1, ← Bool.and_true (((counts.getD place 0 : Nat) : Int) == (((wanted.getD place []).map pd).length : Int))]
      exact .all (.and (.cmp (.item (i := (place : Int)) .name .name (.inl rfl) (by omega) (by omega) (hsl place hp3)) .int .gtInt) fun _ => .and (.cmp (.item (i := (place : Int)) .name .name (.inl rfl) (by omega) (by omega) (hcg place hp3)) (.bcall L.R.g L.R.b L.len L.lenB (.cons (.item (i := (place : Int)) .name .name (.inl rfl) (by omega) (by omega) (hget place hp3)) .nil) (.lenList (by rw [List.length_map]; have := hgl place; omega))) .eqInt) fun _ => .andNil)
    · simp only [hb', if_true]; exact .elt .name
    · simp only [hb', Bool.false_eq_true, if_false]
  -- ready
  have hrd : (tWaits rows wanted).flatMap (fun x => if !out.contains x.2.1 && x.2.2.all (out.contains ·) then [readyD (x.1, x.2.1)] else []) = (tReady (tWaits rows wanted) out).map readyD := by
    unfold tReady
    generalize tWaits rows wanted = l
    induction l with
    | nil => rfl
    | cons p r ih =>
      rw [List.flatMap_cons, ih, List.filter_cons]
      cases (!out.contains p.2.1 && p.2.2.all (out.contains ·)) <;> rfl
  have hrl : (tReady (tWaits rows wanted) out).length ≤ 39 := by
    unfold tReady
    rw [List.length_map]
    exact Nat.le_trans (List.length_filter_le ..) (by simpa using hwlen)
  obtain ⟨bm, ob, BM⟩ := L.M
  refine WpSx.cons ?_
  refine Wp1x.of ?_
  refine Wp1.assignV ?_
  refine PE.useM (M := MT T ps D out) (d := .list ((tReady (tWaits rows wanted) out).map readyD)) ?_ hM ?_
  · rw [← hrd]
    refine .compT (tWaits rows wanted) waitD _ (.list .name) (fun x hx => ?_) (by rw [hrd, List.length_map]; exact Nat.le_trans hrl (by decide))
    refine .mkIf [("ahead", .list (x.2.2.map pd)), ("piece", pd x.2.1), ("place", natD x.1)] (!out.contains x.2.1 && x.2.2.all (out.contains ·)) rfl rfl ?_ (fun hb' => ?_) fun hb' => ?_
    · have e2 : x.2.2.all (out.contains ·) = (x.2.2.map pd).all fun d => (out.map pd).any fun y => PyData.eqv y.py d.py := by
        rw [List.all_map]
        exact congrArg (fun f => x.2.2.all f) (funext fun p => (pd_any out p).symm)
      rw [e2, ← pd_any, ← Bool.and_true ((x.2.2.map pd).all _)]
      refine .all (.and (.notInObj (fun μ h => h.1) .name .name (pd_shp _) (pds_fine out)) fun _ => .and (.val (.allIn (fun μ h => h.1) (fun μ h => h.2) L.R.g L.R.b L.all L.allB BM L.R.nolimit .name rfl (pds_fine out) (fun d hd => ?_) (mem_of_lookup rfl) rfl rfl) .bool) fun _ => .andNil)
      obtain ⟨q, _, rfl⟩ := List.mem_map.mp hd
      exact pd_shp q
    · simp only [hb', if_true]
      exact .elt (.tuple (.cons .name (.cons .name .nil)))
    · simp only [hb', Bool.false_eq_true, if_false]
  have hstep : toldFrom wanted sizes (tWaits rows wanted) (n + 1) out = (match tEnded wanted sizes counts, tReady (tWaits rows wanted) out with
    | e :: _, (pl, p) :: _ => (("ended" : Str), [], if pl < e then tBump wanted e p counts else counts)
    | _ :: _, [] => ("ended", [], counts)
    | [], r => if counts == wanted.map List.length then ("merged", out, counts) else match r with
      | [] => ("stuck", [], counts)
      | (_, p) :: _ => toldFrom wanted sizes (tWaits rows wanted) n (out ++ [p])) := by rw [← hC]; rfl
  have htold : toldOf rows sizes = toldFrom wanted sizes (tWaits rows wanted) (n + 1) out := by rw [heq, ← hW]; rfl
  generalize hEq : tEnded wanted sizes counts = ended at *
  generalize hRq : tReady (tWaits rows wanted) out = ready at *
  refine WpSx.cons ?_
  refine Wp1x.ite ?_
  refine PB.use (.val .name (.list (by rw [List.length_map]; omega))) ?_
  cases ended with
  | cons e es =>
    simp only [List.map_cons, List.isEmpty_cons, Bool.not_false, if_true]
    have hret : ∀ (cs : List Nat) (ρ₂ : Ren) (Ψ : AFlow → Ren → Mem → Prop) (Ξ : XP), var ρ₂ "counts" (.list (cs.map natD)) → Ψ (.ret (resD ("ended", [], cs))) ρ₂ μ → ∀ (p1 p2 p3 p4 p5 : Pos) (nn : Nat) (rest : List Stmt), WpSx prog w hb none sc168 (k + 2) (.Return (some (.Tuple [.Constant (.str "ended") 0 p1, .List [] p2, .Name "counts" p3] nn p4)) p5 :: rest) ρ₂ (μ ++ [(D, .lst (out.map pd))]) Ψ Ξ := by
      intro cs ρ₂ Ψ Ξ hc he p1 p2 p3 p4 p5 nn rest
      refine WpSx.cons ?_
      refine Wp1x.of ?_
      refine Wp1.ret ?_
      refine WpE.forget ?_
      exact PE.use (.tuple (.cons .str (.cons (.list .nil) (.cons (.name hc) .nil)))) ⟨[(D, .lst (out.map pd))], μ, List.perm_append_comm, he⟩
    refine WpSx.cons ?_
    refine Wp1x.ite ?_
    cases ready with
    | nil =>
      refine PB.use (.all (.and (q := true) (.val .name (.list (by simp))) fun h => ?_)) ?_
      · simp at h
      · simp only [List.map_nil, List.isEmpty_nil, Bool.not_true, Bool.false_and, Bool.false_eq_true, if_false]
        refine WpSx.nil ?_
        refine hret counts _ _ _ ?_ ?_ _ _ _ _ _ _ _
        · rfl
        · exact ⟨by rw [htold, hstep]; rfl, rfl⟩
    | cons r rs =>
      obtain ⟨pl, p⟩ := r
      refine PB.use (.all (.and (.val .name (.list (by rw [List.length_map]; omega))) fun _ => .and (.cmp (.item (i := 0) (d := natD pl) (.item (i := 0) (d := readyD (pl, p)) .name .int (.inl rfl) (by decide) (by decide) rfl) .int (.inr rfl) (by decide) (by decide) rfl) (.item (i := 0) (d := natD e) .name .int (.inl rfl) (by decide) (by decide) rfl) .ltInt) fun _ => .andNil)) ?_
      have eb : ((!(List.map readyD ((pl, p) :: rs)).isEmpty) && (decide ((pl : Int) < (e : Int)) && true)) = decide (pl < e) := by
        simp
      rw [eb]
      by_cases hlt : pl < e
      · simp only [hlt, decide_true, if_true]
        refine WpSx.cons ?_
        refine Wp1x.of ?_
        refine Wp1.assignV ?_
        have hzi : (counts.map natD).zipIdx.map enumItem = counts.zipIdx.map fun x => enumItem (natD x.1, x.2) := by
          rw [List.zipIdx_map, List.map_map]; rfl
        have hbd : counts.zipIdx.flatMap (fun x => [natD (x.1 + if decide (x.2 < e) && (wanted.getD x.2 []).contains p then 1 else 0)]) = (tBump wanted e p counts).map natD := by
          rw [← List.map_eq_flatMap, tBump, List.map_map]; rfl
        refine PE.use (d := .list ((tBump wanted e p counts).map natD)) ?_ ?_
        · rw [← hbd]
          refine .compT counts.zipIdx (fun x => enumItem (natD x.1, x.2)) _ (by rw [← hzi]; exact .enum L .name) (fun x hx => ?_) (by rw [hbd, List.length_map, tBump, List.length_map, List.length_zipIdx, hcl]; decide)
          have hx3 : x.2 < 3 := by
            have := (List.mem_zipIdx (x := x.1) (i := x.2) hx).2.1
            omega
          refine .mk [("count", natD x.1), ("place", .int x.2)] rfl rfl (.elt ?_)
          have ec : natD (x.1 + if decide (x.2 < e) && (wanted.getD x.2 []).contains p then 1 else 0) = .int ((x.1 : Int) + if (decide ((x.2 : Int) < (e : Int)) && ((wanted.getD x.2 []).contains p && true)) then 1 else 0) := by
            unfold natD
            rw [Bool.and_true, show decide ((x.2 : Int) < (e : Int)) = decide (x.2 < e) by simp]
            cases (decide (x.2 < e) && (wanted.getD x.2 []).contains p) <;> rfl
          rw [ec]
          refine .bin .name (.ite (q := (decide ((x.2 : Int) < (e : Int)) && ((wanted.getD x.2 []).contains p && true))) (.all (.and (.cmp .name (.item (i := 0) (d := natD e) .name .int (.inl rfl) (by decide) (by decide) rfl) .ltInt) fun _ => .and (.cmp (.item (i := 1) (d := pd p) (.item (i := 0) (d := readyD (pl, p)) .name .int (.inl rfl) (by decide) (by decide) rfl) .int (.inr rfl) (by decide) (by decide) rfl) (.item (i := (x.2 : Int)) .name .name (.inl rfl) (by omega) (by omega) (hget x.2 hx3)) .inP) fun _ => .andNil)) (fun h => ?_) fun h => ?_) .addInt
          · rw [h]; exact .int
          · rw [h]; exact .int
        refine WpSx.nil ?_
        refine hret (tBump wanted e p counts) _ _ _ ?_ ?_ _ _ _ _ _ _ _
        · rfl
        · exact ⟨by rw [htold, hstep]; simp only [hlt, if_true]; rfl, rfl⟩
      · simp only [hlt, decide_false, Bool.false_eq_true, if_false]
        refine WpSx.nil ?_
        refine hret counts _ _ _ ?_ ?_ _ _ _ _ _ _ _
        · rfl
        · exact ⟨by rw [htold, hstep]; simp only [hlt, if_false]; rfl, rfl⟩
  | nil =>
    simp only [List.map_nil, List.isEmpty_nil, Bool.not_true, Bool.false_eq_true, if_false]
    refine WpSx.nil ?_
    refine WpSx.cons ?_
    refine Wp1x.ite ?_
    have hld : wanted.flatMap (fun part => [natD part.length]) = (wanted.map List.length).map natD := by
      rw [← List.map_eq_flatMap, List.map_map]; rfl
    refine PB.use (.cmp (b := .list ((wanted.map List.length).map natD)) .name ?_ (.eqD (nats_shp _) (nats_shp _))) ?_
    · rw [← hld]
      refine .compT wanted (fun r => Dat.list (r.map pd)) _ (.list .name) (fun part hp => ?_) (by rw [hld, List.length_map, List.length_map, hwl]; decide)
      refine .mk [("part", .list (part.map pd))] rfl rfl (.elt ?_)
      have hll : natD part.length = .int ((part.map pd).length : Int) := by rw [List.length_map]; rfl
      rw [hll]
      exact .bcall L.R.g L.R.b L.len L.lenB (.cons .name .nil) (.lenList (by rw [List.length_map]; have := hwm part hp; omega))
    rw [nats_eqv]
    by_cases hce : (counts == wanted.map List.length) = true
    · simp only [hce, if_true]
      refine WpSx.cons ?_
      refine Wp1x.of ?_
      refine Wp1.ret ?_
      refine WpE.tuple ?_
      refine WpA.cons ?_
      refine PE.use .str ?_
      refine WpA.cons ?_
      refine WpE.freeze ?_
      refine PE.use .name ⟨D, out.map pd, μ, rfl, List.perm_append_comm, ?_⟩
      refine WpA.cons ?_
      refine PE.use .name ?_
      refine WpA.nil ⟨by exact Nat.le_of_ble_eq_true rfl, ?_⟩
      exact ⟨by rw [htold, hstep]; simp only [hce, if_true]; rfl, rfl⟩
    · have hce' : (counts == wanted.map List.length) = false := by simpa using hce
      simp only [hce', Bool.false_eq_true, if_false]
      refine WpSx.nil ?_
      refine WpSx.cons ?_
      refine Wp1x.ite ?_
      refine PB.use (.not (.val .name (.list (by rw [List.length_map]; omega)))) ?_
      cases ready with
      | nil =>
        simp only [List.map_nil, List.isEmpty_nil, Bool.not_true, Bool.not_false, if_true]
        refine WpSx.cons ?_
        refine Wp1x.of ?_
        refine Wp1.ret ?_
        refine WpE.forget ?_
        refine PE.use (.tuple (.cons .str (.cons (.list .nil) (.cons .name .nil)))) ⟨[(D, .lst (out.map pd))], μ, List.perm_append_comm, ?_⟩
        exact ⟨by rw [htold, hstep]; simp only [hce', Bool.false_eq_true, if_false]; rfl, rfl⟩
      | cons r rs =>
        obtain ⟨pl, p⟩ := r
        simp only [List.map_cons, List.isEmpty_cons, Bool.not_false, Bool.not_true, Bool.false_eq_true, if_false]
        refine WpSx.nil ?_
        refine WpSx.cons ?_
        refine Wp1x.of ?_
        refine Wp1.expr ?_
        refine WpE.append ?_
        refine PE.use .name ⟨D, out.map pd, rfl, List.mem_append_right _ (.head _), ?_⟩
        refine PE.use (.item (i := 1) (d := pd p) (.item (i := 0) (d := readyD (pl, p)) .name .int (.inl rfl) (by decide) (by decide) rfl) .int (.inr rfl) (by decide) (by decide) rfl) ⟨out.map pd, List.mem_append_right _ (.head _), by rw [List.length_map]; unfold sizeLine; omega, rfl, ?_⟩
        have hset : setM (μ ++ [(D, MO.lst (out.map pd))]) D (.lst (out.map pd ++ [pd p])) = μ ++ [(D, .lst ((out ++ [p]).map pd))] := by
          rw [setM_append, setM_off fun q hq e => hD (by rw [← e]; exact mem_dom (show (q.1, q.2) ∈ μ from hq)), List.map_append]
          simp [setM]
        rw [hset]
        have hp : p ∉ out := by
          have hm : (pl, p) ∈ tReady (tWaits rows wanted) out := by rw [hRq]; exact .head _
          obtain ⟨x, hx, ex⟩ := List.mem_map.mp hm
          have := (List.mem_filter.mp hx).2
          cases ex
          simp at this
          exact this.1
        refine WpSx.nilW [_, _, _] (toldRen rows wanted sizes D) ⟨n, Nat.lt_succ_self n, out ++ [p], rfl, rfl, ?_, by rw [List.length_append]; simp; omega, ?_⟩
        · exact List.nodup_append.mpr ⟨hnd, by simp, fun a ha b hb' e => hp (by rw [← List.mem_singleton.mp hb', ← e]; exact ha)⟩
        · rw [← heq, hstep]; simp only [hce', Bool.false_eq_true, if_false]
end
end Mine

end

noncomputable section
set_option maxHeartbeats 1000000
namespace Mine
/-! The class and its methods. -/
noncomputable def accMap (w : World) : Str → Option Value := fun x => match (Mine.hp w.params).lookup 113 with
  | some ⟨_, _, .dict es _, _⟩ => nsFind es x
  | _ => none
section
variable {prog : Program} {w : World} {hb : Heap} {M : MP} {mg mb : Str → Option Value} {k : Nat} {μ : Mem} {sc : Sh} {ρ : Ren}
theorem Lib.acc (L : Lib w mg mb hb) : AccNames hb (accMap w) := by
  refine ⟨⟨⟨_, _, _, _, _, _, _, _, _, _, _, _, _, L.K 114 _ rfl⟩, ⟨_, _, _, L.K 113 _ rfl, rfl, ?_, fun x => rfl⟩⟩, rfl, rfl⟩
  intro e he
  simp only [List.mem_toArray, List.mem_cons, List.not_mem_nil, or_false] at he
  rcases he with rfl | rfl | rfl | rfl | rfl | rfl | rfl | rfl | rfl | rfl | rfl | rfl | rfl | rfl | rfl <;> exact ⟨_, _, rfl⟩
theorem Lib.sum (L : Lib w mg mb hb) : mg "sum" = none := L.find fun _ _ e => by cases e; rfl
theorem Lib.sumB (L : Lib w mg mb hb) : mb "sum" = some (.builtin "sum") := (L.R.builtins "sum" (by decide)).trans PyProof.Rows.Boot.«sum»

theorem pd_qd (p : Pc) : pd p = qd (pcs p) := rfl
noncomputable def sc81 : Sh := ⟨[("self", .local), ("sum", .globalImplicit)], .ref 80⟩
noncomputable def plen (p : Pc) : Nat := (pcs p).1.length + (pcs p).2.length
theorem plen_le : ∀ p : Pc, plen p ≤ 4 := by decide +kernel
theorem plen_parts : ∀ p : Pc, (pcs p).1.length ≤ 2 ∧ (pcs p).2.length ≤ 2 := by decide +kernel
noncomputable def total (l : List Pc) : Nat := (l.map plen).sum
theorem pre_total : ∀ (l : List Pc) (j : Nat), j ≤ l.length → preSum (lenAt (l.map pcs)) j = ((l.take j).map plen).sum
  | l, 0, _ => by simp [preSum]
  | l, j + 1, h => by
    have hj : j < l.length := h
    have e : (l.map pcs)[j]? = some (pcs l[j]) := by rw [List.getElem?_map, List.getElem?_eq_getElem hj]; rfl
    rw [preSum, pre_total l j (by omega), lenAt_some e, List.take_add_one, List.map_append, List.sum_append, List.getElem?_eq_getElem hj]
    simp [plen]
theorem total_le (l : List Pc) : total l ≤ 4 * l.length := by
  unfold total
  induction l with
  | nil => simp
  | cons p r ih => have := plen_le p; simp; omega
theorem len_ok (L : Lib w mg mb hb) {a dx T : Addr} {c0 : Int} {l : List Pc} {ps : Array Value} (ht : (T, MO.tab 80 ps) ∈ μ) (hacc : (a, MO.acc dx (some c0) (l.map pd)) ∈ μ) (hc : 0 ≤ c0 ∧ c0 ≤ 1000) (hl : l.length ≤ 1000) :
    WpC prog w hb (k + 2) 81 [.obj a] μ (fun d μ' => d = .int (c0 + total l) ∧ μ' = μ) := by
  obtain ⟨bm, ob, BM⟩ := L.M
  refine WpC.fnK sc81 ["self"] (L.K 81 _ rfl) rfl rfl L.R.nolimit ⟨_, _, _, _, rfl, L.K 80 _ rfl, rfl, rfl⟩ (fun vs h => by match vs, h with | [v], _ => rfl) ?_
  refine WpS.cons ?_
  refine Wp1.ret ?_
  have hq : (l.map pcs).map qd = l.map pd := by rw [List.map_map]; rfl
  have hfull := pre_total l l.length (Nat.le_refl _)
  rw [List.take_length] at hfull
  refine WpE.lenSum (qs := l.map pcs) (c0 := c0) L.R.g L.R.b L.sum L.sumB L.len L.lenB BM L.R.nolimit L.acc rfl rfl ht (by rw [hq]; exact hacc) rfl (fun q hm => ?_) ⟨by omega, by omega⟩ (fun j hj => ?_) ⟨?_, rfl⟩
  · obtain ⟨p, _, rfl⟩ := List.mem_map.mp hm
    have := plen_parts p
    omega
  · rw [List.length_map] at hj
    have e : (l.map pcs)[j]? = some (pcs l[j]) := by rw [List.getElem?_map, List.getElem?_eq_getElem hj]; rfl
    have h1 := plen_parts l[j]
    have h2 := total_le (l.take (j + 1))
    rw [pre_total l (j + 1) hj, lenAt_some e]
    have h3 : (l.take (j + 1)).length ≤ l.length := by rw [List.length_take]; omega
    unfold total at h2
    refine ⟨⟨by omega, by omega⟩, ⟨by omega, by omega⟩⟩
  · rw [List.length_map, hfull]; rfl
end
end Mine

end

noncomputable section
set_option maxHeartbeats 1000000
namespace Mine
noncomputable def textOf : List Pc → Str
  | [] => ""
  | p :: r => (pcs p).1 ++ (pcs p).2 ++ textOf r
section
variable {prog : Program} {w : World} {hb : Heap} {M : MP} {mg mb : Str → Option Value} {k : Nat} {μ : Mem} {sc : Sh} {ρ : Ren}
theorem Lib.empty (L : Lib w mg mb hb) : ∃ t, mg "EMPTYSTRING" = some (.str "" t) := ⟨_, L.find fun _ _ e => by cases e; rfl⟩
theorem txt_str (sep : Str) (l : List Str) : Txt.join sep l = Str.join sep l := by simpa using join_plain_closes sep l

theorem empty_app (x : Str) : x ++ ("" : Str) = x := by
  cases x with
  | mk c =>
    show Str.mk (c ++ #[]) = _
    simp
theorem join_two (a b : Str) : Txt.join "" [a, b] = a ++ b := by
  rw [txt_str]
  have h1 := PyProof.Rows.join_nil_cons a [b]
  have h2 := PyProof.Rows.join_nil_cons b []
  have e : ("" : Str) = ⟨#[]⟩ := rfl
  rw [e, h1, h2]
  show a ++ (b ++ ("" : Str)) = a ++ b
  rw [empty_app]
theorem cats (l : List Pc) : (List.range (l.map pcs).length).map (catAt "" (l.map pcs)) = l.map fun p => (pcs p).1 ++ (pcs p).2 := by
  apply List.ext_getElem?
  intro j
  by_cases hj : j < l.length
  · have e : (l.map pcs)[j]? = some (pcs l[j]) := by rw [List.getElem?_map, List.getElem?_eq_getElem hj]; rfl
    rw [List.getElem?_map, List.getElem?_range (by simpa using hj), List.getElem?_map, List.getElem?_eq_getElem hj]
    simp only [Option.map_some]
    rw [catAt_some e, join_two]
  · rw [List.getElem?_eq_none (by simp; omega), List.getElem?_eq_none (by simp; omega)]
theorem join_text (l : List Pc) : Txt.join "" (l.map fun p => (pcs p).1 ++ (pcs p).2) = textOf l := by
  rw [txt_str]
  induction l with
  | nil => rfl
  | cons p r ih =>
    rw [List.map_cons]
    have h1 := PyProof.Rows.join_nil_cons ((pcs p).1 ++ (pcs p).2) (r.map fun p => (pcs p).1 ++ (pcs p).2)
    have e : ("" : Str) = ⟨#[]⟩ := rfl
    rw [e] at ih ⊢
    rw [h1, ih]; rfl

noncomputable def sc88 : Sh := ⟨[("self", .local), ("EMPTYSTRING", .globalImplicit)], .ref 87⟩
theorem cat_sum (l : List Pc) : ((l.map fun p => (pcs p).1 ++ (pcs p).2).map (·.length)).sum ≤ 4 * l.length := by
  induction l with
  | nil => simp
  | cons p r ih =>
    have h1 := plen_parts p
    have h2 : ((pcs p).1 ++ (pcs p).2).length = (pcs p).1.length + (pcs p).2.length := Array.size_append
    simp only [List.map_cons, List.sum_cons, List.length_cons, h2]
    omega
theorem str_ok (L : Lib w mg mb hb) {a dx T : Addr} {sz : Option Int} {l : List Pc} {ps : Array Value} (ht : (T, MO.tab 87 ps) ∈ μ) (hacc : (a, MO.acc dx sz (l.map pd)) ∈ μ) (hl : l.length ≤ 1000) :
    WpC prog w hb (k + 2) 88 [.obj a] μ (fun d μ' => d = .str (textOf l) ∧ μ' = μ) := by
  obtain ⟨bm, ob, BM⟩ := L.M
  obtain ⟨te, hte⟩ := L.empty
  refine WpC.fnK sc88 ["self"] (L.K 88 _ rfl) rfl rfl L.R.nolimit ⟨_, _, _, _, rfl, L.K 87 _ rfl, rfl, rfl⟩ (fun vs h => by match vs, h with | [v], _ => rfl) ?_
  refine WpS.cons ?_
  refine Wp1.ret ?_
  have hq : (l.map pcs).map qd = l.map pd := by rw [List.map_map]; rfl
  refine WpE.joinAll (qs := l.map pcs) (sep := "") L.R.g hte BM L.R.nolimit L.acc rfl ht (by rw [hq]; exact hacc) rfl (fun q hm => ?_) (by simpa using hl) ?_ ⟨?_, rfl⟩
  · obtain ⟨p, _, rfl⟩ := List.mem_map.mp hm
    have := plen_parts p
    have e : ("" : Str).length = 0 := rfl
    omega
  · rw [cats]
    refine joinOk_of ?_
    have h1 := cat_sum l
    have e : ("" : Str).length = 0 := rfl
    rw [e]
    omega
  · rw [cats, join_text]; rfl
end
end Mine

end

noncomputable section
set_option maxHeartbeats 1000000
namespace Mine
section
variable {prog : Program} {w : World} {hb : Heap} {M : MP} {mg mb : Str → Option Value} {k : Nat} {μ : Mem} {sc : Sh} {ρ : Ren}
noncomputable def sc59 : Sh := ⟨[("self", .local), ("fws", .local), ("string", .local)], .ref 58⟩
theorem push_ok (L : Lib w mg mb hb) {a dx : Addr} {sz : Option Int} {ds : List Dat} {x z : Str} (hacc : (a, MO.acc dx sz ds) ∈ μ) (hl : ds.length ≤ 1000) :
    WpC prog w hb (k + 1) 59 [.obj a, .str x, .str z] μ (fun d μ' => d = .none ∧ μ' = setM μ a (.acc dx sz (ds ++ [.tuple [.str x, .str z]]))) := by
  refine WpC.fnK sc59 ["self", "fws", "string"] (L.K 59 _ rfl) rfl rfl L.R.nolimit ⟨_, _, _, _, rfl, L.K 58 _ rfl, rfl, rfl⟩ (fun vs h => by match vs, h with | [v, u, t], _ => rfl) ?_
  refine WpS.cons ?_
  refine Wp1.expr ?_
  refine WpE.accAppend L.acc rfl ?_
  refine PE.use .name ⟨a, dx, sz, ds, rfl, hacc, ?_⟩
  refine PE.use (.tuple (.cons .name (.cons .name .nil))) ⟨dx, sz, ds, hacc, Nat.le_trans hl (by decide), rfl, ?_⟩
  refine WpS.nil ?_
  exact ⟨rfl, rfl⟩
end
end Mine

end

noncomputable section
set_option maxHeartbeats 1000000
namespace Mine
section
variable {prog : Program} {w : World} {hb : Heap} {M : MP} {mg mb : Str → Option Value} {k : Nat} {μ : Mem} {sc : Sh} {ρ : Ren}
theorem Lib.binds (L : Lib w mg mb hb) {s : Shared} {fd : FuncData} {args : Args} {binds : List (Str × Value)} (hk : ∀ b o, hb.get? b = some o → s.heap.get? b = some o) (e : ∀ S, peek (Mine.hp w.params) S (bindArgs fd args) = some binds) : BindsTo s fd args binds :=
  kp_binds (K := Mine.hp w.params) (fun a o h => hk a o (L.K a o h)) e
noncomputable def sc96 : Sh := ⟨[("self", .local), ("startval", .local)], .ref 95⟩
theorem reset_ok (L : Lib w mg mb hb) {a dx : Addr} {sz : Option Int} {ds es : List Dat} (hacc : (a, MO.acc dx sz ds) ∈ μ) (hl : ds.length + es.length ≤ 1000) :
    WpC prog w hb (k + 1) 96 [.obj a, .list es] μ (fun d μ' => d = .none ∧ μ' = setM (setM μ a (.acc dx sz es)) a (.acc dx (some 0) es)) := by
  refine WpC.fnD (dds := []) sc96 ["self", "startval"] [] (L.K 96 _ rfl) rfl rfl L.R.nolimit ⟨_, _, _, _, rfl, L.K 95 _ rfl, rfl, rfl⟩ (fun _ _ => .nil) (fun s vs hk h => by match vs, h with | [v, u], _ => exact L.binds hk fun S => rfl) ?_ (hfree := fun x hx => absurd hx (free_of rfl x)) (hap := .nil)
  refine WpS.cons ?_
  refine Wp1.ite ?_
  refine PB.use (.cmp .name .none .isNone_list) ?_
  simp only [Bool.false_eq_true, if_false]
  refine WpS.nil ?_
  refine WpS.cons ?_
  refine Wp1.accSetAll L.acc rfl ?_
  refine PE.use .name ?_
  refine PE.use .name ⟨es, a, dx, sz, ds, rfl, rfl, hacc, Nat.le_trans hl (by decide), ?_⟩
  refine WpS.cons ?_
  refine Wp1.accSetSize L.acc rfl rfl ?_
  refine PE.use .int ?_
  refine PE.use .name ⟨0, a, dx, sz, es, rfl, rfl, ?_, ?_⟩
  · exact List.mem_map.mpr ⟨_, hacc, by simp⟩
  refine WpS.nil ?_
  exact ⟨rfl, rfl⟩
end
end Mine

end

noncomputable section
set_option maxHeartbeats 1000000
namespace Mine
section
variable {prog : Program} {w : World} {hb : Heap} {M : MP} {mg mb : Str → Option Value} {k : Nat} {μ : Mem} {sc : Sh} {ρ : Ren}
theorem Lib.super (L : Lib w mg mb hb) : mg "super" = none := L.find fun _ _ e => by cases e; rfl
theorem Lib.superB (L : Lib w mg mb hb) : mb "super" = some (.type "super") := (L.R.builtins "super" (by decide)).trans PyProof.Rows.Boot.«super»
theorem bound_len (v : Value) : checkBoundCall "list.__len__" ⟨[v], []⟩ = pure () := by kernel_rfl
theorem bound_init (v : Value) : checkBoundCall "list.__init__" ⟨[v], []⟩ = pure () := by kernel_rfl
theorem entry_list_len' : entryFor table "list.__len__" = some Builtin.«list.__len__» := entryFor_of_tree (by kernel_rfl)
theorem entry_list_init' : entryFor table "list.__init__" = some Builtin.«list.__init__» := entryFor_of_tree (by kernel_rfl)
theorem Lib.noOpq (L : Lib w mg mb hb) {h : Heap} (hk : ∀ b o, hb.get? b = some o → h.get? b = some o) : Looks (model prog w) h (opaqueClassAbove (.ref accC)) none :=
  looks_opaque (K := Mine.hp w.params) (fun a o e => hk a o (L.K a o e)) (by kernel_rfl)
theorem Lib.notAcc (L : Lib w mg mb hb) {s : Shared} (y : Ok hb μ s) {a : Addr} {o : MO} (hm : (a, o) ∈ μ) : a ≠ accC := fun z => by
  have h1 := y.off a (mem_dom hm)
  obtain ⟨_, _, _, _, _, _, _, _, _, _, _, _, _, e⟩ := L.acc.X.obj
  rw [z, e] at h1; cases h1
noncomputable def sc111 : Sh := ⟨[("self", .local), ("__class__", .free), ("super", .globalImplicit)], .ref 110⟩
noncomputable def theFile : Str := match PySem.Challenge.rw_ny0091_01.row.prog.main.file with | f => f
theorem part_ok (L : Lib w mg mb hb) (P : PSup prog theFile) {a dx : Addr} {sz : Option Int} {ds : List Dat} (hacc : (a, MO.acc dx sz ds) ∈ μ) :
    WpC prog w hb (k + 1) 111 [.obj a] μ (fun d μ' => d = .int ds.length ∧ μ' = μ) := by
  refine WpC.fnAt (dds := []) sc111 ["self"] [] (L.K 111 _ rfl) rfl rfl L.R.nolimit ⟨_, _, _, _, rfl, L.K 110 _ rfl, rfl, rfl⟩ (fun _ _ => .nil) (fun s vs hk h => by match vs, h with | [v], _ => exact L.binds hk fun S => rfl) ?_ (hfree := fun x hx => ?_) (hap := ?_)
  · intro A s E L' c en y Q hQ
    refine ks_wpAt_execs_cons ?_
    refine ks_wpAt_Return_some ?_
    refine ks_wpAt_MethodCall ?_
    refine acc_superBase en y P L.acc L.R.g L.R.b L.super L.superB (a := a) (ar := _) rfl hacc (L.K 111 _ rfl) rfl rfl rfl (L.K 110 _ rfl) rfl rfl rfl ⟨_, L.K 39 _ rfl, rfl⟩ fun so s1 hso en1 y1 f1 => ?_
    obtain ⟨vs, kk, ho, ra, _⟩ := id (y1.mem _ hacc)
    have X1 := L.acc.X.keeps y1.base
    have hac := L.notAcc y1 hacc
    have hno := L.noOpq (prog := prog) y1.base
    obtain ⟨h1, g1, d1, t1, o1⟩ := s1
    refine acc_super_get (.inl rfl) own_len typ_len rfl hso hno X1 (isAcc (s := ⟨h1, g1, d1, t1, o1⟩) ho) hac ?_
    have hq : (h1.push (wrapObj "list.__len__" a)).get? h1.objs.size = some (wrapObj "list.__len__" a) := Heap.get?_push_size _ rfl
    refine wrap_callWith hq ?_
    refine wrap_call hq (bound_len _) (by decide +kernel) entry_list_len' ?_
    have kp := push_keeps (h := h1) (wrapObj "list.__len__" a)
    refine acc_listLen (kp _ _ ho) ?_
    have fp : Fw (dom μ) (dom μ) ⟨h1, g1, d1, t1, o1⟩ ⟨h1.push (wrapObj "list.__len__" a), g1, d1, t1 + 1 + 1, o1⟩ := Fw.keeps (s := ⟨h1, g1, d1, t1, o1⟩) kp
    refine hQ (.ret (.int vs.toArray.size (t1 + 1))) (.int ds.length) μ _ ⟨rfl, rfl⟩ ?_ (y1.keeps kp) ((f1.trans fp).lift _)
    have : vs.toArray.size = ds.length := by simpa using ra.length
    rw [this]
    exact .int _ _
  · have : ∀ x, (sc111.names.lookup x = some .free) → x = ("__class__" : Str) := fun x hx => by
      have hm := mem_of_lookup hx
      simp [sc111] at hm
      exact hm
    rw [this x hx]; rfl
  · exact List.pairwise_singleton ..
end
end Mine

end

noncomputable section
set_option maxHeartbeats 1000000
namespace Mine
section
variable {prog : Program} {w : World} {hb : Heap} {M : MP} {mg mb : Str → Option Value} {k : Nat} {μ : Mem} {sc : Sh} {ρ : Ren}
noncomputable def sc52 : Sh := ⟨[("self", .local), ("initial_size", .local), ("__class__", .free), ("super", .globalImplicit)], .ref 51⟩
theorem free_class {names : List (Str × NameKind)} {cl : Addr} {x : Str} (hx : names.lookup x = some .free) (h : (names.all fun p => p.2 != .free || p.1 == ("__class__" : Str)) = true) : ([(("__class__" : Str), cl)].lookup x).isSome = true := by
  have := List.all_eq_true.mp h _ (mem_of_lookup hx)
  simp at this
  rw [this]; rfl
theorem init_raw (L : Lib w mg mb hb) (P : PSup prog theFile) {fd : FuncData} {a dx : Addr} {i : Int} (hacc : (a, MO.acc dx none []) ∈ μ) {dvs : List Value} {ds dds : List Dat} (hds : ds ++ dds = [.obj a, .int i])
    (hdv : ∀ X h, RdA X h dvs dds) (hbind : ∀ (s : Shared) (vs : List Value), (∀ b o, hb.get? b = some o → s.heap.get? b = some o) → vs.length = ds.length → BindsTo s fd ⟨vs, []⟩ ((["self", "initial_size"] : List Str).zip (vs ++ dvs)))
    (hfd : ∃ o, (Mine.hp w.params).lookup 52 = some o ∧ o.data = .func fd) :
    WpC prog w hb (k + 1) 52 ds μ (fun d μ' => d = .none ∧ μ' = setM (setM μ a (.acc dx (some i) [])) a (.acc dx (some i) [])) := by
  obtain ⟨o, h1, h2⟩ := hfd
  have e : o = _ := Option.some.inj (h1.symm.trans rfl)
  subst e
  cases h2
  refine WpC.fnAt (dds := dds) sc52 ["self", "initial_size"] dvs (L.K 52 _ rfl) rfl rfl L.R.nolimit ⟨_, _, _, _, rfl, L.K 51 _ rfl, rfl, rfl⟩ hdv hbind ?_ (hfree := fun x hx => free_class hx rfl) (hap := List.pairwise_singleton ..) (hlen := ?_)
  · rw [hds]
    intro A s E L' c en y Q hQ
    refine ks_wpAt_execs_cons ?_
    refine wpAt_of_wpAny ?_
    have hset : ∀ {np apos vp pos : Pos}, Wp1 prog w hb sc52 k (.Assign [.Attribute (.Name "self" np) sizeName apos] (.Name "initial_size" vp) pos) [("self", .obj a), ("initial_size", .int i)] μ (fun af ρ' μ' => af = .next ∧ ρ' = [(("self" : Str), .obj a), (("initial_size" : Str), .int i)] ∧ μ' = setM μ a (.acc dx (some i) [])) := fun {_ _ _ _} => Wp1.accSetSize L.acc rfl rfl (PE.use .name (PE.use .name ⟨i, a, dx, none, [], rfl, rfl, hacc, rfl, rfl, rfl⟩))
    refine (hset _ A s E c en y).run _ fun f af ρ' μ' s1 h1 fl en1 y1 f1 => ?_
    obtain ⟨rfl, rfl, rfl⟩ := h1
    have : f = .next := by cases f <;> first | rfl | cases fl
    subst this
    have hacc1 : (a, MO.acc dx (some i) []) ∈ setM μ a (.acc dx (some i) []) := List.mem_map.mpr ⟨_, hacc, by simp⟩
    refine ks_wpAt_execs_cons ?_
    refine ks_wpAt_Expr_any ?_
    refine ks_wpAt_MethodCall ?_
    refine acc_superBase en1 y1 P L.acc L.R.g L.R.b L.super L.superB (a := a) (ar := _) rfl hacc1 (L.K 52 _ rfl) rfl rfl rfl (L.K 51 _ rfl) rfl rfl rfl ⟨_, L.K 39 _ rfl, rfl⟩ fun so s2 hso en2 y2 f2 => ?_
    obtain ⟨vs, kk, ho, ra, _⟩ := id (y2.mem _ hacc1)
    cases ra
    have X2 := L.acc.X.keeps y2.base
    have hac := L.notAcc y2 hacc1
    have hno := L.noOpq (prog := prog) y2.base
    obtain ⟨h1, g1, d1, t1, o1⟩ := s2
    refine acc_super_get (.inr rfl) own_init typ_init rfl hso hno X2 (isAcc (s := ⟨h1, g1, d1, t1, o1⟩) ho) hac ?_
    have hq : (h1.push (wrapObj "list.__init__" a)).get? h1.objs.size = some (wrapObj "list.__init__" a) := Heap.get?_push_size _ rfl
    refine wrap_callWith hq ?_
    refine wrap_call hq (bound_init _) (by decide +kernel) entry_list_init' ?_
    have kp := push_keeps (h := h1) (wrapObj "list.__init__" a)
    have fp : Fw (dom (setM μ a (.acc dx (some i) []))) (dom (setM μ a (.acc dx (some i) []))) ⟨h1, g1, d1, t1, o1⟩ ⟨h1.push (wrapObj "list.__init__" a), g1, d1, t1 + 1, o1⟩ := Fw.keeps (s := ⟨h1, g1, d1, t1, o1⟩) kp
    have y3 : Ok hb (setM μ a (.acc dx (some i) [])) ⟨h1.push (wrapObj "list.__init__" a), g1, d1, t1 + 1, o1⟩ := y2.keeps kp
    refine acc_listInit (kp _ _ ho) (by simp) fun h' n' e1 e2 => ?_
    obtain ⟨y4, ed, f4⟩ := y3.accSet (ds' := []) (vs' := []) hacc1 e1 e2 .nil
    refine wpAt_of_wpAny ?_
    refine wpAny_execs_nil ?_
    refine hQ .next .none _ _ ⟨rfl, rfl⟩ .none y4 ?_
    rw [ed]
    exact f1.trans (((f2.trans fp).trans f4).lift _)
  · have := congrArg List.length hds
    simp at this
    simp; omega
theorem init_ok (L : Lib w mg mb hb) (P : PSup prog theFile) {a dx : Addr} {i : Int} (hacc : (a, MO.acc dx none []) ∈ μ) :
    WpC prog w hb (k + 1) 52 [.obj a, .int i] μ (fun d μ' => d = .none ∧ μ' = setM (setM μ a (.acc dx (some i) [])) a (.acc dx (some i) [])) :=
  init_raw L P hacc (dds := []) (dvs := []) rfl (fun _ _ => .nil) (fun s vs hk h => by match vs, h with | [v, u], _ => exact L.binds hk fun S => rfl) ⟨_, rfl, rfl⟩
theorem init_ok0 (L : Lib w mg mb hb) (P : PSup prog theFile) {a dx : Addr} (hacc : (a, MO.acc dx none []) ∈ μ) :
    WpC prog w hb (k + 1) 52 [.obj a] μ (fun d μ' => d = .none ∧ μ' = setM (setM μ a (.acc dx (some 0) [])) a (.acc dx (some 0) [])) :=
  init_raw L P hacc (dds := [.int 0]) (ds := [.obj a]) rfl (fun _ _ => .cons (.int 0 _) .nil) (fun s vs hk h => by match vs, h with | [v], _ => exact L.binds hk fun S => rfl) ⟨_, rfl, rfl⟩
end
end Mine

end

noncomputable section
set_option maxHeartbeats 1000000
namespace Mine
section
variable {prog : Program} {w : World} {hb : Heap} {M : MP} {mg mb : Str → Option Value} {k : Nat} {μ : Mem} {sc : Sh} {ρ : Ren}
theorem Lib.accN (L : Lib w mg mb hb) : mg "_Accumulator" = some (.ref 114) := L.find fun _ _ e => by cases e; rfl
theorem Lib.str (L : Lib w mg mb hb) : mg "str" = none := L.find fun _ _ e => by cases e; rfl
theorem Lib.strB (L : Lib w mg mb hb) : mb "str" = some (.type "str") := (L.R.builtins "str" (by decide)).trans PyProof.Rows.Boot.«str»
noncomputable def openOf (place : Int) : List Pc := if decide (place < 2) then [8] else []
noncomputable def sc137 : Sh := ⟨[("size", .local), ("place", .local), ("heap", .local), ("_Accumulator", .globalImplicit)], .ref 136⟩
theorem opened_ok (L : Lib w mg mb hb) (P : PSup prog theFile) (size place : Int) :
    WpC prog w hb (k + 3) 137 [.int size, .int place] μ (fun d μ' => ∃ a dx, a ∉ dom μ ∧ dx ∉ dom μ ∧ d = .obj a ∧ μ' = μ ++ [(a, .acc dx (some size) ((openOf place).map pd))]) := by
  refine WpC.fnK sc137 ["size", "place"] (L.K 137 _ rfl) rfl rfl L.R.nolimit ⟨_, _, _, _, rfl, L.K 136 _ rfl, rfl, rfl⟩ (fun vs h => by match vs, h with | [v, u], _ => rfl) ?_
  refine WpS.cons ?_
  refine Wp1.assignV ?_
  refine WpE.accNew L.acc rfl (L.K 52 _ rfl) rfl L.R.g L.accN ?_
  refine PA.use (.cons .name .nil) ?_
  intro a dx ha hdx
  refine (init_ok L P (List.mem_append_right _ (.head _))).mono fun d μ₂ h2 => ?_
  obtain ⟨rfl, rfl⟩ := h2
  refine ⟨rfl, ?_⟩
  rw [setM_setM, setM_last ha]
  refine WpS.cons ?_
  refine Wp1.ite ?_
  refine PB.use (.cmp .name .int .ltInt) ?_
  by_cases hp : place < 2
  · simp only [hp, decide_true, if_true]
    refine WpS.cons ?_
    refine Wp1.expr ?_
    refine WpE.accMethod L.acc (f := 59) rfl (L.K 59 _ rfl) rfl rfl (y := none) (by rw [typeLookup_type, builtinLookup_eq_fast]; kernel_rfl) (by decide) ?_
    refine PE.use .name ⟨a, dx, _, _, rfl, List.mem_append_right _ (.head _), ?_⟩
    refine PA.use (.cons .str (.cons .str .nil)) ?_
    refine (push_ok L (List.mem_append_right _ (.head _)) (by simp)).mono fun d μ₂ h2 => ?_
    obtain ⟨rfl, rfl⟩ := h2
    refine ⟨rfl, ?_⟩
    rw [setM_last ha]
    refine WpS.nil ?_
    refine WpS.cons ?_
    refine Wp1.ret ?_
    refine PE.use .name ⟨a, dx, ha, hdx, rfl, ?_⟩
    unfold openOf
    simp only [hp, decide_true, if_true]; rfl
  · simp only [hp, decide_false, Bool.false_eq_true, if_false]
    refine WpS.nil ?_
    refine WpS.cons ?_
    refine Wp1.ret ?_
    refine PE.use .name ⟨a, dx, ha, hdx, rfl, ?_⟩
    unfold openOf
    simp only [hp, decide_false, Bool.false_eq_true, if_false]; rfl

noncomputable def sc144 : Sh := ⟨[("heaps", .local), ("number", .local), ("piece", .local), ("_law_piece", .globalImplicit)], .ref 143⟩
theorem pushed_ok (L : Lib w mg mb hb) {hs : List Dat} {n : Int} {a dx : Addr} {sz : Option Int} {ds : List Dat} (hi : hs[(n.fmod 3).toNat]? = some (.obj a)) (hacc : (a, MO.acc dx sz ds) ∈ μ) (hl : ds.length ≤ 1000) :
    WpC prog w hb (k + 3) 144 [.list hs, .int n] μ (fun d μ' => d = .list hs ∧ μ' = setM μ a (.acc dx sz (ds ++ [pd (pieceOf n)]))) := by
  have h3 : 0 ≤ n.fmod 3 ∧ n.fmod 3 < 3 := ⟨Int.fmod_nonneg_of_pos _ (by decide), Int.fmod_lt_of_pos _ (by decide)⟩
  refine WpC.fnK sc144 ["heaps", "number"] (L.K 144 _ rfl) rfl rfl L.R.nolimit ⟨_, _, _, _, rfl, L.K 143 _ rfl, rfl, rfl⟩ (fun vs h => by match vs, h with | [v, u], _ => rfl) ?_
  refine WpS.cons ?_
  refine Wp1.assignV ?_
  refine PE.use (.call L.R.g L.piece (L.K 125 _ rfl) rfl (.cons .name .nil) (piece_ok L n)) ?_
  refine WpS.cons ?_
  refine Wp1.expr ?_
  refine WpE.accMethod L.acc (f := 59) rfl (L.K 59 _ rfl) rfl rfl (y := none) (by rw [typeLookup_type, builtinLookup_eq_fast]; kernel_rfl) (by decide) ?_
  refine PE.use (.item (i := n.fmod 3) (ds := hs) (d := .obj a) .name (.bin .name .int (.modInt (by decide))) (.inl rfl) h3.1 (by omega) hi) ⟨a, dx, sz, ds, rfl, hacc, ?_⟩
  refine PA.use (.cons (.item (d := .str (pcs (pieceOf n)).1) .name .int (.inr rfl) (by decide) (by decide) rfl) (.cons (.item (d := .str (pcs (pieceOf n)).2) .name .int (.inr rfl) (by decide) (by decide) rfl) .nil)) ?_
  refine (push_ok L hacc hl).mono fun d μ₂ h2 => ?_
  obtain ⟨rfl, rfl⟩ := h2
  refine ⟨rfl, ?_⟩
  refine WpS.cons ?_
  refine Wp1.ret ?_
  exact PE.use .name ⟨rfl, rfl⟩

noncomputable def sc67 : Sh := ⟨[("self", .local), ("i", .local), ("popped", .local)], .ref 66⟩
theorem pop_ok (L : Lib w mg mb hb) {a dx : Addr} {sz : Option Int} {ds : List Dat} (hacc : (a, MO.acc dx sz ds) ∈ μ) (hl : ds.length ≤ 1000) :
    WpC prog w hb (k + 1) 67 [.obj a] μ (fun d μ' => d = .list ds ∧ μ' = setM μ a (.acc dx sz [])) := by
  refine WpC.fnD (dds := [.int 0]) sc67 ["self", "i"] [.int 0 _] (L.K 67 _ rfl) rfl rfl L.R.nolimit ⟨_, _, _, _, rfl, L.K 66 _ rfl, rfl, rfl⟩ (fun _ _ => .cons (.int 0 _) .nil) (fun s vs hk h => by match vs, h with | [v], _ => exact L.binds hk fun S => rfl) ?_ (hfree := fun x hx => absurd hx (free_of rfl x)) (hap := .nil)
  refine WpS.cons ?_
  refine Wp1.assignV ?_
  refine WpE.accFrom L.acc.X rfl ?_
  refine PE.use .name ?_
  refine PE.use .name ⟨a, dx, sz, ds, 0, rfl, hacc, rfl, by decide, Nat.le_trans hl (by decide), ?_⟩
  refine WpS.cons ?_
  refine Wp1.accSetFrom L.acc rfl ?_
  refine PE.use (.list .nil) ?_
  refine PE.use .name ?_
  refine PE.use .name ⟨[], a, dx, sz, ds, rfl, rfl, rfl, hacc, Nat.le_trans (by simpa using hl) (show 1000 ≤ sizeLine by decide), ?_⟩
  refine WpS.cons ?_
  refine Wp1.ret ?_
  exact PE.use .name ⟨rfl, rfl⟩
end
end Mine

end

noncomputable section
set_option maxHeartbeats 1000000
namespace Mine
section
variable {prog : Program} {w : World} {hb : Heap} {M : MP} {mg mb : Str → Option Value} {k : Nat} {μ : Mem} {sc : Sh} {ρ : Ren}
noncomputable def wsOf (c0 : Int) (l : List Pc) : Bool := c0 == 0 && ((total l == 0) || Txt.isspace (textOf l))
noncomputable def sc103 : Sh := ⟨[("self", .local), ("str", .globalImplicit)], .ref 102⟩
theorem onlyws_ok (L : Lib w mg mb hb) {a dx T T2 : Addr} {c0 : Int} {l : List Pc} {ps ps2 : Array Value} (ht : (T, MO.tab 80 ps) ∈ μ) (ht2 : (T2, MO.tab 87 ps2) ∈ μ) (hacc : (a, MO.acc dx (some c0) (l.map pd)) ∈ μ) (hc : 0 ≤ c0 ∧ c0 ≤ 1000) (hl : l.length ≤ 1000) :
    WpC prog w hb (k + 5) 103 [.obj a] μ (fun d μ' => d = .bool (wsOf c0 l) ∧ μ' = μ) := by
  refine WpC.fnK sc103 ["self"] (L.K 103 _ rfl) rfl rfl L.R.nolimit ⟨_, _, _, _, rfl, L.K 102 _ rfl, rfl, rfl⟩ (fun vs h => by match vs, h with | [v], _ => rfl) ?_
  refine WpS.cons ?_
  refine Wp1.ret ?_
  refine WpE.and2 ?_
  refine WpE.compare ?_
  refine WpE.accSize L.acc rfl ?_
  refine PE.use .name ⟨a, dx, c0, _, rfl, hacc, ?_⟩
  refine PE.use .int ⟨_, .eqInt, _, rfl, ?_⟩
  by_cases h0 : c0 = 0
  · subst h0
    simp only [beq_self_eq_true, if_true]
    have htl := total_le l
    refine WpE.or2 ?_
    refine WpE.accNot (k := k + 3) L.acc rfl rfl (L.K 81 _ rfl) rfl ?_
    refine PE.use .name ⟨a, dx, _, _, (0 : Int) + total l, rfl, hacc, by omega, by omega, ?_⟩
    refine (len_ok L ht hacc hc hl).mono fun d μ₂ h2 => ?_
    obtain ⟨rfl, rfl⟩ := h2
    refine ⟨rfl, _, rfl, ?_⟩
    by_cases hz : total l = 0
    · have e : ((0 : Int) + (total l : Int) == 0) = true := by rw [hz]; rfl
      rw [e]
      simp only [if_true]
      exact ⟨by simp [retD, wsOf, hz], rfl⟩
    · have e : ((0 : Int) + (total l : Int) == 0) = false := by
        rw [beq_eq_false_iff_ne]; omega
      rw [e]
      simp only [Bool.false_eq_true, if_false]
      refine WpE.strMethod0 (id := "str.isspace") (fun h => GM.isspace h) ?_
      refine WpE.accStr (k := k + 2) L.acc (y := some (.builtin "object.__str__")) (by rw [typeLookup_type, builtinLookup_eq_fast]; kernel_rfl) (f := 88) rfl (L.K 88 _ rfl) rfl L.R.g L.R.b L.str L.strB ?_
      refine PE.use .name ⟨a, dx, _, _, textOf l, rfl, hacc, ?_⟩
      refine (str_ok L ht2 hacc hl).mono fun d μ₂ h2 => ?_
      obtain ⟨rfl, rfl⟩ := h2
      refine ⟨rfl, textOf l, rfl, ?_⟩
      refine BC.m .isspace ⟨?_, rfl⟩
      simp [retD, wsOf, hz]
  · have e : (c0 == 0) = false := by rw [beq_eq_false_iff_ne]; exact h0
    rw [e]
    simp only [Bool.false_eq_true, if_false]
    exact ⟨by simp [retD, wsOf, e], rfl⟩
end
end Mine

end

noncomputable section
set_option maxHeartbeats 1000000
namespace Mine
section
variable {prog : Program} {w : World} {hb : Heap} {M : MP} {mg mb : Str → Option Value} {k : Nat} {μ : Mem} {sc : Sh} {ρ : Ren} {Φ : Dat → Mem → Prop}
theorem Lib.iter (L : Lib w mg mb hb) : mg "iter" = none := L.find fun _ _ e => by cases e; rfl
theorem Lib.iterB (L : Lib w mg mb hb) : mb "iter" = some (.builtin "iter") := (L.R.builtins "iter" (by decide)).trans PyProof.Rows.Boot.«iter»
theorem Lib.missing (L : Lib w mg mb hb) : mg "_initial_missing" = some (.ref 22) := L.find fun _ _ e => by cases e; rfl
noncomputable def sc30 : Sh := ⟨[("function", .local), ("sequence", .local), ("initial", .local), ("it", .local), ("value", .local), ("element", .local), ("iter", .globalImplicit), ("_initial_missing", .globalImplicit), ("next", .globalImplicit), ("StopIteration", .globalImplicit), ("TypeError", .globalImplicit)], .ref 29⟩
theorem reduce_loop {fa : Addr} {of : Obj} {fd : FuncData} (hfo : hb.get? fa = some of) (hfd : of.data = .func fd) (I : List Dat → Dat → Mem → Prop) {Ψ : AFlow → Ren → Mem → Prop} {Ξ : XP} {fo : Option (List Env)} {p1 p2 p3 p4 p5 p6 p7 : Pos}
    (hstep : ∀ e es v μ, I (e :: es) v μ → ∀ P, Off P μ → WpC prog w hb k fa [v, e] (P ++ μ) (fun v' μ2 => ∃ μ', μ2 = P ++ μ' ∧ I es v' μ')) (hend : ∀ v ρ μ, var ρ "value" v → I [] v μ → Ψ .next ρ μ) :
    ∀ (ds : List Dat) (v : Dat) (ρ : Ren) (μ : Mem), var ρ "function" (.obj fa) → var ρ "value" v → I ds v μ → forW prog w hb fo sc30 k (.Name "element" p1) [.Assign [.Name "value" p2] (.Call (.Name "function" p3) [.Name "value" p4, .Name "element" p5] [] p6) p7] [] Ψ Ξ ds ρ μ := by
  intro ds
  induction ds with
  | nil =>
    intro v ρ μ hf hv hI
    exact WpSx.nil (hend v ρ μ hv hI)
  | cons e es ih =>
    intro v ρ μ hf hv hI
    refine ⟨[("element", e)], rfl, fun p hp => by rw [List.mem_singleton.mp hp]; rfl, fun P hP => ?_⟩
    refine WpSx.cons ?_
    refine Wp1x.of ?_
    refine Wp1.assignV ?_
    refine WpE.call ?_
    refine PE.use (.name hf) ⟨rfl, fa, rfl, ⟨of, fd, hfo, hfd⟩, ?_⟩
    refine PA.use (.cons (.name hv) (.cons .name .nil)) ?_
    refine (hstep e es v μ hI P hP).mono fun v' μ2 h2 => ?_
    obtain ⟨μ', rfl, hI'⟩ := h2
    refine WpSx.nil ⟨μ', rfl, ?_⟩
    exact ih v' _ μ' hf rfl hI'
theorem reduce_ok (L : Lib w mg mb hb) {fa : Addr} {of : Obj} {fd : FuncData} (hfo : hb.get? fa = some of) (hfd : of.data = .func fd) (I : List Dat → Dat → Mem → Prop) {v0 : Dat} {ds : List Dat} (h0 : I ds v0 μ) (hv0 : (∃ es, v0 = .list es) ∨ ∃ x, v0 = .str x)
    (hstep : ∀ e es v μ, I (e :: es) v μ → ∀ P, Off P μ → WpC prog w hb k fa [v, e] (P ++ μ) (fun v' μ2 => ∃ μ', μ2 = P ++ μ' ∧ I es v' μ')) (hend : ∀ v μ, I [] v μ → Φ v μ) :
    WpC prog w hb (k + 1) 30 [.obj fa, .list ds, v0] μ Φ := by
  refine WpC.fnD (dds := []) sc30 ["function", "sequence", "initial"] [] (L.K 30 _ rfl) rfl rfl L.R.nolimit ⟨_, _, _, _, rfl, L.K 29 _ rfl, rfl, rfl⟩ (fun _ _ => .nil) (fun s vs hk h => by match vs, h with | [v, u, t], _ => exact L.binds hk fun S => rfl) ?_ (hfree := fun x hx => absurd hx (free_of rfl x)) (hap := .nil)
  refine WpS.cons ?_
  refine Wp1.assignV ?_
  refine WpE.bcall L.R.g L.R.b L.iter L.iterB ?_
  refine PA.use (.cons .name .nil) ?_
  refine BCm.iterList fun it l hit => ?_
  refine WpS.cons ?_
  refine Wp1.ite ?_
  have hmiss : ∀ {np : Pos} {ρ : Ren}, PE prog w hb MP.all sc30 k (.Name "_initial_missing" np) ρ (.obj 22) := fun {_ _} => fun μ _ => WpE.glob L.R.g L.missing ⟨rfl, rfl⟩
  have hb0 : Bop prog w hb (compareOp .Is) v0 (.obj 22) (.bool false) := by
    rcases hv0 with ⟨es, rfl⟩ | ⟨x, rfl⟩
    · exact .isObj_list (L.K 22 _ rfl) (by decide)
    · exact .isObj_str
  refine PB.use (.cmp .name hmiss hb0) ?_
  simp only [Bool.false_eq_true, if_false]
  refine WpS.cons ?_
  refine Wp1.assignV ?_
  refine PE.use .name ?_
  refine WpS.nil ?_
  refine WpS.cons ?_
  refine Wp1.ofx ?_
  refine Wp1x.for ?_
  refine WpIt.itr ?_
  refine PE.use .name ⟨it, l, ds, μ, rfl, List.perm_append_comm, ?_⟩
  refine reduce_loop hfo hfd I hstep (fun v ρ μ hv hI => ?_) ds v0 _ μ rfl rfl h0
  refine WpS.cons ?_
  refine Wp1.ret ?_
  exact PE.use (.name hv) (hend v μ hI)
end
end Mine

end

noncomputable section
set_option maxHeartbeats 1000000
namespace Mine
/-! the merge, in plain words -/
noncomputable def aliveJ (cs : List Int) (ls : List (List Pc)) (j : Nat) : Bool := (cs.getD j 0 + (total (ls.getD j []) : Int)) != 0
noncomputable def tailsHave (ls : List (List Pc)) (js : List Nat) (p : Pc) : Bool := js.any fun i => ((ls.getD i []).drop 1).contains p
/-- none: an empty row is met; some none: no head may come -/
noncomputable def search (ls : List (List Pc)) (js : List Nat) : List Nat → Option (Option Pc)
  | [] => some none
  | j :: r => match ls.getD j [] with
    | [] => none
    | p :: _ => if tailsHave ls js p then search ls js r else some (some p)
noncomputable def remove (p : Pc) : List Nat → List (List Pc) → Bool × List (List Pc)
  | [], ls => (true, ls)
  | j :: r, ls => match ls.getD j [] with
    | [] => (false, ls)
    | q :: t => if q == p then remove p r (ls.set j t) else remove p r ls
noncomputable def merge (cs : List Int) : Nat → List Nat → List (List Pc) → List Pc → Str × List Pc × List (List Pc)
  | 0, _, ls, _ => ("", [], ls)
  | n + 1, js, ls, out => match js.filter (aliveJ cs ls) with
    | [] => ("merged", out, ls)
    | j :: r => match search ls (j :: r) (j :: r) with
      | none => ("ended", [], ls)
      | some none => ("stuck", [], ls)
      | some (some p) => match remove p (j :: r) ls with
        | (false, ls') => ("ended", [], ls')
        | (true, ls') => merge cs n (j :: r) ls' (out ++ [p])
/-! the accumulators in the memory -/
noncomputable abbrev ARow := Addr × Addr × Int
noncomputable def accE (x : ARow) (l : List Pc) : Addr × MO := (x.1, .acc x.2.1 (some x.2.2) (l.map pd))
noncomputable def accsM (as : List ARow) (ls : List (List Pc)) : Mem := List.zipWith accE as ls
noncomputable def aA (as : List ARow) (j : Nat) : ARow := as.getD j (0, 0, 0)
theorem accs_mem {as : List ARow} {ls : List (List Pc)} {j : Nat} (hl : as.length = ls.length) (hj : j < as.length) : accE (aA as j) (ls.getD j []) ∈ accsM as ls := by
  unfold accsM aA
  rw [List.getD_eq_getElem?_getD, List.getD_eq_getElem?_getD, List.getElem?_eq_getElem hj, List.getElem?_eq_getElem (by omega)]
  refine List.mem_iff_getElem.mpr ⟨j, by rw [List.length_zipWith]; omega, ?_⟩
  rw [List.getElem_zipWith]; rfl
theorem accs_keys {as : List ARow} {ls : List (List Pc)} (hl : as.length = ls.length) : (accsM as ls).map (·.1) = as.map (·.1) := by
  unfold accsM
  rw [List.map_zipWith]
  apply List.ext_getElem
  · simp [hl]
  · intro i h1 h2
    simp [accE]
theorem accs_set {as : List ARow} {ls : List (List Pc)} {j : Nat} {l : List Pc} (hn : (as.map (·.1)).Nodup) (hl : as.length = ls.length) (hj : j < as.length) : setM (accsM as ls) (aA as j).1 (.acc (aA as j).2.1 (some (aA as j).2.2) (l.map pd)) = accsM as (ls.set j l) := by
  have ha : aA as j = as[j] := by unfold aA; rw [List.getD_eq_getElem?_getD, List.getElem?_eq_getElem hj]; rfl
  rw [ha]
  unfold setM accsM
  apply List.ext_getElem
  · simp [hl]
  · intro i h1 h2
    simp only [List.length_map, List.length_zipWith] at h1
    have hi : i < as.length := by omega
    rw [List.getElem_map, List.getElem_zipWith, List.getElem_zipWith, List.getElem_set]
    by_cases e : j = i
    · subst e
      simp [accE]
    · have hne : as[i].1 ≠ as[j].1 := fun z => by
        have h3 : (as.map (·.1))[i]'(by simpa using hi) = (as.map (·.1))[j]'(by simpa using hj) := by simpa using z
        exact e ((List.getElem_inj hn).mp h3).symm
      simp only [accE, hne, if_false, e]
noncomputable def mm (M0 : Mem) (as : List ARow) (ls : List (List Pc)) (D : Addr) (out : List Pc) : Mem := M0 ++ accsM as ls ++ [(D, .lst (out.map pd))]
structure Apart (M0 : Mem) (as : List ARow) (D : Addr) : Prop where
  nd : (as.map (·.1)).Nodup
  m0 : ∀ x ∈ as, x.1 ∉ M0.map (·.1)
  d0 : D ∉ M0.map (·.1)
  d1 : D ∉ as.map (·.1)
theorem aA_mem {as : List ARow} {j : Nat} (hj : j < as.length) : aA as j ∈ as := by
  unfold aA; rw [List.getD_eq_getElem?_getD, List.getElem?_eq_getElem hj]; exact List.getElem_mem _
theorem setM_not {μ : Mem} {a : Addr} {o : MO} (h : a ∉ μ.map (·.1)) : setM μ a o = μ := setM_off fun p hp e => h (by rw [← e]; exact List.mem_map_of_mem hp)
theorem mm_set {M0 : Mem} {as : List ARow} {ls : List (List Pc)} {D : Addr} {out : List Pc} {j : Nat} {l : List Pc} (Ap : Apart M0 as D) (hl : as.length = ls.length) (hj : j < as.length) :
    setM (mm M0 as ls D out) (aA as j).1 (.acc (aA as j).2.1 (some (aA as j).2.2) (l.map pd)) = mm M0 as (ls.set j l) D out := by
  unfold mm
  rw [setM_append, setM_append, setM_not (Ap.m0 _ (aA_mem hj)), accs_set Ap.nd hl hj, setM_not (μ := [(D, _)])]
  intro z
  simp at z
  exact Ap.d1 (by rw [← z]; exact List.mem_map_of_mem (aA_mem hj))
theorem mm_out {M0 : Mem} {as : List ARow} {ls : List (List Pc)} {D : Addr} {out out' : List Pc} (Ap : Apart M0 as D) (hl : as.length = ls.length) : setM (mm M0 as ls D out) D (.lst (out'.map pd)) = mm M0 as ls D out' := by
  unfold mm
  rw [setM_append, setM_append, setM_not Ap.d0, setM_not (by rw [accs_keys hl]; exact Ap.d1)]
  simp [setM]
theorem mm_acc {M0 : Mem} {as : List ARow} {ls : List (List Pc)} {D : Addr} {out : List Pc} {j : Nat} (hl : as.length = ls.length) (hj : j < as.length) : accE (aA as j) (ls.getD j []) ∈ mm M0 as ls D out := List.mem_append_left _ (List.mem_append_right _ (accs_mem hl hj))
theorem mm_lst {M0 : Mem} {as : List ARow} {ls : List (List Pc)} {D : Addr} {out : List Pc} : (D, MO.lst (out.map pd)) ∈ mm M0 as ls D out := List.mem_append_right _ (.head _)

/-- what the search leans on -/
noncomputable def MAc (T : Addr) (ps : Array Value) (as : List ARow) (ls : List (List Pc)) : MP := ⟨fun μ => (T, MO.tab 80 ps) ∈ μ ∧ ∀ j, j < as.length → accE (aA as j) (ls.getD j []) ∈ μ, fun _ _ h => ⟨List.mem_append_right _ h.1, fun j hj => List.mem_append_right _ (h.2 j hj)⟩⟩
noncomputable def objJ (as : List ARow) (j : Nat) : Dat := .obj (aA as j).1
noncomputable def seqD (as : List ARow) (js : List Nat) : Dat := .list (js.map (objJ as))
section
variable {prog : Program} {w : World} {hb : Heap} {M : MP} {mg mb : Str → Option Value} {k : Nat} {μ : Mem} {sc : Sh} {ρ : Ren} {Φ : Dat → Mem → Prop} {outer : List Env} {Ψ : AFlow → Ren → Mem → Prop} {Ξ : XP}
/-- bounds of rows -/
structure Bnd (as : List ARow) (cs : List Int) (ls : List (List Pc)) : Prop where
  len : as.length = ls.length
  siz : ∀ j, (aA as j).2.2 = cs.getD j 0
  pos : ∀ j, 0 ≤ cs.getD j 0 ∧ cs.getD j 0 ≤ 1000
  low : ∀ j, (ls.getD j []).length ≤ 1000
theorem PB.acc (L : Lib w mg mb hb) {T : Addr} {ps : Array Value} {as : List ARow} {cs : List Int} {ls : List (List Pc)} {x : Str} {np : Pos} {j : Nat} (B : Bnd as cs ls) (hj : j < as.length) (hx : ρ.lookup x = some (objJ as j) := by rfl) (hd : (x == ("__debug__" : Str)) = false := by rfl) (hn : (x == ("__classdict__" : Str)) = false := by rfl) :
    PB prog w hb (MAc T ps as ls) sc (k + 3) (.Name x np) ρ (aliveJ cs ls j) := fun μ hM => by
  have hm := hM.2 j hj
  unfold accE at hm
  have htl := total_le (ls.getD j [])
  have hlo := B.low j
  have hp := B.pos j
  refine WpB.accVal (k := k + 2) L.acc rfl rfl (L.K 81 _ rfl) rfl ?_
  refine PE.use (.name hx hd hn) ⟨(aA as j).1, (aA as j).2.1, _, _, (aA as j).2.2 + total (ls.getD j []), rfl, hm, by rw [B.siz j]; omega, by rw [B.siz j]; omega, ?_⟩
  refine (len_ok L hM.1 hm (by rw [B.siz j]; exact hp) hlo).mono fun d μ₂ h2 => ?_
  obtain ⟨rfl, rfl⟩ := h2
  refine ⟨rfl, ?_, rfl⟩
  unfold aliveJ; rw [B.siz j]
theorem PE.accTail (L : Lib w mg mb hb) {T : Addr} {ps : Array Value} {as : List ARow} {cs : List Int} {ls : List (List Pc)} {x : Str} {np p1 sp pos : Pos} {n1 : Nat} {j : Nat} (B : Bnd as cs ls) (hj : j < as.length) (hx : ρ.lookup x = some (objJ as j) := by rfl) (hd : (x == ("__debug__" : Str)) = false := by rfl) (hn : (x == ("__classdict__" : Str)) = false := by rfl) :
    PE prog w hb (MAc T ps as ls) sc k (.Subscript (.Name x np) (.Slice (some (.Constant (.int 1) n1 p1)) Option.none Option.none sp) pos) ρ (.list (((ls.getD j []).drop 1).map pd)) := fun μ hM => by
  have hm := hM.2 j hj
  unfold accE at hm
  refine WpE.accFrom L.acc.X rfl ?_
  refine PE.use (.name hx hd hn) ?_
  refine PE.use .int ⟨(aA as j).1, (aA as j).2.1, _, _, 1, rfl, hm, rfl, by decide, ?_, ?_, rfl⟩
  · rw [List.length_map]; exact Nat.le_trans (B.low j) (by decide)
  · rw [List.map_drop]; rfl
end
end Mine

end

noncomputable section
set_option maxHeartbeats 1000000
namespace Mine
noncomputable def sumLen (ls : List (List Pc)) : Nat := (ls.map List.length).sum
theorem getD_lt {ls : List (List Pc)} {j : Nat} {q : Pc} {t : List Pc} (h : ls.getD j [] = q :: t) : j < ls.length := by
  refine Decidable.byContradiction fun hn => ?_
  rw [List.getD_eq_getElem?_getD, List.getElem?_eq_none (by omega)] at h
  simp at h
theorem getD_set_self {ls : List (List Pc)} {j : Nat} {l : List Pc} (h : j < ls.length) : (ls.set j l).getD j [] = l := by
  rw [List.getD_eq_getElem?_getD, List.getElem?_set_self h]; rfl
theorem getD_set_ne {ls : List (List Pc)} {i j : Nat} {l : List Pc} (h : j ≠ i) : (ls.set j l).getD i [] = ls.getD i [] := by
  rw [List.getD_eq_getElem?_getD, List.getElem?_set_ne h, List.getD_eq_getElem?_getD]
theorem sumLen_set : ∀ {ls : List (List Pc)} {j : Nat} {q : Pc} {t : List Pc}, ls.getD j [] = q :: t → sumLen (ls.set j t) + 1 = sumLen ls
  | [], j, q, t, h => by simp at h
  | l :: r, 0, q, t, h => by
    have : l = q :: t := h
    subst this
    simp [sumLen]; omega
  | l :: r, j + 1, q, t, h => by
    have h' : r.getD j [] = q :: t := h
    have := sumLen_set h'
    simp [sumLen] at this ⊢
    omega
theorem remove_len (p : Pc) : ∀ (js : List Nat) (ls : List (List Pc)), (remove p js ls).2.length = ls.length ∧ (∀ j, ((remove p js ls).2.getD j []).length ≤ (ls.getD j []).length) ∧ sumLen (remove p js ls).2 ≤ sumLen ls
  | [], ls => ⟨rfl, fun _ => Nat.le_refl _, Nat.le_refl _⟩
  | j :: r, ls => by
    unfold remove
    cases h : ls.getD j [] with
    | nil => exact ⟨rfl, fun _ => Nat.le_refl _, Nat.le_refl _⟩
    | cons q t =>
      by_cases hq : (q == p) = true
      · simp only [hq, if_true]
        obtain ⟨h1, h2, h3⟩ := remove_len p r (ls.set j t)
        have h4 := sumLen_set h
        have hj := getD_lt h
        refine ⟨h1.trans (by simp), fun i => Nat.le_trans (h2 i) ?_, by omega⟩
        by_cases e : j = i
        · subst e; rw [getD_set_self hj, h]; simp
        · rw [getD_set_ne e]; exact Nat.le_refl _
      · simp only [hq]
        exact remove_len p r ls
theorem remove_lt (p : Pc) : ∀ (js : List Nat) (ls : List (List Pc)), (∃ j ∈ js, ∃ t, ls.getD j [] = p :: t) → (remove p js ls).1 = true → sumLen (remove p js ls).2 < sumLen ls
  | [], ls, h, _ => by obtain ⟨j, hj, _⟩ := h; cases hj
  | j :: r, ls, h, hb => by
    unfold remove at hb ⊢
    cases hl : ls.getD j [] with
    | nil => rw [hl] at hb; cases hb
    | cons q t =>
      rw [hl] at hb
      by_cases hq : (q == p) = true
      · simp only [hq, if_true] at hb ⊢
        have h3 := (remove_len p r (ls.set j t)).2.2
        have h4 := sumLen_set hl
        omega
      · simp only [hq] at hb ⊢
        refine remove_lt p r ls ?_ hb
        obtain ⟨i, hi, t', ht'⟩ := h
        rcases List.mem_cons.mp hi with rfl | hi
        · rw [hl] at ht'; cases ht'; simp at hq
        · exact ⟨i, hi, t', ht'⟩
theorem search_found {ls : List (List Pc)} {js : List Nat} {p : Pc} : ∀ {r : List Nat}, search ls js r = some (some p) → ∃ j ∈ r, ∃ t, ls.getD j [] = p :: t
  | [], h => by cases h
  | j :: r, h => by
    unfold search at h
    cases hl : ls.getD j [] with
    | nil => rw [hl] at h; cases h
    | cons q t =>
      rw [hl] at h
      simp only at h
      split at h
      · obtain ⟨i, hi, t', ht'⟩ := search_found h
        exact ⟨i, .tail _ hi, t', ht'⟩
      · cases h; exact ⟨j, .head _, t, hl⟩

section
variable {prog : Program} {w : World} {hb : Heap} {M : MP} {mg mb : Str → Option Value} {k : Nat} {μ : Mem} {sc : Sh} {ρ : Ren} {Φ : Dat → Mem → Prop} {outer : List Env} {Ψ : AFlow → Ren → Mem → Prop} {Ξ : XP}
noncomputable def sc35 : Sh := ⟨[("sequences", .local), ("result", .local), ("s1", .local), ("candidate", .local), ("s2", .local), ("seq", .local), ("RuntimeError", .globalImplicit)], .ref 34⟩
noncomputable def RV (as : List ARow) (js : List Nat) (D : Addr) (ρ : Ren) : Prop := var ρ "sequences" (seqD as js) ∧ var ρ "result" (.obj D)
theorem inner_loop (L : Lib w mg mb hb) {T D : Addr} {ps : Array Value} {as : List ARow} {cs : List Int} {ls : List (List Pc)} {js : List Nat} {p : Pc} {p1 p2 p3 p4 p5 p6 p7 p8 p9 pa pb pc pd' : Pos} {n1 n2 : Nat} (B : Bnd as cs ls) :
    ∀ (is : List Nat) (ρ : Ren) (μ : Mem), (∀ i ∈ is, i < as.length) → RV as js D ρ → var ρ "candidate" (pd p) → (MAc T ps as ls).holds μ →
      ((is.any fun i => ((ls.getD i []).drop 1).contains p) = true → ∀ ρ', RV as js D ρ' → var ρ' "candidate" .none → Ψ .next ρ' μ) →
      ((is.any fun i => ((ls.getD i []).drop 1).contains p) = false → ∀ ρ', RV as js D ρ' → var ρ' "candidate" (pd p) → Ψ .brk ρ' μ) →
      forW prog w hb (some outer) sc35 k (.Name "s2" p1) [.If (.Compare (.Name "candidate" p2) [.In] [.Subscript (.Name "s2" p3) (.Slice (some (.Constant (.int 1) n1 p4)) none none p5) p6] p7) [.Assign [.Name "candidate" p8] (.Constant .none n2 p9) pa, .Break pb] [] pc] [.Break pd'] Ψ Ξ (is.map (objJ as)) ρ μ := by
  intro is
  induction is with
  | nil =>
    intro ρ μ _ hR hc _ _ hf
    refine WpSx.cons ?_
    refine Wp1x.of ?_
    exact Wp1.brk (hf rfl ρ hR hc)
  | cons i r ih =>
    intro ρ μ hi hR hc hM ht hf
    refine ⟨[("s2", objJ as i)], rfl, fun q hq => by rw [List.mem_singleton.mp hq]; rfl, fun P hP => ?_⟩
    refine WpSx.cons ?_
    refine Wp1x.ite ?_
    refine PB.useM (M := MAc T ps as ls) (.cmp (.name hc) (.accTail L B (hi i (.head _))) .inP) ((MAc T ps as ls).up P μ hM) ?_
    cases hb' : ((ls.getD i []).drop 1).contains p with
    | true =>
      simp only [if_true]
      refine WpSx.cons ?_
      refine Wp1x.of ?_
      refine Wp1.assignV ?_
      refine PE.use .none ?_
      refine WpSx.cons ?_
      refine Wp1x.of ?_
      exact Wp1.brk ⟨μ, rfl, ht (by rw [List.any_cons, hb']; rfl) _ hR rfl⟩
    | false =>
      simp only [Bool.false_eq_true, if_false]
      refine WpSx.nil ?_
      refine WpSx.nil ⟨μ, rfl, ?_⟩
      refine ih _ μ (fun x hx => hi x (.tail _ hx)) hR hc hM (fun h => ht (by rw [List.any_cons, hb', h]; rfl)) fun h => hf (by rw [List.any_cons, hb', h]; rfl)
theorem search_loop (L : Lib w mg mb hb) {T D : Addr} {ps : Array Value} {as : List ARow} {cs : List Int} {ls : List (List Pc)} {js : List Nat} {q1 q2 q3 q4 q5 q6 q7 q8 p1 p2 p3 p4 p5 p6 p7 p8 p9 pa pb pc pd' : Pos} {n1 n2 n3 : Nat} (B : Bnd as cs ls) (hjs : ∀ i ∈ js, i < as.length) (hM : (MAc T ps as ls).holds μ) :
    ∀ (r : List Nat) (ρ : Ren), (∀ i ∈ r, i < as.length) → RV as js D ρ → (r = [] → var ρ "candidate" .none) →
      (match search ls js r with
        | none => Ξ "IndexError" μ
        | some none => ∀ ρ', RV as js D ρ' → var ρ' "candidate" .none → Ψ .next ρ' μ
        | some (some p) => ∀ ρ', RV as js D ρ' → var ρ' "candidate" (pd p) → Ψ .next ρ' μ) →
      forW prog w hb (some outer) sc35 k (.Name "s1" q1) [.Assign [.Name "candidate" q2] (.Subscript (.Name "s1" q3) (.Constant (.int 0) n3 q4) q5) q6,
        .For (.Name "s2" p1) (.Name "sequences" q7) [.If (.Compare (.Name "candidate" p2) [.In] [.Subscript (.Name "s2" p3) (.Slice (some (.Constant (.int 1) n1 p4)) none none p5) p6] p7) [.Assign [.Name "candidate" p8] (.Constant .none n2 p9) pa, .Break pb] [] pc] [.Break pd'] q8] [] Ψ Ξ (r.map (objJ as)) ρ μ := by
  intro r
  induction r with
  | nil =>
    intro ρ _ hR hc hs
    exact WpSx.nil (hs ρ hR (hc rfl))
  | cons j r ih =>
    intro ρ hi hR _ hs
    refine ⟨[("s1", objJ as j)], rfl, fun q hq => by rw [List.mem_singleton.mp hq]; rfl, fun P hP => ?_⟩
    have hM' := (MAc T ps as ls).up P μ hM
    have hacc := hM'.2 j (hi j (.head _))
    unfold accE at hacc
    unfold search at hs
    cases hl : ls.getD j [] with
    | nil =>
      rw [hl] at hs hacc
      refine WpSx.cons ?_
      refine Wp1x.assignOut L.acc.X rfl ?_
      refine PE.use .name ?_
      exact PE.use .int ⟨_, _, _, rfl, hacc, rfl, μ, rfl, hs⟩
    | cons p t =>
      rw [hl] at hs hacc
      simp only at hs
      refine WpSx.cons ?_
      refine Wp1x.of ?_
      refine Wp1.assignV ?_
      refine WpE.accItem L.acc.X rfl ?_
      refine PE.use .name ?_
      refine PE.use .int ⟨_, _, _, _, 0, pd p, rfl, hacc, rfl, by decide, by decide, rfl, ?_⟩
      refine WpSx.cons ?_
      refine Wp1x.for ?_
      refine PIt.use (.list (.name hR.1)) ?_
      refine inner_loop L B js _ (P ++ μ) hjs hR rfl hM' (fun ha ρ' hR' hc' => ?_) fun ha ρ' hR' hc' => ?_
      · have ha' : tailsHave ls js p = true := ha
        rw [ha'] at hs
        simp only [if_true] at hs
        refine WpSx.nil ⟨μ, rfl, ?_⟩
        exact ih ρ' (fun x hx => hi x (.tail _ hx)) hR' (fun _ => hc') hs
      · have ha' : tailsHave ls js p = false := ha
        rw [ha'] at hs
        simp only [Bool.false_eq_true, if_false] at hs
        exact ⟨μ, rfl, hs ρ' hR' hc'⟩
theorem remove_loop (L : Lib w mg mb hb) {D : Addr} {as : List ARow} {cs : List Int} {M0 : Mem} {js : List Nat} {out : List Pc} {p : Pc} {p1 p2 p3 p4 p5 p6 p7 p8 p9 pa pb : Pos} {n1 n2 : Nat} (Ap : Apart M0 as D) :
    ∀ (r : List Nat) (ρ : Ren) (ls : List (List Pc)), Bnd as cs ls → (∀ i ∈ r, i < as.length) → RV as js D ρ → var ρ "candidate" (pd p) →
      (match remove p r ls with
        | (false, ls') => Ξ "IndexError" (mm M0 as ls' D out)
        | (true, ls') => ∀ ρ', RV as js D ρ' → Ψ .next ρ' (mm M0 as ls' D out)) →
      forW prog w hb (some outer) sc35 k (.Name "seq" p1) [.If (.Compare (.Subscript (.Name "seq" p2) (.Constant (.int 0) n1 p3) p4) [.Eq] [.Name "candidate" p5] p6) [.Delete [.Subscript (.Name "seq" p7) (.Constant (.int 0) n2 p8) p9] pa] [] pb] [] Ψ Ξ (r.map (objJ as)) ρ (mm M0 as ls D out) := by
  intro r
  induction r with
  | nil =>
    intro ρ ls _ _ hR _ hs
    exact WpSx.nil (hs ρ hR)
  | cons j r ih =>
    intro ρ ls B hi hR hc hs
    refine ⟨[("seq", objJ as j)], rfl, fun q hq => by rw [List.mem_singleton.mp hq]; rfl, fun P hP => ?_⟩
    have hj := hi j (.head _)
    have hacc0 : accE (aA as j) (ls.getD j []) ∈ mm M0 as ls D out := mm_acc B.len hj
    have hacc : accE (aA as j) (ls.getD j []) ∈ P ++ mm M0 as ls D out := List.mem_append_right _ hacc0
    unfold accE at hacc hacc0
    unfold remove at hs
    cases hl : ls.getD j [] with
    | nil =>
      rw [hl] at hs hacc
      refine WpSx.cons ?_
      refine Wp1x.iteOut L.acc.X rfl ?_
      refine PE.use .name ?_
      exact PE.use .int ⟨_, _, _, rfl, hacc, rfl, _, rfl, hs⟩
    | cons q t =>
      have hlow := B.low j
      rw [hl] at hs hacc hacc0 hlow
      simp only at hs
      refine WpSx.cons ?_
      refine Wp1x.ite ?_
      refine WpB.compare ?_
      refine WpE.accItem L.acc.X rfl ?_
      refine PE.use .name ?_
      refine PE.use .int ⟨_, _, _, _, 0, pd q, rfl, hacc, rfl, by decide, by decide, rfl, ?_⟩
      refine PE.use (.name hc) ⟨_, .eqP, ?_⟩
      cases hq : (q == p) with
      | true =>
        rw [hq] at hs
        simp only [if_true] at hs ⊢
        refine WpSx.cons ?_
        refine Wp1x.of ?_
        refine Wp1.delAcc L.acc.X rfl ?_
        refine PE.use .name ?_
        refine PE.use .int ⟨_, _, _, pd q, t.map pd, rfl, rfl, hacc, ?_, ?_⟩
        · rw [List.length_map]; simp at hlow; exact Nat.lt_of_lt_of_le (show t.length < 1001 by omega) (show 1001 ≤ sizeLine by decide)
        refine WpSx.nil ?_
        rw [setM_P hP hacc0, mm_set Ap B.len hj]
        refine WpSx.nil ⟨_, rfl, ?_⟩
        have hjl : j < ls.length := by rw [← B.len]; exact hj
        refine ih _ (ls.set j t) ⟨by rw [List.length_set]; exact B.len, B.siz, B.pos, fun i => ?_⟩ (fun x hx => hi x (.tail _ hx)) hR hc hs
        by_cases e : j = i
        · subst e; rw [getD_set_self hjl]; simp at hlow; omega
        · rw [getD_set_ne e]; exact B.low i
      | false =>
        rw [hq] at hs
        simp only [Bool.false_eq_true, if_false] at hs ⊢
        refine WpSx.nil ?_
        refine WpSx.nil ⟨_, rfl, ?_⟩
        exact ih _ ls B (fun x hx => hi x (.tail _ hx)) hR hc hs
end
end Mine

end

noncomputable section
set_option maxHeartbeats 1000000
namespace Mine
section
variable {prog : Program} {w : World} {hb : Heap} {M : MP} {mg mb : Str → Option Value} {k : Nat} {μ : Mem} {sc : Sh} {ρ : Ren} {Φ : Dat → Mem → Prop} {outer : List Env} {Ψ : AFlow → Ren → Mem → Prop} {Ξ : XP}
theorem Lib.rt (L : Lib w mg mb hb) : mg "RuntimeError" = none := L.find fun _ _ e => by cases e; rfl
theorem Lib.rtB (L : Lib w mg mb hb) : mb "RuntimeError" = some (.type "RuntimeError") := (L.R.builtins "RuntimeError" (by decide)).trans PyProof.Rows.Boot.«RuntimeError»
theorem flat_if {α β : Type} (f : α → Bool) (g : α → β) : ∀ l : List α, (l.flatMap fun x => if f x then [g x] else []) = (l.filter f).map g
  | [] => rfl
  | x :: r => by
    rw [List.flatMap_cons, List.filter_cons, flat_if f g r]
    cases f x <;> rfl
theorem inRen_none {scope : Scope} {ρ : Ren} (h : (scope.names.all fun p => p.2 != .free) = true) : inRen scope ρ = [] := List.filter_eq_nil_iff.mpr fun p _ => by simpa using free_of h p.1
theorem c3_ok (L : Lib w mg mb hb) {T : Addr} {ps : Array Value} {M0 : Mem} {as : List ARow} {cs : List Int} {ls0 : List (List Pc)} {js0 : List Nat} (hT : (T, MO.tab 80 ps) ∈ M0) (B0 : Bnd as cs ls0) (hjs : ∀ j ∈ js0, j < as.length) (hjl : js0.length ≤ 100) (hs0 : sumLen ls0 ≤ 1000)
    (hnd : (as.map (·.1)).Nodup) (hm0 : ∀ x ∈ as, x.1 ∉ M0.map (·.1)) :
    WpCx prog w hb (k + 4) 35 [seqD as js0] (M0 ++ accsM as ls0)
      (fun d μ' => ∃ (out : List Pc) (ls' : List (List Pc)), merge cs (sumLen ls0 + 1) js0 ls0 [] = (("merged" : Str), out, ls') ∧ d = .list (out.map pd) ∧ μ' = M0 ++ accsM as ls' ∧ out.length ≤ 1000)
      (fun cls μ' => ∃ (ls' : List (List Pc)) (D : Addr) (out : List Pc), ((cls = "RuntimeError" ∧ merge cs (sumLen ls0 + 1) js0 ls0 [] = (("stuck" : Str), [], ls')) ∨ (cls = "IndexError" ∧ merge cs (sumLen ls0 + 1) js0 ls0 [] = (("ended" : Str), [], ls'))) ∧ μ' = mm M0 as ls' D out) := by
  refine WpCx.fn sc35 ["sequences"] (L.K 35 _ rfl) rfl rfl L.R.nolimit ⟨_, _, _, _, rfl, L.K 34 _ rfl, rfl, rfl⟩ (fun vs h => by match vs, h with | [v], _ => rfl) fun outer => ?_
  refine WpSx.cons ?_
  refine Wp1x.of ?_
  refine Wp1.assignV ?_
  refine WpE.newList fun D hD => ?_
  have hkeys : ∀ a, a ∈ (M0 ++ accsM as ls0).map (·.1) → a ≠ D := fun a ha e => by
    obtain ⟨p, hp, rfl⟩ := List.mem_map.mp ha
    exact hD (by rw [← e]; exact mem_dom (show (p.1, p.2) ∈ _ from hp))
  rw [List.map_append, accs_keys B0.len] at hkeys
  have Ap : Apart M0 as D := ⟨hnd, hm0, fun h => hkeys D (List.mem_append_left _ h) rfl, fun h => hkeys D (List.mem_append_right _ h) rfl⟩
  refine WpSx.cons ?_
  refine Wp1x.while (fun n ρ' μ' => ∃ js ls out, RV as js D ρ' ∧ μ' = mm M0 as ls D out ∧ Bnd as cs ls ∧ (∀ j ∈ js, j < as.length) ∧ js.length ≤ 100 ∧ sumLen ls < n ∧ sumLen ls + out.length ≤ 1000 ∧ merge cs n js ls out = merge cs (sumLen ls0 + 1) js0 ls0 []) (sumLen ls0 + 1) ⟨js0, ls0, [], ⟨rfl, rfl⟩, rfl, B0, hjs, hjl, Nat.lt_succ_self _, by simpa using hs0, rfl⟩ ?_
  intro n ρ' μ' hI
  obtain ⟨js, ls, out, hR, rfl, B, hj, hl, hn, hso, heq⟩ := hI
  obtain ⟨n, rfl⟩ : ∃ m, n = m + 1 := ⟨n - 1, by omega⟩
  refine PB.use (.val .boolc .bool) ?_
  simp only [if_true]
  have hM : (MAc T ps as ls).holds (mm M0 as ls D out) := ⟨List.mem_append_left _ (List.mem_append_left _ hT), fun j hj => mm_acc B.len hj⟩
  -- the comprehension
  have hfl : (js.flatMap fun j => if aliveJ cs ls j then [objJ as j] else []) = (js.filter (aliveJ cs ls)).map (objJ as) := flat_if _ _ _
  have hfn : (js.filter (aliveJ cs ls)).length ≤ 100 := Nat.le_trans (List.length_filter_le ..) hl
  refine WpSx.cons ?_
  refine Wp1x.of ?_
  refine Wp1.assignCT (M := MAc T ps as ls) js (objJ as) (fun j => if aliveJ cs ls j then [objJ as j] else []) (.list (.name hR.1)) (fun j hj' => ?_) (by rw [hfl, List.length_map]; exact Nat.le_trans hfn (by decide)) hM ?_
  · refine .mkIf [("s", objJ as j)] (aliveJ cs ls j) rfl (by rw [inRen_none rfl]; rfl) (.acc L B (hj j hj')) (fun hb' => ?_) fun hb' => ?_
    · simp only [hb', if_true]; exact .elt .name
    · simp only [hb', Bool.false_eq_true, if_false]
  rw [hfl]
  have hjf : ∀ j ∈ js.filter (aliveJ cs ls), j < as.length := fun j h => hj j (List.mem_filter.mp h).1
  have hstep : merge cs (n + 1) js ls out = (match js.filter (aliveJ cs ls) with
    | [] => (("merged" : Str), out, ls)
    | j :: r => match search ls (j :: r) (j :: r) with
      | none => ("ended", [], ls)
      | some none => ("stuck", [], ls)
      | some (some p) => match remove p (j :: r) ls with
        | (false, ls') => ("ended", [], ls')
        | (true, ls') => merge cs n (j :: r) ls' (out ++ [p])) := rfl
  rw [heq] at hstep
  generalize js.filter (aliveJ cs ls) = js' at *
  have hR' : RV as js' D (("sequences", .list (js'.map (objJ as))) :: ρ') := ⟨rfl, hR.2⟩
  generalize ((("sequences" : Str), Dat.list (js'.map (objJ as))) :: ρ') = ρ1 at *
  refine WpSx.cons ?_
  refine Wp1x.ite ?_
  refine PB.use (.not (.val (.name hR'.1) (.list (by rw [List.length_map]; omega)))) ?_
  cases js' with
  | nil =>
    simp only [List.map_nil, List.isEmpty_nil, Bool.not_true, Bool.not_false, if_true]
    refine WpSx.cons ?_
    refine Wp1x.of ?_
    refine Wp1.ret ?_
    refine WpE.freeze ?_
    refine PE.use (.name hR'.2) ⟨D, out.map pd, M0 ++ accsM as ls, rfl, List.perm_append_comm, ?_⟩
    exact ⟨out, ls, hstep, rfl, rfl, by omega⟩
  | cons j0 r0 =>
    simp only [List.map_cons, List.isEmpty_cons, Bool.not_false, Bool.not_true, Bool.false_eq_true, if_false]
    simp only at hstep
    generalize hjs' : j0 :: r0 = js1 at *
    refine WpSx.nil ?_
    refine WpSx.cons ?_
    refine Wp1x.for ?_
    refine PIt.use (.list (.name hR'.1)) ?_
    refine search_loop L B hjf hM js1 _ hjf hR' (fun z => by rw [← hjs'] at z; cases z) ?_
    cases hsr : search ls js1 js1 with
    | none =>
      rw [hsr] at hstep
      exact ⟨ls, D, out, .inr ⟨rfl, hstep⟩, rfl⟩
    | some c =>
      rw [hsr] at hstep
      cases c with
      | none =>
        intro ρ2 hR2 hc2
        refine WpSx.cons ?_
        refine Wp1x.ite ?_
        refine PB.use (.cmp (.name hc2) .none .isNone_none) ?_
        simp only [if_true]
        refine WpSx.cons ?_
        refine Wp1x.raise PySem.F.excCall_RuntimeError PySem.F.excRaise_RuntimeError L.R.g L.R.b L.rt L.rtB ?_
        exact ⟨ls, D, out, .inl ⟨rfl, hstep⟩, rfl⟩
      | some p =>
        intro ρ2 hR2 hc2
        refine WpSx.cons ?_
        refine Wp1x.ite ?_
        refine PB.use (.cmp (.name hc2) .none .isNone_tuple) ?_
        simp only [Bool.false_eq_true, if_false]
        refine WpSx.nil ?_
        refine WpSx.cons ?_
        refine Wp1x.of ?_
        refine Wp1.expr ?_
        refine WpE.append ?_
        refine PE.use (.name hR2.2) ⟨D, out.map pd, rfl, mm_lst, ?_⟩
        refine PE.use (.name hc2) ⟨out.map pd, mm_lst, by rw [List.length_map]; exact Nat.le_trans (show out.length ≤ 1000 by omega) (by decide), rfl, ?_⟩
        rw [show out.map pd ++ [pd p] = (out ++ [p]).map pd by simp, mm_out Ap B.len]
        refine WpSx.cons ?_
        refine Wp1x.for ?_
        refine PIt.use (.list (.name hR2.1)) ?_
        refine remove_loop L Ap js1 _ ls B hjf hR2 hc2 ?_
        have hrl := remove_len p js1 ls
        have hrt := remove_lt p js1 ls (search_found hsr)
        simp only at hstep
        cases hrm : remove p js1 ls with
        | mk b ls' =>
          rw [hrm] at hstep hrl hrt
          cases b with
          | false => exact ⟨ls', D, _, .inr ⟨rfl, hstep⟩, rfl⟩
          | true =>
            intro ρ3 hR3
            have hlt := hrt rfl
            simp only at hlt
            refine WpSx.nil ⟨n, Nat.lt_succ_self n, js1, ls', out ++ [p], hR3, rfl, ⟨B.len.trans hrl.1.symm, B.siz, B.pos, fun i => Nat.le_trans (hrl.2.1 i) (B.low i)⟩, hjf, hfn, by omega, by simp; omega, hstep.symm⟩
end
end Mine

end

noncomputable section
set_option maxHeartbeats 1000000
namespace Mine
section
variable {prog : Program} {w : World} {hb : Heap} {M : MP} {mg mb : Str → Option Value} {k : Nat} {μ : Mem} {sc : Sh} {ρ : Ren} {Φ : Dat → Mem → Prop} {outer : List Env} {Ψ : AFlow → Ren → Mem → Prop} {Ξ : XP}
theorem Lib.ix (L : Lib w mg mb hb) : mg "IndexError" = none := L.find fun _ _ e => by cases e; rfl
theorem Lib.ixB (L : Lib w mg mb hb) : mb "IndexError" = some (.type "IndexError") := (L.R.builtins "IndexError" (by decide)).trans PyProof.Rows.Boot.«IndexError»
theorem Lib.c3 (L : Lib w mg mb hb) : mg "_c3_merge" = some (.ref 35) := L.find fun _ _ e => by cases e; rfl
/-- return (z, []) -/
theorem suiteRet {z : Str} {n n2 : Nat} {p1 p2 p3 p4 : Pos} {env : Env} {A : Around} {s : Shared} {E : Value → Shared → Prop} {Q : Flow → Shared → Prop} (y : Ok hb μ s)
    (hQ : ∀ v s', Rd (dom μ) s'.heap v (.tuple [.str z, .list []]) → Ok hb μ s' → Fw (dom μ) (dom μ) s s' → Q (.ret v) s') :
    wpAny (model prog w) A (execs [.Return (some (.Tuple [.Constant (.str z) n p1, .List [] p2] n2 p3)) p4] env) Q E s := by
  refine wpAny_execs_cons (wpAny_Return_some (wpAny_Tuple_spliced (x1 := n2) ?_))
  refine Calls.spliced_cons (wpAny_Constant_str (k := n) (pos := p1) ?_)
  refine Calls.spliced_cons (wpAny_List_spliced (Calls.spliced_nil ⟨by decide, ?_⟩))
  refine Calls.spliced_nil ⟨by exact Nat.le_of_ble_eq_true rfl, ?_⟩
  have k1 := push_keeps (h := s.heap) { cls := .type "list", data := .seq #[] }
  have y1 : Ok hb μ { s with heap := s.heap.push { cls := .type "list", data := .seq #[] }, toks := s.toks + 1 } := y.keeps k1
  have k2 : ∀ b o, s.heap.get? b = some o → ((s.heap.push { cls := .type "list", data := .seq #[] }).push { cls := .type "tuple", data := .seq #[.str z s.toks, .ref s.heap.objs.size] }).get? b = some o := fun b o e => Heap.get?_push_of_some _ (k1 b o e)
  refine hQ _ { s with heap := (s.heap.push { cls := .type "list", data := .seq #[] }).push { cls := .type "tuple", data := .seq #[.str z s.toks, .ref s.heap.objs.size] }, toks := s.toks + 1 } ?_ (y.keeps k2) (Fw.keeps k2)
  refine .tuple (vs := [.str z s.toks, .ref s.heap.objs.size]) (not_dom y1) ⟨_, Heap.get?_push_size _ rfl, rfl, _, rfl⟩ (.cons (.str z _) (.cons ?_ .nil))
  exact .list (vs := []) (not_dom y) ⟨_, Heap.get?_push_of_some _ (Heap.get?_push_size _ rfl), rfl, _, rfl⟩ .nil
theorem sub_ii : isSubtype (.type "IndexError") (.type "IndexError") = pure true := by rw [isSubtype_type]; kernel_rfl
theorem sub_ir : isSubtype (.type "IndexError") (.type "RuntimeError") = pure false := by rw [isSubtype_type]; kernel_rfl
noncomputable def sc151 : Sh := ⟨[("heaps", .local), ("_c3_merge", .globalImplicit), ("RuntimeError", .globalImplicit), ("IndexError", .globalImplicit)], .ref 150⟩
theorem run_ok (L : Lib w mg mb hb) {T : Addr} {ps : Array Value} {M0 : Mem} {as : List ARow} {cs : List Int} {ls0 : List (List Pc)} {js0 : List Nat} (hT : (T, MO.tab 80 ps) ∈ M0) (B0 : Bnd as cs ls0) (hjs : ∀ j ∈ js0, j < as.length) (hjl : js0.length ≤ 100) (hs0 : sumLen ls0 ≤ 1000)
    (hnd : (as.map (·.1)).Nodup) (hm0 : ∀ x ∈ as, x.1 ∉ M0.map (·.1)) :
    WpCu prog w hb (k + 5) 151 [seqD as js0] (M0 ++ accsM as ls0)
      (fun d μ' => ∃ (f : Str) (out : List Pc) (ls' : List (List Pc)), merge cs (sumLen ls0 + 1) js0 ls0 [] = (f, out, ls') ∧ d = .tuple [.str f, .list (out.map pd)] ∧ μ' = M0 ++ accsM as ls' ∧ out.length ≤ 1000) := by
  refine WpCu.fn sc151 ["heaps"] (L.K 151 _ rfl) rfl rfl L.R.nolimit ⟨_, _, _, _, rfl, L.K 150 _ rfl, rfl, rfl⟩ (fun vs h => by match vs, h with | [v], _ => rfl) fun env A s E fr c en y o Q hQ => ?_
  refine wpAny_execs_cons (wpAny_Try_except (wpAny_execs_cons (wpAny_Return_some (wpAny_Tuple_spliced (x1 := 0) ?_))))
  refine Calls.spliced_cons (wpAny_Constant_str (k := 0) (pos := ⟨91, 16, 91, 24⟩) ?_)
  have f0 : Fw (dom (M0 ++ accsM as ls0)) (dom (M0 ++ accsM as ls0)) s { s with toks := s.toks + 1 } := Fw.toks
  refine Calls.spliced_cons (callX (k := k + 4) L.R.g L.c3 (L.K 35 _ rfl) rfl c (en.step f0) y.toks (o.step (f0.lift _)) (PA.use (.cons .name .nil) (c3_ok (k := k) L hT B0 hjs hjl hs0 hnd hm0)) (fun v d μ' s1 h1 r1 y1 f1 => ?_) fun cls μ1 μ' s1 x s2 h1 f1 rs => ?_)
  · obtain ⟨out, ls', hmer, rfl, rfl, hlen⟩ := h1
    refine Calls.spliced_nil ⟨by exact Nat.le_of_ble_eq_true rfl, ?_⟩
    have k2 := push_keeps (h := s1.heap) { cls := .type "tuple", data := .seq #[.str "merged" s.toks, v] }
    have f2 : Fw (dom (M0 ++ accsM as ls')) (dom (M0 ++ accsM as ls')) s1 { s1 with heap := s1.heap.push { cls := .type "tuple", data := .seq #[.str "merged" s.toks, v] } } := Fw.keeps (tk := s1.toks) k2
    refine hQ (.ret _) (.tuple [.str "merged", .list (out.map pd)]) (M0 ++ accsM as ls') _ ⟨"merged", out, ls', hmer, rfl, rfl, hlen⟩ ?_ (y1.keeps (tk := s1.toks) k2) (((f0.trans f1).trans f2).lift _).toU
    exact .tuple (vs := [.str "merged" s.toks, v]) (not_dom y1) ⟨_, Heap.get?_push_size _ rfl, rfl, _, rfl⟩ (.cons (.str _ _) (.cons (r1.step f2) .nil))
  · have ft := f0.trans f1
    have o1 := o.step (ft.lift (own sc151 env))
    have en1 := en.step ft
    have oc1 := o1.toC en1
    have hd : ∀ b q, b ∈ frAs (env :: fr) → b ∉ dom μ1 → s1.heap.get? b = some q → ∀ vs, q.data ≠ .fields vs := fun b q hb' _ hq vs z => by
      obtain ⟨_, _, q', hq', es, ep, hd'⟩ := oc1.mem hb'
      rw [hq] at hq'; cases hq'; rw [hd'] at z; cases z
    obtain ⟨ls', D, out, hcase, rfl⟩ := h1
    have hfin : ∀ (f : Str) (e : Addr) (s3 : Shared), merge cs (sumLen ls0 + 1) js0 ls0 [] = (f, [], ls') → Landed hb (env :: fr) cls μ1 (mm M0 as ls' D out) s1 e s3 → ∀ (v : Value) (s4 : Shared), Rd (dom (mm M0 as ls' D out)) s4.heap v (.tuple [.str f, .list []]) → Ok hb (mm M0 as ls' D out) s4 → Fw (dom (mm M0 as ls' D out)) (dom (mm M0 as ls' D out)) s3 s4 → Q (.ret v) s4 := by
      intro f e s3 hmer l v s4 rv y4 f4
      have hp : (mm M0 as ls' D out).Perm ([(D, .lst (out.map pd))] ++ (M0 ++ accsM as ls')) := List.perm_append_comm
      have y5 := (y4.perm hp).drop
      have rv' : Rd (dom ([(D, MO.lst (out.map pd))] ++ (M0 ++ accsM as ls'))) s4.heap v (.tuple [.str f, .list []]) := rv.sub fun b hb' => (dom_perm hp).mem_iff.mpr hb'
      have f5 : Fw (dom (mm M0 as ls' D out)) (dom (M0 ++ accsM as ls')) s3 s4 := (f4.permR hp).drop
      refine hQ (.ret v) (.tuple [.str f, .list (([] : List Pc).map pd)]) (M0 ++ accsM as ls') s4 ⟨f, [], ls', hmer, rfl, rfl, by simp⟩ rv'.drop y5 ?_
      have fu : FwU (frAs (env :: fr)) (dom (M0 ++ accsM as ls0)) (dom (M0 ++ accsM as ls')) s s4 := ft.thenU (l.fw.then f5)
      refine ⟨fun b q hb' hf' e => fu.keep b q (fun h => hb' (List.mem_append_right _ h)) (fun h => ?_) e, fun b q hf' hb' e => fu.slot b q ?_ (fun h => hb' (List.mem_append_right _ h)) e, fun a ha => (List.mem_append.mp ha).elim (fun h => .inl (List.mem_append_left _ h)) fun h => (fu.dom a h).imp (List.mem_append_right _) id, fu.os, fu.gens⟩
      · unfold frAs at h
        rw [List.filterMap_cons, o.2.1] at h
        rcases List.mem_cons.mp h with z | h
        · exact hb' (List.mem_append_left _ (z ▸ .head _))
        · exact hf' h
      · unfold frAs
        rw [List.filterMap_cons, o.2.1]
        exact .tail _ hf'
    refine rs.handle o1.1 o.2.1 hd fun e s3 l => ?_
    rcases hcase with ⟨rfl, hmer⟩ | ⟨rfl, hmer⟩
    · refine l.test (T' := "RuntimeError") (b := true) en1 L.R.g L.R.b L.rt L.rtB PySem.F.isExc_RuntimeError PySem.F.notTuple_RuntimeError PySem.F.self_RuntimeError hd ?_
      simp only [if_true]
      intro s4 l4
      exact suiteRet l4.ok fun v s5 rv y5 f5 => hfin "stuck" e s4 hmer l4 v s5 rv y5 f5
    · refine l.test (T' := "RuntimeError") (b := false) en1 L.R.g L.R.b L.rt L.rtB PySem.F.isExc_RuntimeError PySem.F.notTuple_RuntimeError sub_ir hd ?_
      simp only [Bool.false_eq_true, if_false]
      refine l.test (T' := "IndexError") (b := true) en1 L.R.g L.R.b L.ix L.ixB PySem.F.isExc_IndexError PySem.F.notTuple_IndexError sub_ii hd ?_
      simp only [if_true]
      intro s4 l4
      exact suiteRet l4.ok fun v s5 rv y5 f5 => hfin "ended" e s4 hmer l4 v s5 rv y5 f5
end
end Mine

end

noncomputable section
set_option maxHeartbeats 1000000
namespace Mine
theorem str_assoc (a b c : Str) : a ++ b ++ c = a ++ (b ++ c) := by
  cases a; cases b; cases c
  show Str.mk _ = Str.mk _
  congr 1
  exact Array.append_assoc ..
theorem empty_left (x : Str) : ("" : Str) ++ x = x := by
  cases x with
  | mk c =>
    show Str.mk (#[] ++ c) = _
    simp
theorem textOf_snoc (l : List Pc) (p : Pc) : textOf (l ++ [p]) = textOf l ++ (pcs p).1 ++ (pcs p).2 := by
  induction l with
  | nil =>
    show (pcs p).1 ++ (pcs p).2 ++ ("" : Str) = ("" : Str) ++ (pcs p).1 ++ (pcs p).2
    rw [empty_app, empty_left]
  | cons q r ih =>
    show (pcs q).1 ++ (pcs q).2 ++ textOf (r ++ [p]) = (pcs q).1 ++ (pcs q).2 ++ textOf r ++ (pcs p).1 ++ (pcs p).2
    rw [ih]
    simp only [str_assoc]
theorem str_len (a b : Str) : (a ++ b).length = a.length + b.length := Array.size_append
theorem textOf_len (l : List Pc) : (textOf l).length = total l := by
  unfold total
  induction l with
  | nil => rfl
  | cons p r ih =>
    show ((pcs p).1 ++ (pcs p).2 ++ textOf r).length = _
    rw [str_len, str_len, ih, List.map_cons, List.sum_cons]; rfl
theorem rowOf_snoc (ns : List Int) (n j : Int) : rowOf (ns ++ [n]) j = rowOf ns j ++ if n.fmod 3 == j then [pieceOf n] else [] := by
  unfold rowOf
  rw [List.filter_append, List.map_append, List.append_assoc]
  congr 1
  congr 1
  rw [List.filter_cons]
  cases (n.fmod 3 == j) <;> rfl
section
variable {prog : Program} {w : World} {hb : Heap} {M : MP} {mg mb : Str → Option Value} {k : Nat} {μ : Mem} {sc : Sh} {ρ : Ren} {Φ : Dat → Mem → Prop} {outer : List Env} {Ψ : AFlow → Ren → Mem → Prop} {Ξ : XP}
theorem Lib.joined (L : Lib w mg mb hb) : mg "_law_joined" = some (.ref 175) := L.find fun _ _ e => by cases e; rfl
theorem Lib.pushed (L : Lib w mg mb hb) : mg "_law_pushed" = some (.ref 144) := L.find fun _ _ e => by cases e; rfl
theorem Lib.opened (L : Lib w mg mb hb) : mg "_law_opened" = some (.ref 137) := L.find fun _ _ e => by cases e; rfl
theorem Lib.reduce (L : Lib w mg mb hb) : mg "reduce" = some (.ref 30) := L.find fun _ _ e => by cases e; rfl
theorem Lib.row (L : Lib w mg mb hb) : mg "_law_row" = some (.ref 130) := L.find fun _ _ e => by cases e; rfl
theorem Lib.run (L : Lib w mg mb hb) : mg "_law_run" = some (.ref 151) := L.find fun _ _ e => by cases e; rfl
theorem Lib.told (L : Lib w mg mb hb) : mg "_law_told" = some (.ref 168) := L.find fun _ _ e => by cases e; rfl
theorem reduceText_ok (L : Lib w mg mb hb) (l : List Pc) (hl : l.length ≤ 200) : PC prog w hb (k + 2) 30 [.obj 175, .list (l.map pd), .str ""] (.str (textOf l)) := by
  intro μ
  refine reduce_ok (k := k + 1) L (L.K 175 _ rfl) rfl (fun rem v μ' => ∃ d r : List Pc, d ++ r = l ∧ rem = r.map pd ∧ v = .str (textOf d) ∧ μ' = μ) ⟨[], l, rfl, rfl, rfl, rfl⟩ (.inr ⟨_, rfl⟩) (fun e es v μ' hI P _ => ?_) fun v μ' hI => ?_
  · obtain ⟨d, r, hd, hr, rfl, rfl⟩ := hI
    cases r with
    | nil => cases hr
    | cons p r =>
      cases hr
      have h1 := textOf_len d
      have h2 := total_le d
      have h3 : d.length ≤ l.length := by rw [← hd, List.length_append]; omega
      refine PC.use (joined_ok L (textOf d) p (by omega)) ⟨μ', rfl, d ++ [p], r, by simpa using hd, rfl, ?_, rfl⟩
      rw [textOf_snoc]
  · obtain ⟨d, r, hd, hr, rfl, rfl⟩ := hI
    cases r with
    | nil => rw [List.append_nil] at hd; subst hd; exact ⟨rfl, rfl⟩
    | cons p r => cases hr

theorem accs_setP {M0 : Mem} {as : List ARow} {ls : List (List Pc)} {j : Nat} {l : List Pc} (hn : (as.map (·.1)).Nodup) (hm0 : ∀ x ∈ as, x.1 ∉ M0.map (·.1)) (hl : as.length = ls.length) (hj : j < as.length) :
    setM (M0 ++ accsM as ls) (aA as j).1 (.acc (aA as j).2.1 (some (aA as j).2.2) (l.map pd)) = M0 ++ accsM as (ls.set j l) := by
  rw [setM_append, setM_not (hm0 _ (aA_mem hj)), accs_set hn hl hj]
noncomputable def rows3 (ns : List Int) : List (List Pc) := [rowOf ns 0, rowOf ns 1, rowOf ns 2]
theorem row_len (ns : List Int) (j : Int) : (rowOf ns j).length ≤ ns.length + 1 := by
  unfold rowOf
  rw [List.length_append, List.length_map]
  have := List.length_filter_le (fun n : Int => n.fmod 3 == j) ns
  split <;> simp <;> omega
theorem rows3_snoc (ns : List Int) (n : Int) : ∃ j : Nat, j < 3 ∧ (n.fmod 3).toNat = j ∧ rows3 (ns ++ [n]) = (rows3 ns).set j ((rows3 ns).getD j [] ++ [pieceOf n]) := by
  have h3 : 0 ≤ n.fmod 3 ∧ n.fmod 3 < 3 := ⟨Int.fmod_nonneg_of_pos _ (by decide), Int.fmod_lt_of_pos _ (by decide)⟩
  unfold rows3
  simp only [rowOf_snoc]
  generalize n.fmod 3 = m at h3
  have : m = 0 ∨ m = 1 ∨ m = 2 := by omega
  rcases this with rfl | rfl | rfl
  · exact ⟨0, by decide, rfl, by simp⟩
  · exact ⟨1, by decide, rfl, by simp⟩
  · exact ⟨2, by decide, rfl, by simp⟩
theorem reducePush_ok (L : Lib w mg mb hb) {M0 : Mem} {as : List ARow} (h3 : as.length = 3) (hn : (as.map (·.1)).Nodup) (hm0 : ∀ x ∈ as, x.1 ∉ M0.map (·.1)) (dr : List Int) (hl : dr.length ≤ 100) :
    WpC prog w hb (k + 4) 30 [.obj 144, .list (dr.map .int), seqD as [0, 1, 2]] (M0 ++ accsM as (rows3 [])) (fun d μ' => d = seqD as [0, 1, 2] ∧ μ' = M0 ++ accsM as (rows3 dr)) := by
  refine reduce_ok (k := k + 3) L (L.K 144 _ rfl) rfl (fun rem v μ' => ∃ d r : List Int, d ++ r = dr ∧ rem = r.map .int ∧ v = seqD as [0, 1, 2] ∧ μ' = M0 ++ accsM as (rows3 d)) ⟨[], dr, rfl, rfl, rfl, rfl⟩ (.inl ⟨_, rfl⟩) (fun e es v μ' hI P hP => ?_) fun v μ' hI => ?_
  · obtain ⟨d, r, hd, hr, rfl, rfl⟩ := hI
    cases r with
    | nil => cases hr
    | cons n r =>
      cases hr
      obtain ⟨j, hj, hjn, hrow⟩ := rows3_snoc d n
      have hlen : as.length = (rows3 d).length := h3
      have hja : j < as.length := by omega
      have hacc0 : accE (aA as j) ((rows3 d).getD j []) ∈ M0 ++ accsM as (rows3 d) := List.mem_append_right _ (accs_mem hlen hja)
      have hdl : d.length ≤ 100 := by have := congrArg List.length hd; rw [List.length_append] at this; omega
      have hrl : ((rows3 d).getD j []).length ≤ 1000 := by
        have e0 := row_len d 0
        have e1 := row_len d 1
        have e2 := row_len d 2
        have : j = 0 ∨ j = 1 ∨ j = 2 := by omega
        rcases this with rfl | rfl | rfl
        · exact Nat.le_trans e0 (by omega)
        · exact Nat.le_trans e1 (by omega)
        · exact Nat.le_trans e2 (by omega)
      refine (pushed_ok L (hs := ([0, 1, 2] : List Nat).map (objJ as)) (n := n) (a := (aA as j).1) ?_ (List.mem_append_right _ hacc0) (by rw [List.length_map]; exact hrl)).mono fun d' μ2 h2 => ?_
      · rw [hjn, List.getElem?_map]
        have : j = 0 ∨ j = 1 ∨ j = 2 := by omega
        rcases this with rfl | rfl | rfl <;> rfl
      · obtain ⟨rfl, rfl⟩ := h2
        refine ⟨M0 ++ accsM as (rows3 (d ++ [n])), ?_, d ++ [n], r, by simpa using hd, rfl, rfl, rfl⟩
        rw [setM_P hP hacc0, show ((rows3 d).getD j []).map pd ++ [pd (pieceOf n)] = ((rows3 d).getD j [] ++ [pieceOf n]).map pd by simp, accs_setP hn hm0 hlen hja, hrow]
  · obtain ⟨d, r, hd, hr, rfl, rfl⟩ := hI
    cases r with
    | nil => rw [List.append_nil] at hd; subst hd; exact ⟨rfl, rfl⟩
    | cons p r => cases hr
end
end Mine

end

noncomputable section
set_option maxHeartbeats 1000000
namespace Mine
theorem strOk_app {a b : Str} (h1 : PyData.strOk a = true) (h2 : PyData.strOk b = true) : PyData.strOk (a ++ b) = true := by
  unfold PyData.strOk at h1 h2 ⊢
  show (a.cps ++ b.cps).all _ = true
  rw [Array.all_append, h1, h2]; rfl
theorem textOf_ok : ∀ l : List Pc, PyData.strOk (textOf l) = true
  | [] => by decide +kernel
  | p :: r => strOk_app (strOk_app ((by decide +kernel : ∀ p : Pc, PyData.strOk (pcs p).1 = true) p) ((by decide +kernel : ∀ p : Pc, PyData.strOk (pcs p).2 = true) p)) (textOf_ok r)
theorem fine_eqv {d : Dat} (h : d.fine = true) : PyData.eqv d.py d.py = true := PySem.SeqAt.eqv_refl _ (Dat.fine_lay h)
theorem pds_depth : ∀ l : List Pc, PyData.depthAll (Dat.pys (l.map pd)) ≤ 5
  | [] => by simp [Dat.pys, PyData.depthAll]
  | p :: r => by
    have h1 := pds_depth r
    have h2 : (pd p).py.depth ≤ 5 := (by decide +kernel : ∀ p : Pc, (pd p).py.depth ≤ 5) p
    simp only [List.map_cons, Dat.pys, PyData.depthAll]
    omega
theorem list_shp (l : List Pc) : (Dat.list (l.map pd)).shp := ⟨pds_fine l, by
  have := pds_depth l
  simp only [Dat.py, PyData.depth]; omega⟩
theorem rows_fine : ∀ ls : List (List Pc), Dat.fines (ls.map fun r => Dat.list (r.map pd)) = true
  | [] => rfl
  | l :: r => by
    show ((Dat.list (l.map pd)).fine && Dat.fines (r.map _)) = true
    rw [rows_fine r, (list_shp l).1]; rfl
theorem rows_depth : ∀ ls : List (List Pc), PyData.depthAll (Dat.pys (ls.map fun r => Dat.list (r.map pd))) ≤ 10
  | [] => by simp [Dat.pys, PyData.depthAll]
  | l :: r => by
    have h1 := rows_depth r
    have h2 := pds_depth l
    simp only [List.map_cons, Dat.pys, PyData.depthAll, Dat.py, PyData.depth]
    omega
theorem rowsD_shp (ls : List (List Pc)) : (rowsD ls).shp := ⟨rows_fine ls, by
  have := rows_depth ls
  simp only [rowsD, Dat.py, PyData.depth]; omega⟩
/-- what is seen of an accumulator -/
noncomputable def seeD (c : Int) (l : List Pc) : Dat := .tuple [.int l.length, .str (textOf l), .int (c + total l), .bool (wsOf c l)]
theorem see_fine (c : Int) (l : List Pc) : (seeD c l).fine = true := by
  simp [seeD, Dat.fine, Dat.fines, textOf_ok]
theorem sees_shp (c0 c1 c2 : Int) (l0 l1 l2 : List Pc) : (Dat.list [seeD c0 l0, seeD c1 l1, seeD c2 l2]).shp := ⟨by simp [Dat.fine, Dat.fines, see_fine], by simp [seeD, Dat.py, Dat.pys, PyData.depth, PyData.depthAll]⟩

section
variable {prog : Program} {w : World} {hb : Heap} {M : MP} {mg mb : Str → Option Value} {k : Nat} {μ : Mem} {sc : Sh} {ρ : Ren} {Φ : Dat → Mem → Prop} {outer : List Env} {Ψ : AFlow → Ren → Mem → Prop} {Ξ : XP}
theorem WpCu.mono {fa : Addr} {ds : List Dat} {Φ' : Dat → Mem → Prop} (h : WpCu prog w hb k fa ds μ Φ) (kk : ∀ d μ', Φ d μ' → Φ' d μ') : WpCu prog w hb k fa ds μ Φ' :=
  fun A s vs E fr Q c y r oc hQ => h A s vs E fr Q c y r oc fun v d μ' s' a => hQ v d μ' s' (kk d μ' a)
theorem PE.glob {x : Str} {a : Addr} {pos : Pos} (G : hb.Ns mainGlobals mg) (hx : mg x = some (.ref a)) (hk : sc.names.lookup x = some .globalImplicit := by rfl) (hd : (x == ("__debug__" : Str)) = false := by rfl) : PE prog w hb M sc k (.Name x pos) ρ (.obj a) := fun _ _ => .glob G hx ⟨rfl, rfl⟩ hk hd
/-- what the look at the accumulators leans on -/
noncomputable def MSee (T : Addr) (ps : Array Value) (T2 : Addr) (ps2 : Array Value) (as : List ARow) (ls : List (List Pc)) : MP := ⟨fun μ => (T, MO.tab 80 ps) ∈ μ ∧ (T2, MO.tab 87 ps2) ∈ μ ∧ ∀ j, j < as.length → accE (aA as j) (ls.getD j []) ∈ μ, fun _ _ h => ⟨List.mem_append_right _ h.1, List.mem_append_right _ h.2.1, fun j hj => List.mem_append_right _ (h.2.2 j hj)⟩⟩
variable {T T2 : Addr} {ps ps2 : Array Value} {as : List ARow} {cs : List Int} {ls : List (List Pc)} {j : Nat} {x : Str}
theorem PE.part (L : Lib w mg mb hb) (P : PSup prog theFile) (hj : j < as.length) {np ap pos : Pos} (hx : ρ.lookup x = some (objJ as j) := by rfl) (hd : (x == ("__debug__" : Str)) = false := by rfl) (hn : (x == ("__classdict__" : Str)) = false := by rfl)
    (he : ∀ env, ∃ pl, eval (.Call (.Attribute (.Name x np) "part_count" ap) [] [] pos) env = (do
      let ov ← eval (.Name x np) env
      standAt ap.atName
      let (f, first) ← holding [ov] (getMethod ov "part_count" pl)
      callWith pos f first (backTo pos (starEach [] env)) []) := by intro _; exact ⟨_, rfl⟩) :
    PE prog w hb (MSee T ps T2 ps2 as ls) sc (k + 1) (.Call (.Attribute (.Name x np) "part_count" ap) [] [] pos) ρ (.int (ls.getD j []).length) := fun μ hM => by
  have hm := hM.2.2 j hj
  unfold accE at hm
  refine WpE.accMethod0 L.acc (f := 111) rfl (L.K 111 _ rfl) rfl rfl (y := Option.none) (by rw [typeLookup_type, builtinLookup_eq_fast]; kernel_rfl) (by decide) ?_ he
  refine PE.use (.name hx hd hn) ⟨_, _, _, _, rfl, hm, (part_ok L P hm).mono fun d μ' h => ?_⟩
  obtain ⟨rfl, rfl⟩ := h
  exact ⟨by rw [List.length_map], rfl⟩
theorem PE.strAcc (L : Lib w mg mb hb) (B : Bnd as cs ls) (hj : j < as.length) {np xp pos : Pos} (hx : ρ.lookup x = some (objJ as j) := by rfl) (hd : (x == ("__debug__" : Str)) = false := by rfl) (hn : (x == ("__classdict__" : Str)) = false := by rfl) (hk : sc.names.lookup ("str" : Str) = some .globalImplicit := by rfl) :
    PE prog w hb (MSee T ps T2 ps2 as ls) sc (k + 4) (.Call (.Name "str" np) [.Name x xp] [] pos) ρ (.str (textOf (ls.getD j []))) := fun μ hM => by
  have hm := hM.2.2 j hj
  unfold accE at hm
  refine WpE.accStr (k := k + 2) L.acc (y := some (.builtin "object.__str__")) (by rw [typeLookup_type, builtinLookup_eq_fast]; kernel_rfl) (f := 88) rfl (L.K 88 _ rfl) rfl L.R.g L.R.b L.str L.strB ?_ hk
  refine PE.use (.name hx hd hn) ⟨_, _, _, _, textOf (ls.getD j []), rfl, hm, (str_ok L hM.2.1 hm (B.low j)).mono fun d μ' h => ?_⟩
  obtain ⟨rfl, rfl⟩ := h
  exact ⟨rfl, rfl, rfl⟩
theorem PE.lenAcc (L : Lib w mg mb hb) (B : Bnd as cs ls) (hj : j < as.length) {np xp pos : Pos} (hx : ρ.lookup x = some (objJ as j) := by rfl) (hd : (x == ("__debug__" : Str)) = false := by rfl) (hn : (x == ("__classdict__" : Str)) = false := by rfl) (hk : sc.names.lookup ("len" : Str) = some .globalImplicit := by rfl) :
    PE prog w hb (MSee T ps T2 ps2 as ls) sc (k + 3) (.Call (.Name "len" np) [.Name x xp] [] pos) ρ (.int (cs.getD j 0 + total (ls.getD j []))) := fun μ hM => by
  have hm := hM.2.2 j hj
  unfold accE at hm
  have htl := total_le (ls.getD j [])
  have hlo := B.low j
  have hp := B.pos j
  rw [B.siz j] at hm
  refine WpE.bcall L.R.g L.R.b L.len L.lenB ?_ hk
  refine PA.use (.cons (.name hx hd hn) .nil) ?_
  refine BCm.accLen (k := k + 2) L.acc (f := 81) rfl (L.K 81 _ rfl) rfl hm (nn := cs.getD j 0 + total (ls.getD j [])) (by omega) (by omega) ?_
  refine (len_ok L hM.1 hm hp hlo).mono fun d μ' h => ?_
  obtain ⟨rfl, rfl⟩ := h
  exact ⟨rfl, rfl, rfl⟩
theorem PE.wsAcc (L : Lib w mg mb hb) (B : Bnd as cs ls) (hj : j < as.length) {np ap pos : Pos} (hx : ρ.lookup x = some (objJ as j) := by rfl) (hd : (x == ("__debug__" : Str)) = false := by rfl) (hn : (x == ("__classdict__" : Str)) = false := by rfl)
    (he : ∀ env, ∃ pl, eval (.Call (.Attribute (.Name x np) "is_onlyws" ap) [] [] pos) env = (do
      let ov ← eval (.Name x np) env
      standAt ap.atName
      let (f, first) ← holding [ov] (getMethod ov "is_onlyws" pl)
      callWith pos f first (backTo pos (starEach [] env)) []) := by intro _; exact ⟨_, rfl⟩) :
    PE prog w hb (MSee T ps T2 ps2 as ls) sc (k + 5) (.Call (.Attribute (.Name x np) "is_onlyws" ap) [] [] pos) ρ (.bool (wsOf (cs.getD j 0) (ls.getD j []))) := fun μ hM => by
  have hm := hM.2.2 j hj
  unfold accE at hm
  rw [B.siz j] at hm
  refine WpE.accMethod0 L.acc (f := 103) rfl (L.K 103 _ rfl) rfl rfl (y := Option.none) (by rw [typeLookup_type, builtinLookup_eq_fast]; kernel_rfl) (by decide) ?_ he
  refine PE.use (.name hx hd hn) ⟨_, _, _, _, rfl, hm, (onlyws_ok L hM.1 hM.2.1 hm (B.pos j) (B.low j)).mono fun d μ' h => ?_⟩
  obtain ⟨rfl, rfl⟩ := h
  exact ⟨rfl, rfl⟩
theorem PIt.zip3 (L : Lib w mg mb hb) {es : List Expr} {nn : Nat} {pp np pos : Pos} {a b c : Expr} {xd yd zd : List Dat} (h1 : PE prog w hb M sc k a ρ (.list xd)) (h2 : PE prog w hb M sc k b ρ (.list yd)) (h3 : PE prog w hb M sc k c ρ (.list zd)) (hl : xd.length = yd.length) (hl' : xd.length = zd.length)
    (hk : sc.names.lookup ("zip" : Str) = some .globalImplicit := by rfl) (he : ∀ env, starEach [a, b, c] env = [(false, eval a env), (false, eval b env), (false, eval c env)] := by intro _; rfl) (h1' : ∀ env, starEach [a, b, c] env = (false, eval a env) :: starEach [b, c] env := by intro _; rfl) (h2' : ∀ env, starEach [b, c] env = (false, eval b env) :: starEach [c] env := by intro _; rfl) (h3' : ∀ env, starEach [c] env = (false, eval c env) :: starEach [] env := by intro _; rfl) :
    PIt prog w hb M sc k (.Tuple es nn pp) (.Call (.Name "zip" np) [a, b, c] [] pos) ρ (zip3D xd yd zd) := fun μ hM =>
  .zip3 L.R.g L.R.b L.zip L.zipB (PA.useM (.cons h1 (.cons h2 (.cons h3 .nil h3') h2') h1') hM ⟨xd, yd, zd, rfl, hl, hl', rfl, rfl⟩) hk he
theorem PE.strip {o z : Expr} {ap pos : Pos} {t u : Str} (h1 : PE prog w hb M sc k o ρ (.str t)) (h2 : PE prog w hb M sc k z ρ (.str u)) (hl : t.length ≤ sizeLine) (hns : noStars [z] = true := by rfl) (hst : ∀ env, ∃ y r, backTo pos (starEach [z] env) = (false, y) :: r := by intro _; exact ⟨_, _, rfl⟩) (hz : ∀ env, starEach [z] env = (false, eval z env) :: starEach [] env := by intro _; rfl)
    (he : ∀ env, ∃ pl, eval (.Call (.Attribute o "strip" ap) [z] [] pos) env = (do
      let ov ← eval o env
      standAt ap.atName
      let (f, first) ← holding [ov] (getMethod ov "strip" pl)
      callWith pos f first (backTo pos (starEach [z] env)) []) := by intro _; exact ⟨_, rfl⟩) : PE prog w hb M sc k (.Call (.Attribute o "strip" ap) [z] [] pos) ρ (.str (Txt.stripChars t u)) := fun μ hM =>
  .strMethod (id := "str.strip") (fun h => GM.strip h) (h1.useM hM ⟨t, rfl, PA.useM (.cons h2 .nil hz) hM (BC.m (.strip hl) ⟨rfl, rfl⟩)⟩) hns hst he
end
end Mine

end

noncomputable section
set_option maxHeartbeats 1000000
namespace Mine
noncomputable def drawn (ns : List Int) : List Int := (ns.take 12).map fun n => n.fmod 1000000
noncomputable def leadOf : List Int → Int
  | [] => 0
  | n :: _ => n
noncomputable def sizes3 (l : Int) : List Int := if l.fmod 4 == 3 then [(l.fdiv 4).fmod 2, (l.fdiv 8).fmod 2, (l.fdiv 16).fmod 3] else [0, 0, 0]
theorem sizes3_eq (l : Int) : ∃ a b c, sizes3 l = [a, b, c] ∧ (0 ≤ a ∧ a ≤ 2) ∧ (0 ≤ b ∧ b ≤ 2) ∧ (0 ≤ c ∧ c ≤ 2) := by
  unfold sizes3
  split
  · have h1 : 0 ≤ (l.fdiv 4).fmod 2 ∧ (l.fdiv 4).fmod 2 < 2 := ⟨Int.fmod_nonneg_of_pos _ (by decide), Int.fmod_lt_of_pos _ (by decide)⟩
    have h2 : 0 ≤ (l.fdiv 8).fmod 2 ∧ (l.fdiv 8).fmod 2 < 2 := ⟨Int.fmod_nonneg_of_pos _ (by decide), Int.fmod_lt_of_pos _ (by decide)⟩
    have h3 : 0 ≤ (l.fdiv 16).fmod 3 ∧ (l.fdiv 16).fmod 3 < 3 := ⟨Int.fmod_nonneg_of_pos _ (by decide), Int.fmod_lt_of_pos _ (by decide)⟩
    exact ⟨_, _, _, rfl, by omega, by omega, by omega⟩
  · exact ⟨0, 0, 0, rfl, by omega, by omega, by omega⟩
/-- what the mathematics owes -/
structure Agree (rows : List (List Pc)) (sizes : List Int) : Prop where
  fate : (merge sizes (sumLen rows + 1) [0, 1, 2] rows []).1 = (toldOf rows sizes).1
  out : (merge sizes (sumLen rows + 1) [0, 1, 2] rows []).2.1 = (toldOf rows sizes).2.1
  left : (merge sizes (sumLen rows + 1) [0, 1, 2] rows []).2.2 = List.zipWith (fun (r : List Pc) (c : Nat) => r.drop c) rows (toldOf rows sizes).2.2
  three : (toldOf rows sizes).2.2.length = 3
  short : (toldOf rows sizes).2.1.length ≤ 100
section
variable {prog : Program} {w : World} {hb : Heap} {M : MP} {mg mb : Str → Option Value} {k : Nat} {μ : Mem} {sc : Sh} {ρ : Ren} {Φ : Dat → Mem → Prop} {outer : List Env} {Ψ : AFlow → Ren → Mem → Prop} {Ξ : XP}
noncomputable def sc180 : Sh := ⟨[("script", .local), ("drawn", .cell), ("lead", .local), ("sizes", .local), ("rows", .local), ("heaps", .local), ("deed", .local), ("merged", .local), ("fate", .local), ("out", .local), ("counts", .local), ("left", .local), ("texts", .local), ("seen", .local), ("whole", .local),
  ("range", .globalImplicit), ("reduce", .globalImplicit), ("_law_pushed", .globalImplicit), ("enumerate", .globalImplicit), ("_law_run", .globalImplicit), ("_law_told", .globalImplicit), ("zip", .globalImplicit), ("_Accumulator", .globalImplicit), ("str", .globalImplicit), ("_law_joined", .globalImplicit)], .ref 179⟩
theorem locs_ok {ρ₁ ρ : Ren} {sc : Sh} (h : (ρ₁.all fun p => sc.names.lookup p.1 == some .local && (ρ.lookup p.1).isNone) = true) : ∀ p ∈ ρ₁, sc.names.lookup p.1 = some .local ∧ ρ.lookup p.1 = none := fun p hp => by
  have := List.all_eq_true.mp h p hp
  simpa using this
/-- a turn without a test -/
theorem turn0 {inner : Ren → List Dat → Mem → AccP → Prop} {tgt : Expr} {d : Dat} {ds acc : List Dat} {Φ : AccP} (ρ₁ : Ren) (h1 : bindT tgt d = some ρ₁) (h2 : (ρ₁.all fun p => sc.names.lookup p.1 == some .local && (ρ.lookup p.1).isNone) = true)
    (h : inner (ρ₁ ++ ρ) acc μ (fun acc' μ' => loopW prog w hb inner sc k tgt [] ρ ds acc' μ' Φ)) : loopW prog w hb inner sc k tgt [] ρ (d :: ds) acc μ Φ := ⟨ρ₁, h1, locs_ok h2, h⟩
/-- one more accumulator is opened -/
theorem open_turn (L : Lib w mg mb hb) (P : PSup prog theFile) {np a1 a2 pos : Pos} {size place : Int} {acc : List Dat} {Φ : AccP} {ρ : Ren} {sc : Sh} (hs : var ρ "size" (.int size)) (hp : var ρ "place" (.int place)) (hk : sc.names.lookup ("_law_opened" : Str) = some .globalImplicit) (ha : acc.length ≤ 100)
    (h : ∀ a dx, a ∉ dom μ → dx ∉ dom μ → Φ (acc ++ [.obj a]) (μ ++ [(a, .acc dx (some size) ((openOf place).map pd))])) :
    WpG prog w hb sc (k + 3) (.Call (.Name "_law_opened" np) [.Name "size" a1, .Name "place" a2] [] pos) [] ρ acc μ Φ := by
  intro P' hP'
  refine WpE.call ?_
  refine WpE.glob L.R.g L.opened ⟨rfl, 137, rfl, ⟨_, _, L.K 137 _ rfl, rfl⟩, ?_⟩ hk
  refine PA.use (.cons (.name hs) (.cons (.name hp) .nil)) ?_
  refine (opened_ok L P size place).mono fun d μ2 h2 => ?_
  obtain ⟨a, dx, h1, h2, rfl, rfl⟩ := h2
  have hd : ∀ b, b ∉ dom (P' ++ μ) → b ∉ dom μ := fun b hb' hm => hb' (by rw [dom_append]; exact List.mem_append_right _ hm)
  exact ⟨μ ++ [(a, .acc dx (some size) ((openOf place).map pd))], by rw [List.append_assoc], Nat.le_trans ha (by decide), h a dx (hd a h1) (hd dx h2)⟩
theorem callX0 {fa : Addr} {o : Obj} {fd : FuncData} {body : List Stmt} {ds : List Dat} (sc : Sh) (names : List Str) (ho : hb.get? fa = some o) (hd : o.data = .func fd) (hbody : fd.body = .stmts body)
    (lim : hb.NoLimit) (hcd : hb.CodeRec sc.code fd.qualname) (hbind : ∀ vs : List Value, vs.length = names.length → bindArgs fd ⟨vs, []⟩ = pure (names.zip vs))
    (h : WpSx prog w hb (some []) sc k body (names.zip ds) μ (fun af _ μ' => Φ (retD af) μ') (fun _ _ => False))
    (hsc : sc = ⟨fd.scope.names, fd.code⟩ := by rfl) (hok : parsOk names sc.names = true := by rfl) (hlen : names.length = ds.length := by rfl)
    (hglob : fd.globals = mainGlobals := by rfl) (hbi : fd.builtins = builtinsNs := by rfl) (hclo : fd.closure = [] := by rfl)
    (hco : fd.scope.isCoroutine = false := by rfl) (hgen : fd.scope.isGenerator = false := by rfl) (hk : fd.scope.kind = .function := by rfl) :
    ∀ (A : Around) (s : Shared) (vs : List Value) (E : Value → Shared → Prop) (Q : Value → Shared → Prop), Calm (k + 1) A → Ok hb μ s → RdA (dom μ) s.heap vs ds → OutC hb [] A (dom μ) s.heap →
      (∀ v d μ' s', Φ d μ' → Rd (dom μ') s'.heap v d → Ok hb μ' s' → FwU (frAs []) (dom μ) (dom μ') s s' → Q v s') → wpAny (model prog w) A (call (.ref fa) vs) Q E s :=
  callU [] sc names ho hd hbody lim hcd hbind (fun env A s E c en y o Q hQ => (h env A s E c en y o).run Q (fun f af ρ' μ' s' a1 a2 a3 a4 a5 => hQ f _ μ' s' a1 a2.ret a4 a5.toU) fun _ _ _ _ _ _ _ h => h.elim) hsc hok hlen hglob hbi hclo hco hgen hk
/-- an accumulator is emptied -/
theorem pop_turn (L : Lib w mg mb hb) {np ap pos : Pos} {acc : List Dat} {Φ : AccP} {ρ : Ren} {sc : Sh} {a dx : Addr} {sz : Option Int} {ds : List Dat} (hx : var ρ "heap" (.obj a)) (hm : (a, MO.acc dx sz ds) ∈ μ) (hl : ds.length ≤ 1000) (ha : acc.length ≤ 100) (h : Φ (acc ++ [.list ds]) (setM μ a (.acc dx sz [])))
    (he : ∀ env, ∃ pl, eval (.Call (.Attribute (.Name "heap" np) "pop_from" ap) [] [] pos) env = (do
      let ov ← eval (.Name "heap" np) env
      standAt ap.atName
      let (f, first) ← holding [ov] (getMethod ov "pop_from" pl)
      callWith pos f first (backTo pos (starEach [] env)) []) := by intro _; exact ⟨_, rfl⟩) :
    WpG prog w hb sc (k + 1) (.Call (.Attribute (.Name "heap" np) "pop_from" ap) [] [] pos) [] ρ acc μ Φ := by
  intro P' hP'
  refine WpE.accMethod0 L.acc (f := 67) rfl (L.K 67 _ rfl) rfl rfl (y := Option.none) (by rw [typeLookup_type, builtinLookup_eq_fast]; kernel_rfl) (by decide) ?_ he
  refine PE.use (.name hx) ⟨_, _, _, _, rfl, List.mem_append_right _ hm, (pop_ok L (List.mem_append_right _ hm) hl).mono fun d μ' h2 => ?_⟩
  obtain ⟨rfl, rfl⟩ := h2
  exact ⟨_, setM_P hP' hm, Nat.le_trans ha (by decide), h⟩
theorem law_ok (L : Lib w mg mb hb) (P : PSup prog theFile) (ns : List Int) {T T2 T3 : Addr} {ps ps2 ps3 : Array Value} {M0 : Mem} (ht : (T, MO.tab 80 ps) ∈ M0) (ht2 : (T2, MO.tab 87 ps2) ∈ M0) (ht3 : (T3, MO.tab 167 ps3) ∈ M0) (hns : ns.length ≤ 63)
    (ag : Agree (rows3 (drawn ns)) (sizes3 (leadOf (drawn ns)))) (hws : ∀ (c : Int) (l : List Pc), wsOf c l = (c == 0 && Txt.stripChars (textOf l) " \t" == "")) :
    ∀ (A : Around) (s : Shared) (vs : List Value) (E : Value → Shared → Prop) (Q : Value → Shared → Prop), Calm (k + 9) A → Ok hb M0 s → RdA (dom M0) s.heap vs [.list (ns.map .int)] → OutC hb [] A (dom M0) s.heap →
      (∀ v d μ' s', (d = .bool true ∧ ∀ p ∈ M0, p ∈ μ') → Rd (dom μ') s'.heap v d → Ok hb μ' s' → FwU (frAs []) (dom M0) (dom μ') s s' → Q v s') → wpAny (model prog w) A (call (.ref 180) vs) Q E s := by
  refine callX0 sc180 ["script"] (L.K 180 _ rfl) rfl rfl L.R.nolimit ⟨_, _, _, _, rfl, L.K 179 _ rfl, rfl, rfl⟩ (fun vs h => by match vs, h with | [v], _ => rfl) (Φ := fun d μ' => d = .bool true ∧ ∀ p ∈ M0, p ∈ μ') ?_
  -- drawn
  have htk : (ns.take 12).length ≤ 12 := by rw [List.length_take]; omega
  have hdl : (drawn ns).length ≤ 12 := by unfold drawn; rw [List.length_map]; exact htk
  refine WpSx.cons ?_
  refine Wp1x.of ?_
  refine Wp1.assignV ?_
  have hdd : ((ns.take 12).flatMap fun n => [Dat.int (n.fmod 1000000)]) = (drawn ns).map .int := by
    rw [← List.map_eq_flatMap, drawn, List.map_map]; rfl
  refine PE.use (d := .list ((drawn ns).map .int)) ?_ ?_
  · rw [← hdd]
    have ht12 : (ns.map Dat.int).take (12 : Int).toNat = (ns.take 12).map .int := by rw [List.map_take]; rfl
    refine .compT (ns.take 12) .int _ (.list (by rw [← ht12]; exact .upto .name .int (by decide) (by rw [List.length_map]; exact Nat.le_trans hns (by decide)))) (fun n _ => ?_) (by rw [hdd, List.length_map]; exact Nat.le_trans hdl (by decide))
    exact .mk [("number", .int n)] rfl rfl (.elt (.bin .name (.bin .int .int (.powInt (by decide) (by decide) (by decide))) (.modInt (by decide))))
  generalize drawn ns = dr at *
  -- lead
  refine WpSx.cons ?_
  refine Wp1x.of ?_
  refine Wp1.assignV ?_
  refine PE.use (d := .int (leadOf dr)) (.ite (q := !(dr.map Dat.int).isEmpty) (.val .name (.list (by rw [List.length_map]; omega))) (fun h => ?_) fun h => ?_) ?_
  · cases dr with
    | nil => cases h
    | cons n r => exact .item (i := 0) (ds := (n :: r).map Dat.int) .name .int (.inl rfl) (by decide) (by decide) rfl
  · cases dr with
    | nil => exact .int
    | cons n r => cases h
  -- sizes
  refine WpSx.cons ?_
  refine Wp1x.of ?_
  refine Wp1.assignV ?_
  refine PE.use (d := .list ((sizes3 (leadOf dr)).map .int)) (.ite (q := (leadOf dr).fmod 4 == 3) (.cmp (.bin .name .int (.modInt (by decide))) .int .eqInt) (fun h => ?_) fun h => ?_) ?_
  · unfold sizes3; rw [h]
    exact .list (.cons (.bin (.bin .name .int (.divInt (by decide) (by decide))) .int (.modInt (by decide))) (.cons (.bin (.bin .name .int (.divInt (by decide) (by decide))) .int (.modInt (by decide))) (.cons (.bin (.bin .name .int (.divInt (by decide) (by decide))) .int (.modInt (by decide))) .nil)))
  · unfold sizes3; rw [h]
    exact .list (.cons .int (.cons .int (.cons .int .nil)))
  obtain ⟨c0, c1, c2, hsz, hc0, hc1, hc2⟩ := sizes3_eq (leadOf dr)
  rw [hsz] at ag ⊢
  -- rows
  have hrw : ((List.range 3).flatMap fun j : Nat => [Dat.list ((rowOf dr (j : Int)).map pd)]) = (rows3 dr).map fun r => Dat.list (r.map pd) := rfl
  refine WpSx.cons ?_
  refine Wp1x.of ?_
  refine Wp1.assignCT (M := MP.all) (List.range 3) natD (fun j : Nat => [Dat.list ((rowOf dr (j : Int)).map pd)]) (.range L (m := 3) .int (by decide)) (fun j _ => ?_) (by rw [hrw, List.length_map]; exact (show 3 ≤ sizeLine by decide)) trivial ?_
  · exact .mk [("place", natD j)] rfl rfl (.elt (.call L.R.g L.row (L.K 130 _ rfl) rfl (.cons .name (.cons .name .nil)) (row_ok L dr j hdl)))
  rw [hrw]
  -- heaps
  refine WpSx.cons ?_
  refine Wp1x.of ?_
  refine Wp1.assignV ?_
  refine WpE.call ?_
  refine WpE.glob L.R.g L.reduce ⟨rfl, 30, rfl, ⟨_, _, L.K 30 _ rfl, rfl⟩, ?_⟩
  refine WpA.cons ?_
  refine WpE.glob L.R.g L.pushed ?_
  refine WpA.cons ?_
  refine PE.use .name ?_
  refine WpA.cons ?_
  refine WpE.listcomp ?_
  refine PIt.use (.enum L .name) ?_
  refine turn0 [("size", .int c0), ("place", .int (0 : Nat))] rfl rfl ?_
  refine open_turn (k := k + 5) L P rfl rfl rfl (by simp) fun a0 d0 ha0 hd0 => ?_
  refine turn0 [("size", .int c1), ("place", .int (1 : Nat))] rfl rfl ?_
  refine open_turn (k := k + 5) L P rfl rfl rfl (by simp) fun a1 d1 ha1 hd1 => ?_
  refine turn0 [("size", .int c2), ("place", .int (2 : Nat))] rfl rfl ?_
  refine open_turn (k := k + 5) L P rfl rfl rfl (by simp) fun a2 d2 ha2 hd2 => ?_
  refine WpA.nil ?_
  have m01 : a1 ≠ a0 := fun e => ha1 (by rw [e]; exact mem_dom (List.mem_append_right _ (.head _)))
  have m02 : a2 ≠ a0 := fun e => ha2 (by rw [e]; exact mem_dom (List.mem_append_left _ (List.mem_append_right _ (.head _))))
  have m12 : a2 ≠ a1 := fun e => ha2 (by rw [e]; exact mem_dom (List.mem_append_right _ (.head _)))
  have n0 : a0 ∉ M0.map (·.1) := fun h => by
    obtain ⟨p, hp, e⟩ := List.mem_map.mp h
    exact ha0 (by rw [← e]; exact mem_dom (show (p.1, p.2) ∈ M0 from hp))
  have n1 : a1 ∉ M0.map (·.1) := fun h => by
    obtain ⟨p, hp, e⟩ := List.mem_map.mp h
    exact ha1 (by rw [← e]; exact mem_dom (List.mem_append_left _ (show (p.1, p.2) ∈ M0 from hp)))
  have n2 : a2 ∉ M0.map (·.1) := fun h => by
    obtain ⟨p, hp, e⟩ := List.mem_map.mp h
    exact ha2 (by rw [← e]; exact mem_dom (List.mem_append_left _ (List.mem_append_left _ (show (p.1, p.2) ∈ M0 from hp))))
  have hnd : (([(a0, d0, c0), (a1, d1, c1), (a2, d2, c2)] : List ARow).map (·.1)).Nodup := by
    simp only [List.map_cons, List.map_nil, List.nodup_cons, List.mem_cons, List.not_mem_nil, or_false, not_or, not_false_iff, List.nodup_nil, and_true]
    exact ⟨⟨Ne.symm m01, Ne.symm m02⟩, Ne.symm m12⟩
  have hm0 : ∀ x ∈ ([(a0, d0, c0), (a1, d1, c1), (a2, d2, c2)] : List ARow), x.1 ∉ M0.map (·.1) := fun x hx => by
    simp only [List.mem_cons, List.not_mem_nil, or_false] at hx
    rcases hx with rfl | rfl | rfl
    · exact n0
    · exact n1
    · exact n2
  have hmu : M0 ++ [(a0, MO.acc d0 (some c0) ((openOf ((0 : Nat) : Int)).map pd))] ++ [(a1, MO.acc d1 (some c1) ((openOf ((1 : Nat) : Int)).map pd))] ++ [(a2, MO.acc d2 (some c2) ((openOf ((2 : Nat) : Int)).map pd))] = M0 ++ accsM [(a0, d0, c0), (a1, d1, c1), (a2, d2, c2)] (rows3 []) := by
    rw [List.append_assoc, List.append_assoc]; rfl
  rw [hmu]
  clear hmu ha0 hd0 ha1 hd1 ha2 hd2 n0 n1 n2
  refine (reducePush_ok (k := k + 4) L rfl hnd hm0 dr (by omega)).mono fun d μ2 h2 => ?_
  obtain ⟨rfl, rfl⟩ := h2
  have hr13 : ∀ r ∈ rows3 dr, r.length ≤ 13 := fun r hr => by
    have e0 := row_len dr 0
    have e1 := row_len dr 1
    have e2 := row_len dr 2
    simp only [rows3, List.mem_cons, List.not_mem_nil, or_false] at hr
    rcases hr with rfl | rfl | rfl <;> omega
  have hgd : ∀ j, ((rows3 dr).getD j []).length ≤ 13 := fun j => by
    rw [List.getD_eq_getElem?_getD]
    cases hq : (rows3 dr)[j]? with
    | none => simp
    | some r => exact hr13 r (List.mem_of_getElem? hq)
  have Bp : ∀ ls : List (List Pc), ls.length = 3 → (∀ j, (ls.getD j []).length ≤ 13) → Bnd [(a0, d0, c0), (a1, d1, c1), (a2, d2, c2)] [c0, c1, c2] ls := fun ls h1 h2 =>
    ⟨h1.symm, fun j => by match j with | 0 => rfl | 1 => rfl | 2 => rfl | n + 3 => rfl, fun j => by
      match j with
      | 0 => exact ⟨hc0.1, by have := hc0.2; show c0 ≤ 1000; omega⟩
      | 1 => exact ⟨hc1.1, by have := hc1.2; show c1 ≤ 1000; omega⟩
      | 2 => exact ⟨hc2.1, by have := hc2.2; show c2 ≤ 1000; omega⟩
      | n + 3 => exact ⟨Int.le_refl 0, by show (0 : Int) ≤ 1000; omega⟩, fun j => Nat.le_trans (h2 j) (by decide)⟩
  have hsum : sumLen (rows3 dr) ≤ 1000 := by
    have e0 := row_len dr 0
    have e1 := row_len dr 1
    have e2 := row_len dr 2
    show (rowOf dr 0).length + ((rowOf dr 1).length + ((rowOf dr 2).length + 0)) ≤ 1000
    omega
  -- the run
  refine WpSx.cons ?_
  refine Wp1x.assignU L.R.g L.run (L.K 151 _ rfl) rfl ?_
  refine PA.use (.cons .name .nil) ?_
  refine (run_ok (k := k + 3) L ht (Bp _ rfl hgd) (js0 := [0, 1, 2]) (by intro j hj; simp at hj; simp; omega) (by simp) hsum hnd hm0).mono fun d μ2 h2 => ?_
  obtain ⟨f, out, ls', hmer, rfl, rfl, hol⟩ := h2
  refine ⟨[("merged", .list (out.map pd)), ("deed", .str f)], rfl, rfl, ?_⟩
  obtain ⟨ag1, ag2, ag3, ag4, ag5⟩ := ag
  rw [hmer] at ag1 ag2 ag3
  -- what is told
  refine WpSx.cons ?_
  refine Wp1x.of ?_
  refine Wp1.assignTup ?_
  refine WpE.call ?_
  refine WpE.glob L.R.g L.told ⟨rfl, 168, rfl, ⟨_, _, L.K 168 _ rfl, rfl⟩, ?_⟩
  refine PA.use (.cons .name (.cons .name .nil)) ?_
  refine (told_ok (k := k + 5) L (rows3 dr) [c0, c1, c2] T3 ps3 (List.mem_append_left _ ht3) rfl rfl hr13).mono fun d μ2 h2 => ?_
  obtain ⟨rfl, rfl⟩ := h2
  generalize toldOf (rows3 dr) [c0, c1, c2] = t at *
  obtain ⟨fate, out', counts⟩ := t
  simp only at ag1 ag2 ag3 ag4 ag5
  subst ag1; subst ag2
  refine ⟨[("counts", .list (counts.map natD)), ("out", .list (out.map pd)), ("fate", .str f)], rfl, rfl, ?_⟩
  refine WpSx.cons ?_
  refine Wp1x.ite ?_
  refine PB.use (.all (.or (.cmp .name .name .neStr) fun _ => .or (.cmp .name .name (.neD (list_shp out) (list_shp out))) fun _ => .orNil)) ?_
  rw [fine_eqv (list_shp out).1]
  simp only [bne_self_eq_false, Bool.not_true, Bool.or_false, Bool.false_eq_true, if_false]
  refine WpSx.nil ?_
  obtain ⟨n0, n1, n2, rfl⟩ : ∃ n0 n1 n2, counts = [n0, n1, n2] := by
    match counts, ag4 with
    | [n0, n1, n2], _ => exact ⟨n0, n1, n2, rfl⟩
  have hls : ls' = [(rowOf dr 0).drop n0, (rowOf dr 1).drop n1, (rowOf dr 2).drop n2] := ag3
  have q0 : ((rowOf dr 0).drop n0).length ≤ 13 := by have := row_len dr 0; rw [List.length_drop]; omega
  have q1 : ((rowOf dr 1).drop n1).length ≤ 13 := by have := row_len dr 1; rw [List.length_drop]; omega
  have q2 : ((rowOf dr 2).drop n2).length ≤ 13 := by have := row_len dr 2; rw [List.length_drop]; omega
  clear ag3
  subst hls
  -- left
  refine WpSx.cons ?_
  refine Wp1x.of ?_
  refine Wp1.assignCT (M := MP.all) ([(rowOf dr 0, n0), (rowOf dr 1, n1), (rowOf dr 2, n2)] : List (List Pc × Nat)) (fun p => pairItem (.list (p.1.map pd)) (natD p.2)) (fun p => [.list ((p.1.drop p.2).map pd)])
    (show PIt _ _ _ _ _ _ _ _ _ (List.zipWith pairItem ((rows3 dr).map fun r => Dat.list (r.map pd)) ([n0, n1, n2].map natD)) from .zip L .name .name rfl) (fun p hp => ?_) (show 3 ≤ sizeLine by decide) trivial ?_
  · have hpl : p.1.length ≤ 13 := hr13 _ (by
      simp only [List.mem_cons, List.not_mem_nil, or_false] at hp
      rcases hp with rfl | rfl | rfl <;> simp [rows3])
    refine .mk [("count", natD p.2), ("row", .list (p.1.map pd))] rfl rfl (.elt ?_)
    rw [show Dat.list ((p.1.drop p.2).map pd) = .list ((p.1.map pd).drop ((p.2 : Int)).toNat) by rw [List.map_drop]; rfl]
    exact .from .name .name (by omega) (by rw [List.length_map]; exact Nat.le_trans hpl (by decide))
  have hleft : (([(rowOf dr 0, n0), (rowOf dr 1, n1), (rowOf dr 2, n2)] : List (List Pc × Nat)).flatMap fun p => [Dat.list ((p.1.drop p.2).map pd)]) = ([(rowOf dr 0).drop n0, (rowOf dr 1).drop n1, (rowOf dr 2).drop n2]).map fun r => Dat.list (r.map pd) := rfl
  rw [hleft]
  clear hleft
  generalize (rowOf dr 0).drop n0 = l0 at *
  generalize (rowOf dr 1).drop n1 = l1 at *
  generalize (rowOf dr 2).drop n2 = l2 at *
  have hl13 : ∀ r ∈ [l0, l1, l2], r.length ≤ 13 := fun r hr => by
    simp only [List.mem_cons, List.not_mem_nil, or_false] at hr
    rcases hr with rfl | rfl | rfl <;> assumption
  have hg2 : ∀ j, (([l0, l1, l2] : List (List Pc)).getD j []).length ≤ 13 := fun j => by
    match j with
    | 0 => exact q0
    | 1 => exact q1
    | 2 => exact q2
    | n + 3 => exact Nat.zero_le _
  have B := Bp [l0, l1, l2] rfl hg2
  -- texts
  refine WpSx.cons ?_
  refine Wp1x.of ?_
  refine Wp1.assignCT (M := MP.all) [l0, l1, l2] (fun r => .list (r.map pd)) (fun r => [.str (textOf r)]) (.list .name) (fun r hr => ?_) (show 3 ≤ sizeLine by decide) trivial ?_
  · exact .mk [("row", .list (r.map pd))] rfl rfl (.elt (.call L.R.g L.reduce (L.K 30 _ rfl) rfl (.cons (.glob L.R.g L.joined) (.cons .name (.cons .str .nil))) (reduceText_ok (k := k + 6) L r (Nat.le_trans (hl13 r hr) (by decide)))))
  -- seen
  have hM : (MSee T ps T2 ps2 [(a0, d0, c0), (a1, d1, c1), (a2, d2, c2)] [l0, l1, l2]).holds (M0 ++ accsM [(a0, d0, c0), (a1, d1, c1), (a2, d2, c2)] [l0, l1, l2]) := ⟨List.mem_append_left _ ht, List.mem_append_left _ ht2, fun j hj => List.mem_append_right _ (accs_mem rfl hj)⟩
  refine WpSx.cons ?_
  refine Wp1x.of ?_
  refine Wp1.assignCT (M := MSee T ps T2 ps2 [(a0, d0, c0), (a1, d1, c1), (a2, d2, c2)] [l0, l1, l2]) ([0, 1, 2] : List Nat) (objJ [(a0, d0, c0), (a1, d1, c1), (a2, d2, c2)]) (fun j => [seeD (([c0, c1, c2] : List Int).getD j 0) (([l0, l1, l2] : List (List Pc)).getD j [])]) (.list .name) (fun j hj => ?_) (show 3 ≤ sizeLine by decide) hM ?_
  · have hj3 : j < 3 := by simp at hj; omega
    exact .mk [("heap", objJ [(a0, d0, c0), (a1, d1, c1), (a2, d2, c2)] j)] rfl rfl (.elt (.tuple (.cons (.part L P hj3) (.cons (.strAcc (k := k + 4) L B hj3) (.cons (.lenAcc (k := k + 5) L B hj3) (.cons (.wsAcc (k := k + 3) L B hj3) .nil))))))
  -- and compared
  have hsee : ∀ (c : Int) (l : List Pc), seeD c l = .tuple [.int ((l.map pd).length : Int), .str (textOf l), .int (c + ((textOf l).length : Int)), .bool (c == 0 && Txt.stripChars (textOf l) " \t" == "")] := fun c l => by
    unfold seeD; rw [hws, List.length_map, textOf_len]
  refine WpSx.cons ?_
  refine Wp1x.ite ?_
  refine PB.use (.cmp (a := .list [seeD c0 l0, seeD c1 l1, seeD c2 l2]) (b := .list [seeD c0 l0, seeD c1 l1, seeD c2 l2]) .name
    (show PE _ _ _ _ _ _ _ _ (.list (([0, 1, 2] : List Nat).flatMap fun j => [seeD (([c0, c1, c2] : List Int).getD j 0) (([l0, l1, l2] : List (List Pc)).getD j [])])) from
      .compT ([0, 1, 2] : List Nat) (fun j => .tuple [.list ((([l0, l1, l2] : List (List Pc)).getD j []).map pd), .str (textOf (([l0, l1, l2] : List (List Pc)).getD j [])), .int (([c0, c1, c2] : List Int).getD j 0)]) _
        (show PIt _ _ _ _ _ _ _ _ _ (zip3D ([l0, l1, l2].map fun r => Dat.list (r.map pd)) ([l0, l1, l2].flatMap fun r => [Dat.str (textOf r)]) ([c0, c1, c2].map Dat.int)) from .zip3 L .name .name .name rfl rfl) (fun j hj => ?_) (show 3 ≤ sizeLine by decide)) (.neD (sees_shp _ _ _ _ _ _) (sees_shp _ _ _ _ _ _))) ?_
  · have hlj := hg2 j
    generalize ([l0, l1, l2] : List (List Pc)).getD j [] = l at *
    generalize ([c0, c1, c2] : List Int).getD j 0 = c at *
    have htl := total_le l
    have hte := textOf_len l
    rw [hsee]
    refine .mk [("size", .int c), ("text", .str (textOf l)), ("row", .list (l.map pd))] rfl rfl (.elt (.tuple (.cons (.bcall L.R.g L.R.b L.len L.lenB (.cons .name .nil) (.lenList (by rw [List.length_map]; omega))) (.cons .name (.cons (.bin .name (.bcall L.R.g L.R.b L.len L.lenB (.cons .name .nil) (.lenStr (by omega))) .addInt) (.cons (.and2 (.cmp .name .int .eqInt) fun _ => .cmp (.strip .name .str (Nat.le_trans (show (textOf l).length ≤ 1000 by omega) (by decide))) .str .eqStr) .nil))))))
  rw [fine_eqv (sees_shp c0 c1 c2 l0 l1 l2).1]
  simp only [Bool.not_true, Bool.false_eq_true, if_false]
  refine WpSx.nil ?_
  -- whole
  refine WpSx.cons ?_
  refine Wp1x.of ?_
  refine Wp1.assignV ?_
  refine WpE.accNew (k := k + 7) L.acc rfl (L.K 52 _ rfl) rfl L.R.g L.accN ?_
  refine WpA.nil ?_
  intro aw dw haw hdw
  refine (init_ok0 (k := k + 6) L P (List.mem_append_right _ (.head _))).mono fun d μ2 h2 => ?_
  obtain ⟨rfl, rfl⟩ := h2
  refine ⟨rfl, ?_⟩
  rw [setM_setM, setM_last haw]
  refine WpSx.cons ?_
  refine Wp1x.of ?_
  refine Wp1.expr ?_
  refine WpE.accMethod L.acc (f := 96) rfl (L.K 96 _ rfl) rfl rfl (y := none) (by rw [typeLookup_type, builtinLookup_eq_fast]; kernel_rfl) (by decide) ?_
  refine PE.use .name ⟨aw, dw, some 0, [], rfl, List.mem_append_right _ (.head _), ?_⟩
  refine PA.use (.cons .name .nil) ?_
  refine (reset_ok (k := k + 7) L (List.mem_append_right _ (.head _)) (by rw [List.length_map]; simp; omega)).mono fun d μ2 h2 => ?_
  obtain ⟨rfl, rfl⟩ := h2
  refine ⟨rfl, ?_⟩
  rw [setM_setM, setM_last haw]
  -- the end
  refine WpSx.cons ?_
  refine Wp1x.of ?_
  refine Wp1.ret ?_
  refine WpE.and2 ?_
  refine WpE.compare ?_
  refine WpE.accStr (k := k + 6) L.acc (y := some (.builtin "object.__str__")) (by rw [typeLookup_type, builtinLookup_eq_fast]; kernel_rfl) (f := 88) rfl (L.K 88 _ rfl) rfl L.R.g L.R.b L.str L.strB ?_
  refine PE.use .name ⟨aw, dw, some 0, out.map pd, textOf out, rfl, List.mem_append_right _ (.head _), ?_⟩
  refine (str_ok (k := k + 4) L (List.mem_append_left _ (List.mem_append_left _ ht2)) (List.mem_append_right _ (.head _)) hol).mono fun d μ2 h2 => ?_
  obtain ⟨rfl, rfl⟩ := h2
  refine ⟨rfl, ?_⟩
  refine PE.use (.call L.R.g L.reduce (L.K 30 _ rfl) rfl (.cons (.glob L.R.g L.joined) (.cons .name (.cons .str .nil))) (reduceText_ok (k := k + 6) L out (by omega))) ⟨_, .eqStr, _, rfl, ?_⟩
  simp only [beq_self_eq_true, if_true]
  refine WpE.compare ?_
  refine WpE.listcomp ?_
  refine PIt.use (.list .name) ?_
  have e0 : (a0, MO.acc d0 (some c0) (l0.map pd)) ∈ M0 ++ accsM [(a0, d0, c0), (a1, d1, c1), (a2, d2, c2)] [l0, l1, l2] ++ [(aw, MO.acc dw (some 0) (out.map pd))] := List.mem_append_left _ (List.mem_append_right _ (.head _))
  have e1 : (a1, MO.acc d1 (some c1) (l1.map pd)) ∈ M0 ++ accsM [(a0, d0, c0), (a1, d1, c1), (a2, d2, c2)] [l0, l1, l2] ++ [(aw, MO.acc dw (some 0) (out.map pd))] := List.mem_append_left _ (List.mem_append_right _ (.tail _ (.head _)))
  have e2 : (a2, MO.acc d2 (some c2) (l2.map pd)) ∈ M0 ++ accsM [(a0, d0, c0), (a1, d1, c1), (a2, d2, c2)] [l0, l1, l2] ++ [(aw, MO.acc dw (some 0) (out.map pd))] := List.mem_append_left _ (List.mem_append_right _ (.tail _ (.tail _ (.head _))))
  have e3 : ∀ p ∈ M0, p ∈ M0 ++ accsM [(a0, d0, c0), (a1, d1, c1), (a2, d2, c2)] [l0, l1, l2] ++ [(aw, MO.acc dw (some 0) (out.map pd))] := fun p hp => List.mem_append_left _ (List.mem_append_left _ hp)
  generalize M0 ++ accsM [(a0, d0, c0), (a1, d1, c1), (a2, d2, c2)] [l0, l1, l2] ++ [(aw, MO.acc dw (some 0) (out.map pd))] = μe at *
  refine turn0 [("heap", .obj a0)] rfl rfl ?_
  refine pop_turn (k := k + 7) L rfl e0 (by rw [List.length_map]; omega) (by simp) ?_
  refine turn0 [("heap", .obj a1)] rfl rfl ?_
  refine pop_turn (k := k + 7) L rfl (mem_setM_ne e1 m01) (by rw [List.length_map]; omega) (by simp) ?_
  refine turn0 [("heap", .obj a2)] rfl rfl ?_
  refine pop_turn (k := k + 7) L rfl (mem_setM_ne (mem_setM_ne e2 m02) m12) (by rw [List.length_map]; omega) (by simp) ?_
  refine PE.use .name ⟨_, .eqD (a := rowsD [l0, l1, l2]) (b := rowsD [l0, l1, l2]) (rowsD_shp _) (rowsD_shp _), ?_⟩
  rw [fine_eqv (rowsD_shp [l0, l1, l2]).1]
  refine ⟨rfl, fun p hp => ?_⟩
  have hne : ∀ x ∈ ([(a0, d0, c0), (a1, d1, c1), (a2, d2, c2)] : List ARow), p.1 ≠ x.1 := fun x hx e => hm0 x hx (by rw [← e]; exact List.mem_map_of_mem hp)
  exact mem_setM_ne (mem_setM_ne (mem_setM_ne (show (p.1, p.2) ∈ μe from e3 p hp) (hne _ (.head _))) (hne _ (.tail _ (.head _)))) (hne _ (.tail _ (.tail _ (.head _))))
end
end Mine

end

noncomputable section
set_option maxHeartbeats 2000000
namespace Mine
noncomputable abbrev tabsA : List Addr := [76, 83, 165]
noncomputable abbrev M00 : Mem := [(76, .tab 80 #[]), (83, .tab 87 #[]), (165, .tab 167 #[])]
theorem ints_rd {X : List Addr} {h : Heap} : ∀ {vs : List Value} {ns : List Int}, IntsAre vs ns → RdA X h vs (ns.map .int)
  | _, _, .nil => .nil
  | _, _, .cons n t r => .cons (.int n t) (ints_rd r)
section
variable {w : World} {s₁ : Shared} {mg mb : Str → Option Value}
theorem hid_get {b : Addr} {o : Obj} (KT : ∀ P ∈ tabsA, s₁.heap.get? P = some (tabObj #[])) (e : s₁.heap.get? b = some o) (hn : o ≠ tabObj #[]) : (hideAll s₁.heap tabsA).get? b = some o :=
  hideAll_get _ e fun hm => by
    have := KT b hm
    rw [e] at this; exact hn (Option.some.inj this)
theorem hid_ns {a : Addr} {m : Str → Option Value} (KT : ∀ P ∈ tabsA, s₁.heap.get? P = some (tabObj #[])) (n : s₁.heap.Ns a m) : (hideAll s₁.heap tabsA).Ns a m := by
  obtain ⟨o, es, ep, e, hd, r⟩ := n
  exact ⟨o, es, ep, hid_get KT e (fun z => by rw [z] at hd; cases hd), hd, r⟩
theorem lib_of (KX : (Mine.hp w.params).In s₁.heap) (KT : ∀ P ∈ tabsA, s₁.heap.get? P = some (tabObj #[])) (R : TR mg mb s₁.heap) (M : ∃ bm ob, BMod s₁.heap mainGlobals mg bm ob) : Lib w mg mb (hideAll s₁.heap tabsA) := by
  refine ⟨fun a o e => hideAll_get _ (KX a o e) fun hm => ?_, ⟨hid_ns KT R.g, hid_ns KT R.b, ?_, R.builtins⟩, ?_⟩
  · simp only [tabsA, List.mem_cons, List.not_mem_nil, or_false] at hm
    rcases hm with rfl | rfl | rfl
    · have : (Mine.hp w.params).lookup 76 = none := by kernel_rfl
      rw [this] at e; cases e
    · have : (Mine.hp w.params).lookup 83 = none := by kernel_rfl
      rw [this] at e; cases e
    · have : (Mine.hp w.params).lookup 165 = none := by kernel_rfl
      rw [this] at e; cases e
  · obtain ⟨mc, h1, h2⟩ := R.nolimit
    exact ⟨mc, hid_ns KT h1, h2⟩
  · obtain ⟨bm, ob, B⟩ := M
    exact ⟨bm, ob, hid_ns KT B.ns, B.name, B.ne, hid_get KT B.obj (fun z => by have := B.data; rw [z] at this; cases this), B.cls, B.dict, B.data⟩
theorem tab_of {c P : Addr} (h : CodeHd s₁.heap c P) (e : s₁.heap.get? P = some (tabObj #[])) : s₁.heap.IsCode c P #[] ∧ s₁.heap.TableAt c P #[] := by
  obtain ⟨o, vs, file, tf, flags, tg, inF, text, tt, h1, h2, h3, h4, h5, h6, h7, h8, h9, h10⟩ := h
  exact ⟨⟨o, vs, file, tf, flags, tg, inF, text, tt, _, h1, h3, h5, h6, h7, h8, h9, e, rfl, trivial, h10⟩, ⟨o, vs, h1, h2, h3, h4⟩, e⟩
theorem ok_of (KX : (Mine.hp w.params).In s₁.heap) (KT : ∀ P ∈ tabsA, s₁.heap.get? P = some (tabObj #[])) (L : Lib w mg mb (hideAll s₁.heap tabsA)) (hg : s₁.gens = #[]) : Ok (hideAll s₁.heap tabsA) M00 s₁ := by
  have t1 := tab_of (codeHd_of_K (c := 80) (P := 76) KX (by kernel_rfl)) (KT 76 (by decide))
  have t2 := tab_of (codeHd_of_K (c := 87) (P := 83) KX (by kernel_rfl)) (KT 83 (by decide))
  have t3 := tab_of (codeHd_of_K (c := 167) (P := 165) KX (by kernel_rfl)) (KT 165 (by decide))
  refine ⟨fun b o e => of_hideAll _ e, fun a ha => hideAll_none _ ha, fun p hp => ?_, by decide, by rw [hg]; exact AllBare.empty, fun c ps a ha => ?_⟩
  · simp only [M00, List.mem_cons, List.not_mem_nil, or_false] at hp
    rcases hp with rfl | rfl | rfl
    · exact ⟨#[], t1⟩
    · exact ⟨#[], t2⟩
    · exact ⟨#[], t3⟩
  · simp only [M00, List.mem_cons, List.not_mem_nil, or_false, Prod.mk.injEq, MO.tab.injEq] at ha
    rcases ha with ⟨_, rfl, _⟩ | ⟨_, rfl, _⟩ | ⟨_, rfl, _⟩
    · exact ⟨_, L.K 80 _ rfl⟩
    · exact ⟨_, L.K 87 _ rfl⟩
    · exact ⟨_, L.K 167 _ rfl⟩
theorem calm_caller : Calm 9 callerA := ⟨rfl, by decide, by decide⟩
theorem psup : PSup PySem.Challenge.rw_ny0091_01.row.prog theFile := ⟨by unfold theFile; exact beq_self_eq_true _, by decide +kernel⟩
theorem law_entry (KX : (Mine.hp w.params).In s₁.heap) (KT : ∀ P ∈ tabsA, s₁.heap.get? P = some (tabObj #[])) (R : TR mg mb s₁.heap) (M : ∃ bm ob, BMod s₁.heap mainGlobals mg bm ob) (hg : s₁.gens = #[]) {l : Addr} {vs : List Value} {ns : List Int} (hL : s₁.heap.IsList l vs.toArray) (hI : IntsAre vs ns) (hn : ns.length ≤ 63)
    (ag : Agree (rows3 (drawn ns)) (sizes3 (leadOf (drawn ns)))) (hws : ∀ (c : Int) (l : List Pc), wsOf c l = (c == 0 && Txt.stripChars (textOf l) " \t" == "")) {Q : Value → Shared → Prop} {E : Value → Shared → Prop}
    (hQ : ∀ s', OldK s₁.heap s'.heap → s'.os = s₁.os → AllBare s'.gens → Q (.bool true) s') : wpAny (model PySem.Challenge.rw_ny0091_01.row.prog w) callerA (call (.ref 180) [.ref l]) Q E s₁ := by
  have L := lib_of KX KT R M
  have y := ok_of KX KT L hg
  have hl : l ∉ dom M00 := fun hm => by
    obtain ⟨o, ho, hc, _⟩ := hL
    have := KT l hm
    rw [ho] at this; cases this; cases hc
  refine law_ok (k := 0) L psup ns (M0 := M00) (T := 76) (T2 := 83) (T3 := 165) (.head _) (.tail _ (.head _)) (.tail _ (.tail _ (.head _))) hn ag hws callerA s₁ [.ref l] E Q calm_caller y (.cons (.list hl hL (ints_rd hI)) .nil) ⟨rfl, fun f hf => nomatch hf⟩ fun v d μ' s' hd rv y' f => ?_
  obtain ⟨rfl, hM⟩ := hd
  cases rv
  have hold : ∀ (c P : Addr), (P, MO.tab c #[]) ∈ M00 → ∃ more, s'.heap.get? P = some (tabObj (#[] ++ more)) := fun c P hm => by
    obtain ⟨more, _, ht⟩ := y'.mem _ (hM _ hm)
    exact ⟨more, ht.2⟩
  have htab : ∀ P ∈ tabsA, (∃ c, (P, MO.tab c #[]) ∈ M00) ∧ isCodeTable s₁.heap P := fun P hP => by
    simp only [tabsA, List.mem_cons, List.not_mem_nil, or_false] at hP
    rcases hP with rfl | rfl | rfl
    · exact ⟨⟨80, .head _⟩, (tab_of (codeHd_of_K (c := 80) (P := 76) KX (by kernel_rfl)) (KT 76 (by decide))).2.isCodeTable⟩
    · exact ⟨⟨87, .tail _ (.head _)⟩, (tab_of (codeHd_of_K (c := 87) (P := 83) KX (by kernel_rfl)) (KT 83 (by decide))).2.isCodeTable⟩
    · exact ⟨⟨167, .tail _ (.tail _ (.head _))⟩, (tab_of (codeHd_of_K (c := 167) (P := 165) KX (by kernel_rfl)) (KT 165 (by decide))).2.isCodeTable⟩
  refine hQ s' ⟨fun b o e => ?_, fun b o e => ?_⟩ f.os (f.gens (by rw [hg]; exact AllBare.empty))
  · by_cases hb : b ∈ tabsA
    · obtain ⟨⟨c, hc⟩, ht⟩ := htab b hb
      obtain ⟨more, hm⟩ := hold c b hc
      have := KT b hb
      rw [e] at this
      cases this
      exact .inr (.inl ⟨ht, rfl, #[], more, rfl, hm⟩)
    · exact .inl (f.keep b o hb (by intro z; cases z) e)
  · by_cases hb : b ∈ tabsA
    · obtain ⟨⟨c, hc⟩, _⟩ := htab b hb
      obtain ⟨more, hm⟩ := hold c b hc
      exact ⟨_, hm⟩
    · exact ⟨o, f.keep b o hb (by intro z; cases z) e⟩
end
end Mine

end

noncomputable section
set_option maxHeartbeats 1000000
namespace Mine
theorem takeW_all {α : Type} (p : α → Bool) : ∀ l : List α, l.all p = true → (l.takeWhile p).length = l.length
  | [], _ => rfl
  | a :: r, h => by
    simp only [List.all_cons, Bool.and_eq_true] at h
    rw [List.takeWhile_cons, if_pos h.1, List.length_cons, List.length_cons, takeW_all p r h.2]
theorem takeW_not {α : Type} (p : α → Bool) : ∀ l : List α, l.all p = false → (l.takeWhile p).length < l.length ∧ ∃ a r, l.drop (l.takeWhile p).length = a :: r ∧ p a = false
  | [], h => by cases h
  | a :: r, h => by
    rw [List.takeWhile_cons]
    by_cases ha : p a = true
    · rw [if_pos ha]
      simp only [List.all_cons, ha, Bool.true_and] at h
      obtain ⟨h1, h2⟩ := takeW_not p r h
      refine ⟨by simp; omega, by simpa using h2⟩
    · rw [if_neg ha]
      exact ⟨by simp, a, r, rfl, by simpa using ha⟩
theorem strip_empty (g : Nat → Bool) (x : Str) : (Txt.stripBy g true true x == ("" : Str)) = x.cps.toList.all g := by
  rw [PyProof.Rows.stripBy_eq]
  have hsz : x.cps.toList.length = x.length := Array.length_toList
  unfold stripLo stripHi
  simp only [if_true]
  cases hall : x.cps.toList.all g with
  | true =>
    have h1 := takeW_all g _ hall
    rw [h1, List.drop_eq_nil_of_le (Nat.le_refl _)]
    simp only [List.reverse_nil, List.takeWhile_nil, List.length_nil, Nat.sub_zero, beq_iff_eq]
    show Str.mk (x.cps.extract x.cps.toList.length x.length) = Str.mk #[]
    congr 1
    rw [hsz]
    apply Array.eq_empty_of_size_eq_zero
    rw [Array.size_extract]
    omega
  | false =>
    obtain ⟨h1, a, r, h2, h3⟩ := takeW_not g _ hall
    rw [h2]
    have h4 : (((a :: r).reverse).takeWhile g).length < (a :: r).length := by
      have : ((a :: r).reverse).all g = false := by
        rw [List.all_reverse, List.all_cons, h3]; rfl
      have := (takeW_not g _ this).1
      simpa using this
    have h5 : (a :: r).length = x.cps.toList.length - (x.cps.toList.takeWhile g).length := by rw [← h2, List.length_drop]
    rw [beq_eq_false_iff_ne]
    intro e
    have e2 : (x.cps.extract (x.cps.toList.takeWhile g).length (x.length - (((a :: r).reverse).takeWhile g).length)).size = 0 := by
      have e3 : (Builtin.Str.strSub x (x.cps.toList.takeWhile g).length (x.length - (((a :: r).reverse).takeWhile g).length)).cps = (Str.cps "") := by rw [e]
      show (Builtin.Str.strSub x _ _).cps.size = 0
      rw [e3]; rfl
    rw [Array.size_extract] at e2
    have hx : x.cps.size = x.length := rfl
    omega
theorem sp_piece : ∀ p : Pc, (((pcs p).1.cps.toList ++ (pcs p).2.cps.toList).all fun c => Unicode.isSpace c == (Str.cps " \t").contains c) = true := by decide +kernel
theorem textOf_cps (p : Pc) (r : List Pc) : (textOf (p :: r)).cps.toList = ((pcs p).1.cps.toList ++ (pcs p).2.cps.toList) ++ (textOf r).cps.toList := by
  show (((pcs p).1.cps ++ (pcs p).2.cps) ++ (textOf r).cps).toList = _
  simp
theorem sp_text : ∀ l : List Pc, ((textOf l).cps.toList.all fun c => Unicode.isSpace c == (Str.cps " \t").contains c) = true
  | [] => rfl
  | p :: r => by rw [textOf_cps, List.all_append, sp_piece, sp_text r]; rfl
theorem all_congr {α : Type} (p q : α → Bool) : ∀ l : List α, (l.all fun c => p c == q c) = true → l.all p = l.all q
  | [], _ => rfl
  | a :: r, h => by
    simp only [List.all_cons, Bool.and_eq_true, beq_iff_eq] at h
    rw [List.all_cons, List.all_cons, h.1, all_congr p q r h.2]
theorem mathWs (c : Int) (l : List Pc) : wsOf c l = (c == 0 && Txt.stripChars (textOf l) " \t" == "") := by
  unfold wsOf
  congr 1
  unfold Txt.stripChars
  rw [strip_empty, ← all_congr _ _ _ (sp_text l), ← textOf_len]
  unfold Txt.isspace
  rw [← Array.all_toList]
  cases h : (textOf l).cps.toList with
  | nil =>
    have : (textOf l).length = 0 := by
      show (textOf l).cps.size = 0
      rw [← Array.length_toList, h]; rfl
    rw [this]; rfl
  | cons a r =>
    have : (textOf l).length = r.length + 1 := by
      show (textOf l).cps.size = _
      rw [← Array.length_toList, h]; rfl
    rw [this]
    simp
end Mine

end

noncomputable section
set_option maxHeartbeats 1000000
namespace Mine
/-! the plain law: the merge and what is told -/
theorem liveN_le (row : List Pc) (size : Int) : ∀ n, liveN row size n ≤ n
  | 0 => Nat.le_refl _
  | n + 1 => by
    unfold liveN
    split
    · exact Nat.le_trans (liveN_le row size n) (Nat.le_succ n)
    · exact Nat.le_refl _
theorem liveN_big {row : List Pc} {size : Int} (h : size ≠ 0) : ∀ n, liveN row size n = n
  | 0 => rfl
  | n + 1 => by
    unfold liveN
    have : (size == 0) = false := by rw [beq_eq_false_iff_ne]; exact h
    rw [this]; rfl
theorem liveN_zeros (row : List Pc) (size : Int) : ∀ n i, liveN row size n ≤ i → i < n → row[i]? = some 0
  | 0, i, _, h => absurd h (Nat.not_lt_zero i)
  | n + 1, i, h1, h2 => by
    unfold liveN at h1
    split at h1
    · rename_i hc
      simp only [Bool.and_eq_true, beq_iff_eq] at hc
      by_cases e : i = n
      · subst e; exact hc.2
      · exact liveN_zeros row size n i h1 (by omega)
    · omega
theorem liveN_last {row : List Pc} : ∀ n, liveN row 0 n = 0 ∨ row[liveN row 0 n - 1]? ≠ some 0
  | 0 => .inl rfl
  | n + 1 => by
    unfold liveN
    split
    · exact liveN_last n
    · rename_i hc
      right
      simpa using hc
theorem wanted_len (R : List Pc) (c : Int) : (wantedOf R c).length = liveN R c R.length := by
  unfold wantedOf
  rw [List.length_take]
  exact Nat.min_eq_left (liveN_le R c R.length)
theorem wanted_pre (R : List Pc) (c : Int) : wantedOf R c = R.take (wantedOf R c).length := by rw [wanted_len]; rfl
theorem wanted_all {R : List Pc} {c : Int} (h : c ≠ 0) : wantedOf R c = R := by
  unfold wantedOf
  rw [liveN_big h, List.take_length]
theorem wanted_rest {R : List Pc} {c : Int} {p : Pc} (h : p ∈ R.drop (wantedOf R c).length) : p = 0 := by
  obtain ⟨i, hi⟩ := List.mem_iff_getElem?.mp h
  rw [List.getElem?_drop, wanted_len] at hi
  have hlt : liveN R c R.length + i < R.length := (List.getElem?_eq_some_iff.mp hi).1
  have := liveN_zeros R c R.length (liveN R c R.length + i) (Nat.le_add_right _ _) hlt
  rw [this] at hi
  exact (Option.some.inj hi).symm
theorem plen_zero : ∀ p : Pc, plen p = 0 ↔ p = 0 := by decide +kernel
theorem total_zero : ∀ l : List Pc, total l = 0 ↔ ∀ p ∈ l, p = 0
  | [] => by simp [total]
  | p :: r => by
    have ih := total_zero r
    unfold total at ih ⊢
    simp only [List.map_cons, List.sum_cons, List.mem_cons, forall_eq_or_imp]
    rw [Nat.add_eq_zero_iff, ih, plen_zero]
/-- whether something is wanted still -/
theorem total_left {R : List Pc} {n : Nat} (hn : n ≤ (wantedOf R 0).length) : total (R.drop n) = 0 ↔ n = (wantedOf R 0).length := by
  rw [total_zero]
  constructor
  · intro h
    refine Decidable.byContradiction fun hne => ?_
    have hlt : n < (wantedOf R 0).length := by omega
    rcases liveN_last (row := R) R.length with h0 | h0
    · rw [wanted_len] at hlt; omega
    · rw [← wanted_len] at h0
      have hle : (wantedOf R 0).length ≤ R.length := by rw [wanted_len]; exact liveN_le R 0 R.length
      have hi : (wantedOf R 0).length - 1 < R.length := by omega
      apply h0
      rw [List.getElem?_eq_getElem hi]
      have hm : R[(wantedOf R 0).length - 1] ∈ R.drop n := by
        refine List.mem_iff_getElem?.mpr ⟨(wantedOf R 0).length - 1 - n, ?_⟩
        rw [List.getElem?_drop, show n + ((wantedOf R 0).length - 1 - n) = (wantedOf R 0).length - 1 by omega, List.getElem?_eq_getElem hi]
      rw [h _ hm]
  · intro h p hp
    rw [h] at hp
    exact wanted_rest hp

section
variable (R : Nat → List Pc) (c : Nat → Int) (n : Nat → Nat) (out : List Pc)
noncomputable abbrev Wt (j : Nat) : List Pc := wantedOf (R j) (c j)
structure Inv : Prop where
  pos : ∀ j, 0 ≤ c j
  le : ∀ j, n j ≤ (Wt R c j).length
  past : ∀ j, ∀ p ∈ (Wt R c j).take (n j), p ∈ out
  fut : ∀ j, ∀ p ∈ (Wt R c j).drop (n j), p ∉ out
  nd : out.Nodup
noncomputable def rows' : List (List Pc) := [R 0, R 1, R 2]
noncomputable def sizes' : List Int := [c 0, c 1, c 2]
noncomputable def left' : List (List Pc) := [(R 0).drop (n 0), (R 1).drop (n 1), (R 2).drop (n 2)]
noncomputable def wants' : List (List Pc) := [Wt R c 0, Wt R c 1, Wt R c 2]
noncomputable def cnts' : List Nat := [n 0, n 1, n 2]
/-- p stands in no tail of a row that wants more -/
noncomputable def okp (p : Pc) : Bool := ([0, 1, 2] : List Nat).all fun i => !(decide (n i < (Wt R c i).length) && ((R i).drop (n i + 1)).contains p)
noncomputable def rdy (j : Nat) : List (Nat × Pc) := match (Wt R c j)[n j]? with
  | some p => if okp R c n p then [(j, p)] else []
  | none => []
noncomputable def rdys : List (Nat × Pc) := rdy R c n 0 ++ rdy R c n 1 ++ rdy R c n 2
noncomputable def endB (j : Nat) : Bool := decide (0 < c j) && n j == (Wt R c j).length
noncomputable def ends : List Nat := ([0, 1, 2] : List Nat).filter (endB R c n)
noncomputable def aliv (j : Nat) : Bool := decide (0 < c j) || decide (n j < (Wt R c j).length)
end
section
variable {R : Nat → List Pc} {c : Nat → Int} {n : Nat → Nat} {out : List Pc}
theorem left_get (j : Nat) (h : j < 3) : (left' R n).getD j [] = (R j).drop (n j) := by
  have : j = 0 ∨ j = 1 ∨ j = 2 := by omega
  rcases this with rfl | rfl | rfl <;> rfl
theorem alive_eq (I : Inv R c n out) (j : Nat) (h : j < 3) : aliveJ (sizes' c) (left' R n) j = aliv R c n j := by
  unfold aliveJ aliv
  rw [left_get j h]
  have hs : (sizes' c).getD j 0 = c j := by
    have : j = 0 ∨ j = 1 ∨ j = 2 := by omega
    rcases this with rfl | rfl | rfl <;> rfl
  rw [hs]
  have hp := I.pos j
  by_cases hc : c j = 0
  · rw [hc]
    have hle := I.le j
    unfold Wt at hle ⊢
    rw [hc] at hle ⊢
    have := total_left (R := R j) hle
    by_cases hz : n j = (wantedOf (R j) 0).length
    · have h0 := this.mpr hz
      rw [h0, hz]
      simp
    · have h0 : total ((R j).drop (n j)) ≠ 0 := fun e => hz (this.mp e)
      have h1 : n j < (wantedOf (R j) 0).length := by omega
      simp only [h1, decide_true, Bool.or_true]
      simp; omega
  · have h1 : 0 < c j := by omega
    simp only [h1, decide_true, Bool.true_or]
    have : c j + (total ((R j).drop (n j)) : Int) ≠ 0 := by omega
    simpa using this
/-- a row that wants more: its head -/
theorem head_of (j : Nat) {p : Pc} (h : (Wt R c j)[n j]? = some p) : (R j).drop (n j) = p :: (R j).drop (n j + 1) := by
  have hlt : n j < (Wt R c j).length := (List.getElem?_eq_some_iff.mp h).1
  have hR : (R j)[n j]? = some p := by
    unfold Wt at h hlt
    have e : (wantedOf (R j) (c j))[n j]? = ((R j).take (wantedOf (R j) (c j)).length)[n j]? := by rw [← wanted_pre]
    rw [e, List.getElem?_take_of_lt hlt] at h
    exact h
  obtain ⟨h1, h2⟩ := List.getElem?_eq_some_iff.mp hR
  rw [List.drop_eq_getElem_cons h1, h2]
theorem none_of (I : Inv R c n out) (j : Nat) (h : (Wt R c j)[n j]? = none) : n j = (Wt R c j).length := by
  have := List.getElem?_eq_none_iff.mp h
  have := I.le j
  omega
theorem ended_nil (I : Inv R c n out) (j : Nat) (h : (Wt R c j)[n j]? = none) (hc : 0 < c j) : (R j).drop (n j) = [] := by
  have h1 := none_of I j h
  unfold Wt at h1
  rw [wanted_all (by omega)] at h1
  rw [h1]
  exact List.drop_eq_nil_of_le (Nat.le_refl _)
theorem ends_eq (I : Inv R c n out) : tEnded (wants' R c) (sizes' c) (cnts' n) = ends R c n := by
  unfold tEnded ends
  have : List.range 3 = [0, 1, 2] := rfl
  rw [this]
  refine List.filter_congr fun j hj => ?_
  simp only [List.mem_cons, List.not_mem_nil, or_false] at hj
  rcases hj with rfl | rfl | rfl <;> rfl
theorem count_eq (I : Inv R c n out) (j : Nat) : ((Wt R c j).filter (out.contains ·)).length = n j := by
  have h1 : (Wt R c j) = (Wt R c j).take (n j) ++ (Wt R c j).drop (n j) := (List.take_append_drop ..).symm
  rw [h1, List.filter_append]
  have h2 : ((Wt R c j).take (n j)).filter (out.contains ·) = (Wt R c j).take (n j) := List.filter_eq_self.mpr fun p hp => by simpa using I.past j p hp
  have h3 : ((Wt R c j).drop (n j)).filter (out.contains ·) = [] := List.filter_eq_nil_iff.mpr fun p hp => by simpa using I.fut j p hp
  rw [h2, h3, List.append_nil, List.length_take]
  exact Nat.min_eq_left (I.le j)
theorem counts_eq (I : Inv R c n out) : tCounts (wants' R c) out = cnts' n := by
  have h0 := count_eq I 0
  have h1 := count_eq I 1
  have h2 := count_eq I 2
  simp only [tCounts, wants', cnts', List.map_cons, List.map_nil, h0, h1, h2]
end
end Mine

end

noncomputable section
set_option maxHeartbeats 1000000
namespace Mine
theorem mem_one {R W : List Pc} {q x : Pc} : x ∈ (R.zipIdx.flatMap fun z => if z.1 == q then W.take z.2 else []) ↔ ∃ t, R[t]? = some q ∧ x ∈ W.take t := by
  rw [List.mem_flatMap]
  constructor
  · rintro ⟨⟨a, t⟩, hz, hx⟩
    rw [List.mem_zipIdx_iff_getElem?] at hz
    simp only at hz hx
    by_cases e : (a == q) = true
    · rw [if_pos e] at hx
      rw [beq_iff_eq.mp e] at hz
      exact ⟨t, hz, hx⟩
    · rw [if_neg e] at hx; cases hx
  · rintro ⟨t, ht, hx⟩
    exact ⟨(q, t), List.mem_zipIdx_iff_getElem?.mpr ht, by simpa using hx⟩
section
variable {R : Nat → List Pc} {c : Nat → Int} {n : Nat → Nat} {out : List Pc}
theorem mem_ahead {q x : Pc} : x ∈ aheadOf (rows' R) (wants' R c) q ↔ ∃ i, i < 3 ∧ ∃ t, (R i)[t]? = some q ∧ x ∈ (Wt R c i).take t := by
  have e : aheadOf (rows' R) (wants' R c) q = ((R 0).zipIdx.flatMap fun z => if z.1 == q then (Wt R c 0).take z.2 else []) ++ (((R 1).zipIdx.flatMap fun z => if z.1 == q then (Wt R c 1).take z.2 else []) ++ (((R 2).zipIdx.flatMap fun z => if z.1 == q then (Wt R c 2).take z.2 else []) ++ [])) := rfl
  rw [e, List.mem_append, List.mem_append, List.mem_append, mem_one, mem_one, mem_one]
  constructor
  · rintro (h | h | h | h)
    · exact ⟨0, by decide, h⟩
    · exact ⟨1, by decide, h⟩
    · exact ⟨2, by decide, h⟩
    · cases h
  · rintro ⟨i, hi, h⟩
    have : i = 0 ∨ i = 1 ∨ i = 2 := by omega
    rcases this with rfl | rfl | rfl
    · exact .inl h
    · exact .inr (.inl h)
    · exact .inr (.inr (.inl h))
/-- the head of a row may come -/
theorem ahead_ok' (I : Inv R c n out) (p : Pc) : ((aheadOf (rows' R) (wants' R c) p).all (out.contains ·)) = okp R c n p := by
  rw [Bool.eq_iff_iff, List.all_eq_true]
  unfold okp
  rw [List.all_eq_true]
  constructor
  · intro h i hi
    have hi3 : i < 3 := by
      simp only [List.mem_cons, List.not_mem_nil, or_false] at hi
      omega
    rw [Bool.not_eq_true', Bool.and_eq_false_iff]
    by_cases hu : n i < (Wt R c i).length
    · right
      rw [Bool.eq_false_iff]
      intro hm
      have hm' : p ∈ (R i).drop (n i + 1) := by simpa using hm
      obtain ⟨t, ht⟩ := List.mem_iff_getElem?.mp hm'
      rw [List.getElem?_drop] at ht
      have hx : (Wt R c i)[n i] ∈ (Wt R c i).take (n i + 1 + t) := by
        refine List.mem_iff_getElem?.mpr ⟨n i, ?_⟩
        rw [List.getElem?_take_of_lt (by omega), List.getElem?_eq_getElem hu]
      have h1 := h _ (mem_ahead.mpr ⟨i, hi3, _, ht, hx⟩)
      have h2 : (Wt R c i)[n i] ∈ (Wt R c i).drop (n i) := by
        refine List.mem_iff_getElem?.mpr ⟨0, ?_⟩
        rw [List.getElem?_drop, Nat.add_zero, List.getElem?_eq_getElem hu]
      exact I.fut i _ h2 (by simpa using h1)
    · left; simpa using hu
  · intro h x hx
    obtain ⟨i, hi, t, ht, hxt⟩ := mem_ahead.mp hx
    have hi' : i ∈ ([0, 1, 2] : List Nat) := by
      have : i = 0 ∨ i = 1 ∨ i = 2 := by omega
      rcases this with rfl | rfl | rfl <;> decide
    have h1 := h i hi'
    rw [Bool.not_eq_true', Bool.and_eq_false_iff] at h1
    have hout : x ∈ (Wt R c i).take (n i) := by
      rcases h1 with h1 | h1
      · have h2 : n i = (Wt R c i).length := by
          have := I.le i
          have : ¬ n i < (Wt R c i).length := by simpa using h1
          omega
        rw [h2, List.take_length]
        exact List.mem_of_mem_take hxt
      · have hle : t ≤ n i := by
          refine Decidable.byContradiction fun hn => ?_
          have hm : p ∈ (R i).drop (n i + 1) := by
            refine List.mem_iff_getElem?.mpr ⟨t - (n i + 1), ?_⟩
            rw [List.getElem?_drop, show n i + 1 + (t - (n i + 1)) = t by omega]
            exact ht
          have : ((R i).drop (n i + 1)).contains p = true := by simpa using hm
          rw [this] at h1; cases h1
        exact List.take_subset_take_left _ hle hxt
    simpa using I.past i x hout
theorem row_ready (I : Inv R c n out) (j : Nat) (hj : j < 3) : ((Wt R c j).filter fun p => !out.contains p && (aheadOf (rows' R) (wants' R c) p).all (out.contains ·)).map (fun p => (j, p)) = rdy R c n j := by
  have h1 : (Wt R c j) = (Wt R c j).take (n j) ++ (Wt R c j).drop (n j) := (List.take_append_drop ..).symm
  rw [h1, List.filter_append]
  have h2 : (((Wt R c j).take (n j)).filter fun p => !out.contains p && (aheadOf (rows' R) (wants' R c) p).all (out.contains ·)) = [] := List.filter_eq_nil_iff.mpr fun p hp => by
    have : out.contains p = true := by simpa using I.past j p hp
    rw [this, Bool.not_true, Bool.false_and]
    exact Bool.false_ne_true
  rw [h2, List.nil_append]
  unfold rdy
  cases hq : (Wt R c j)[n j]? with
  | none =>
    rw [List.drop_eq_nil_of_le (List.getElem?_eq_none_iff.mp hq)]; rfl
  | some p =>
    obtain ⟨hlt, he⟩ := List.getElem?_eq_some_iff.mp hq
    have hd : (Wt R c j).drop (n j) = p :: (Wt R c j).drop (n j + 1) := by rw [List.drop_eq_getElem_cons hlt, he]
    have hp : p ∉ out := I.fut j p (by rw [hd]; exact .head _)
    have hp' : out.contains p = false := by simpa using hp
    rw [hd, List.filter_cons, hp', ahead_ok' I]
    have hrest : (((Wt R c j).drop (n j + 1)).filter fun p => !out.contains p && (aheadOf (rows' R) (wants' R c) p).all (out.contains ·)) = [] := List.filter_eq_nil_iff.mpr fun q hq' => by
      obtain ⟨t, ht⟩ := List.mem_iff_getElem?.mp hq'
      rw [List.getElem?_drop] at ht
      have hR : (R j)[n j + 1 + t]? = some q := by
        have hl := (List.getElem?_eq_some_iff.mp ht).1
        unfold Wt at ht hl
        have e : (wantedOf (R j) (c j))[n j + 1 + t]? = ((R j).take (wantedOf (R j) (c j)).length)[n j + 1 + t]? := by rw [← wanted_pre]
        rw [e, List.getElem?_take_of_lt hl] at ht
        exact ht
      have hm : p ∈ aheadOf (rows' R) (wants' R c) q := mem_ahead.mpr ⟨j, hj, _, hR, List.mem_iff_getElem?.mpr ⟨n j, by rw [List.getElem?_take_of_lt (by omega)]; exact hq⟩⟩
      rw [Bool.and_eq_true, List.all_eq_true]
      rintro ⟨_, h⟩
      have := h p hm
      rw [hp'] at this; cases this
    rw [hrest]
    show List.map (fun p => (j, p)) (if (!false && okp R c n p) = true then [p] else []) = if okp R c n p = true then [(j, p)] else []
    cases okp R c n p <;> rfl
theorem ready_eq (I : Inv R c n out) : tReady (tWaits (rows' R) (wants' R c)) out = rdys R c n := by
  have key : ∀ j, ((((Wt R c j).map fun piece => (j, piece, aheadOf (rows' R) (wants' R c) piece)).filter fun x => !out.contains x.2.1 && x.2.2.all (out.contains ·)).map fun x => (x.1, x.2.1)) = ((Wt R c j).filter fun p => !out.contains p && (aheadOf (rows' R) (wants' R c) p).all (out.contains ·)).map (fun p => (j, p)) := fun j => by
    rw [List.filter_map, List.map_map]; rfl
  have e : tWaits (rows' R) (wants' R c) = (((Wt R c 0).map fun piece => (0, piece, aheadOf (rows' R) (wants' R c) piece)) ++ ((Wt R c 1).map fun piece => (1, piece, aheadOf (rows' R) (wants' R c) piece))) ++ ((Wt R c 2).map fun piece => (2, piece, aheadOf (rows' R) (wants' R c) piece)) := by
    unfold tWaits
    rw [show List.range 3 = [0, 1, 2] from rfl]
    simp only [List.flatMap_cons, List.flatMap_nil, List.append_nil, List.append_assoc]
    rfl
  unfold tReady rdys
  rw [e, List.filter_append, List.filter_append, List.map_append, List.map_append, key 0, key 1, key 2, row_ready I 0 (by decide), row_ready I 1 (by decide), row_ready I 2 (by decide)]
end
end Mine

end

noncomputable section
set_option maxHeartbeats 4000000
namespace Mine
section
variable {R : Nat → List Pc} {c : Nat → Int} {n : Nat → Nat} {out : List Pc}
noncomputable def jsA (R : Nat → List Pc) (c : Nat → Int) (n : Nat → Nat) : List Nat := ([0, 1, 2] : List Nat).filter (aliv R c n)
theorem any_filter {α : Type} (p q : α → Bool) (l : List α) : (l.filter p).any q = l.any fun x => p x && q x := by rw [List.any_filter]
theorem tails_eq (I : Inv R c n out) (p : Pc) : tailsHave (left' R n) (jsA R c n) p = !okp R c n p := by
  unfold tailsHave jsA okp
  rw [any_filter, List.not_all_eq_any_not]
  have key : ∀ i, i < 3 → (aliv R c n i && ((((left' R n).getD i []).drop 1).contains p)) = !!(decide (n i < (Wt R c i).length) && ((R i).drop (n i + 1)).contains p) := fun i hi => by
    rw [left_get i hi, Bool.not_not, List.drop_drop]
    unfold aliv
    by_cases hu : n i < (Wt R c i).length
    · simp only [hu, decide_true, Bool.or_true, Bool.true_and]
    · simp only [hu, decide_false, Bool.or_false, Bool.false_and]
      by_cases hc : 0 < c i
      · have hq : (Wt R c i)[n i]? = none := List.getElem?_eq_none_iff.mpr (by omega)
        have h0 := ended_nil I i hq hc
        have : (R i).drop (n i + 1) = [] := by
          rw [← List.drop_drop, h0]; rfl
        rw [this]; simp
      · simp [hc]
  simp only [List.any_cons, List.any_nil, Bool.or_false, key 0 (by decide), key 1 (by decide), key 2 (by decide)]
/-- how a row stands -/
theorem stat (I : Inv R c n out) (j : Nat) (hj : j < 3) :
    (aliv R c n j = false ∧ endB R c n j = false ∧ rdy R c n j = []) ∨
    (aliv R c n j = true ∧ endB R c n j = true ∧ rdy R c n j = [] ∧ (left' R n).getD j [] = []) ∨
    (∃ p t, aliv R c n j = true ∧ endB R c n j = false ∧ rdy R c n j = [] ∧ (left' R n).getD j [] = p :: t ∧ tailsHave (left' R n) (jsA R c n) p = true) ∨
    ∃ p t, aliv R c n j = true ∧ endB R c n j = false ∧ rdy R c n j = [(j, p)] ∧ (left' R n).getD j [] = p :: t ∧ tailsHave (left' R n) (jsA R c n) p = false := by
  rw [left_get j hj]
  unfold rdy aliv endB
  cases hq : (Wt R c j)[n j]? with
  | none =>
    have h1 := none_of I j hq
    by_cases hc : 0 < c j
    · right; left
      refine ⟨by simp [hc], by simp [hc, h1], rfl, ended_nil I j hq hc⟩
    · left
      refine ⟨by simp [hc, h1], by simp [hc], rfl⟩
  | some p =>
    have hlt : n j < (Wt R c j).length := (List.getElem?_eq_some_iff.mp hq).1
    have hne : (n j == (Wt R c j).length) = false := by rw [beq_eq_false_iff_ne]; omega
    have hh := head_of (R := R) (c := c) (n := n) j hq
    right; right
    cases ho : okp R c n p with
    | false => left; exact ⟨p, _, by simp [hlt], by simp [hne], by simp [ho], hh, by rw [tails_eq I, ho]; rfl⟩
    | true => right; exact ⟨p, _, by simp [hlt], by simp [hne], by simp [ho], hh, by rw [tails_eq I, ho]; rfl⟩
noncomputable def scanR : List Nat → List (Nat × Pc) → Option (Option Pc)
  | [], [] => some none
  | [], x :: _ => some (some x.2)
  | _ :: _, [] => none
  | e :: _, x :: _ => if x.1 < e then some (some x.2) else none
theorem filt_no {al : Nat → Bool} {i : Nat} {r : List Nat} (h : al i = false) : (i :: r).filter al = r.filter al := List.filter_cons_of_neg (by rw [h]; exact Bool.false_ne_true)
theorem filt_yes {al : Nat → Bool} {i : Nat} {r : List Nat} (h : al i = true) : (i :: r).filter al = i :: r.filter al := List.filter_cons_of_pos h
noncomputable def RowSe (ls : List (List Pc)) (J : List Nat) (al en : Nat → Bool) (rd : Nat → List (Nat × Pc)) (j : Nat) : Prop :=
    (al j = false ∧ en j = false ∧ rd j = []) ∨ (al j = true ∧ en j = true ∧ rd j = [] ∧ ls.getD j [] = []) ∨
    (∃ p t, al j = true ∧ en j = false ∧ rd j = [] ∧ ls.getD j [] = p :: t ∧ tailsHave ls J p = true) ∨
    ∃ p t, al j = true ∧ en j = false ∧ rd j = [(j, p)] ∧ ls.getD j [] = p :: t ∧ tailsHave ls J p = false
theorem RowSe.fst {ls : List (List Pc)} {J : List Nat} {al en : Nat → Bool} {rd : Nat → List (Nat × Pc)} {j : Nat} (s : RowSe ls J al en rd j) {x : Nat × Pc} (h : x ∈ rd j) : x.1 = j := by
  rcases s with ⟨_, _, r0⟩ | ⟨_, _, r0, _⟩ | ⟨p, t, _, _, r0, _⟩ | ⟨p, t, _, _, r0, _⟩
  · rw [r0] at h; cases h
  · rw [r0] at h; cases h
  · rw [r0] at h; cases h
  · rw [r0] at h; rw [List.mem_singleton.mp h]
theorem search_gen {ls : List (List Pc)} {J : List Nat} {al en : Nat → Bool} {rd : Nat → List (Nat × Pc)} : ∀ {l : List Nat}, l.Pairwise (· < ·) → (∀ i ∈ l, RowSe ls J al en rd i) → search ls J (l.filter al) = scanR (l.filter en) (l.flatMap rd)
  | [], _, _ => rfl
  | i :: r, hp, hs => by
    have ih := search_gen (List.pairwise_cons.mp hp).2 fun j hj => hs j (.tail _ hj)
    have lt := (List.pairwise_cons.mp hp).1
    rcases hs i (.head _) with ⟨a, b, r0⟩ | ⟨a, b, r0, l0⟩ | ⟨p, t, a, b, r0, l0, h0⟩ | ⟨p, t, a, b, r0, l0, h0⟩
    · rw [filt_no a, filt_no b, List.flatMap_cons, r0, List.nil_append]; exact ih
    · rw [filt_yes a, filt_yes b, List.flatMap_cons, r0, List.nil_append, search, l0]
      cases hx : r.flatMap rd with
      | nil => rfl
      | cons x xs =>
        obtain ⟨j, hj, hm⟩ := List.mem_flatMap.mp (show x ∈ r.flatMap rd from hx ▸ .head _)
        have e := (hs j (.tail _ hj)).fst hm
        exact (if_neg (show ¬ x.1 < i from e ▸ Nat.lt_asymm (lt j hj))).symm
    · rw [filt_yes a, filt_no b, List.flatMap_cons, r0, List.nil_append, search, l0]
      exact (if_pos h0).trans ih
    · rw [filt_yes a, filt_no b, List.flatMap_cons, r0, search, l0]
      refine (if_neg (by rw [h0]; exact Bool.false_ne_true)).trans ?_
      cases he : r.filter en with
      | nil => rfl
      | cons e es => exact (if_pos (lt e ((List.mem_filter.mp (show e ∈ r.filter en from he ▸ .head _)).1))).symm
theorem search_aux (I : Inv R c n out) (J : List Nat) (hJ : J = jsA R c n) : search (left' R n) J (jsA R c n) = scanR (ends R c n) (rdys R c n) := by
  have h := search_gen (ls := left' R n) (J := J) (al := aliv R c n) (en := endB R c n) (rd := rdy R c n) (l := [0, 1, 2]) (by decide) fun i hi => by
    have := stat I i (by rcases hi with _ | ⟨_, _ | ⟨_, _ | ⟨_, hi⟩⟩⟩ <;> first | decide | cases hi)
    rw [hJ]; exact this
  have e : ([0, 1, 2] : List Nat).flatMap (rdy R c n) = rdys R c n := by
    unfold rdys
    rw [List.flatMap_cons, List.flatMap_cons, List.flatMap_cons, List.flatMap_nil, List.append_nil, List.append_assoc]
  rw [e] at h; exact h
end
end Mine

end

noncomputable section
set_option maxHeartbeats 4000000
namespace Mine
/-- before the first of these -/
noncomputable def befo (E : List Nat) (i : Nat) : Bool := match E with
  | [] => true
  | e :: _ => decide (i < e)
noncomputable def cutI (E : List Nat) (al : Nat → Bool) (p : Pc) (i : Nat) (m : List Pc) : List Pc := if al i && befo E i && m.head? == some p then m.tail else m
noncomputable def RowSt (al en : Nat → Bool) (i : Nat) (m : List Pc) : Prop := (al i = false ∧ en i = false) ∨ (al i = true ∧ en i = true ∧ m = []) ∨ ∃ q t, al i = true ∧ en i = false ∧ m = q :: t
theorem cut_dead {E : List Nat} {al : Nat → Bool} {p : Pc} {i : Nat} {m : List Pc} (h : al i = false) : cutI E al p i m = m := by
  unfold cutI; rw [h]; rfl
theorem cut_late {E : List Nat} {al : Nat → Bool} {p : Pc} {i : Nat} {m : List Pc} (h : befo E i = false) : cutI E al p i m = m := by
  unfold cutI; rw [h, Bool.and_false]; rfl
theorem cut_live {E : List Nat} {al : Nat → Bool} {p q : Pc} {i : Nat} {t : List Pc} (h : al i = true) (hb : befo E i = true) : cutI E al p i (q :: t) = if q == p then t else q :: t := by
  unfold cutI; rw [h, hb]; rfl
theorem befo_filt {en : Nat → Bool} {i : Nat} : ∀ {r : List Nat}, (∀ j ∈ r, i < j) → befo (r.filter en) i = true
  | [], _ => rfl
  | j :: r, h => by
    cases e : en j with
    | false => rw [filt_no e]; exact befo_filt fun k hk => h k (.tail _ hk)
    | true => rw [filt_yes e]; exact decide_eq_true (h j (.head _))
theorem rm_live {p q : Pc} {j : Nat} {r : List Nat} {ls : List (List Pc)} {t : List Pc} (h : ls.getD j [] = q :: t) (hs : ls.set j (q :: t) = ls) : remove p (j :: r) ls = remove p r (ls.set j (if q == p then t else q :: t)) := by
  rw [remove, h]
  show (if (q == p) = true then remove p r (ls.set j t) else remove p r ls) = _
  cases q == p with
  | true => rfl
  | false => exact congrArg (remove p r) hs.symm
section
variable {al en : Nat → Bool} {p : Pc} {x0 x1 m0 m1 m2 : List Pc}
theorem rm2 (s2 : RowSt al en 2 m2) : remove p (([2] : List Nat).filter al) [x0, x1, m2] = ((([2] : List Nat).filter en).isEmpty, [x0, x1, cutI (([2] : List Nat).filter en) al p 2 m2]) := by
  rcases s2 with ⟨a, b⟩ | ⟨a, b, rfl⟩ | ⟨q, t, a, b, rfl⟩
  · rw [filt_no a, filt_no b, cut_dead a]; rfl
  · rw [filt_yes a, filt_yes b, cut_late (i := 2) (E := 2 :: _) rfl]; rfl
  · rw [filt_yes a, filt_no b, cut_live a rfl, rm_live (q := q) (t := t) rfl rfl]; rfl
theorem rm1 (s1 : RowSt al en 1 m1) (s2 : RowSt al en 2 m2) : remove p (([1, 2] : List Nat).filter al) [x0, m1, m2] = ((([1, 2] : List Nat).filter en).isEmpty, [x0, cutI (([1, 2] : List Nat).filter en) al p 1 m1, cutI (([1, 2] : List Nat).filter en) al p 2 m2]) := by
  rcases s1 with ⟨a, b⟩ | ⟨a, b, rfl⟩ | ⟨q, t, a, b, rfl⟩
  · rw [filt_no a, filt_no b, cut_dead a, rm2 s2]
  · rw [filt_yes a, filt_yes b, cut_late (i := 1) (E := 1 :: _) rfl, cut_late (i := 2) (E := 1 :: _) rfl]; rfl
  · rw [filt_yes a, filt_no b, cut_live a (befo_filt (by decide)), rm_live (q := q) (t := t) rfl rfl]
    exact rm2 s2
end
theorem remove_aux (al en : Nat → Bool) (p : Pc) (m0 m1 m2 : List Pc)
    (s0 : (al 0 = false ∧ en 0 = false) ∨ (al 0 = true ∧ en 0 = true ∧ m0 = []) ∨ ∃ q t, al 0 = true ∧ en 0 = false ∧ m0 = q :: t)
    (s1 : (al 1 = false ∧ en 1 = false) ∨ (al 1 = true ∧ en 1 = true ∧ m1 = []) ∨ ∃ q t, al 1 = true ∧ en 1 = false ∧ m1 = q :: t)
    (s2 : (al 2 = false ∧ en 2 = false) ∨ (al 2 = true ∧ en 2 = true ∧ m2 = []) ∨ ∃ q t, al 2 = true ∧ en 2 = false ∧ m2 = q :: t) :
    remove p (([0, 1, 2] : List Nat).filter al) [m0, m1, m2] = ((([0, 1, 2] : List Nat).filter en).isEmpty, [cutI (([0, 1, 2] : List Nat).filter en) al p 0 m0, cutI (([0, 1, 2] : List Nat).filter en) al p 1 m1, cutI (([0, 1, 2] : List Nat).filter en) al p 2 m2]) := by
  rcases s0 with ⟨a, b⟩ | ⟨a, b, rfl⟩ | ⟨q, t, a, b, rfl⟩
  · rw [filt_no a, filt_no b, cut_dead a, rm1 s1 s2]
  · rw [filt_yes a, filt_yes b, cut_late (i := 0) (E := 0 :: _) rfl, cut_late (i := 1) (E := 0 :: _) rfl, cut_late (i := 2) (E := 0 :: _) rfl]; rfl
  · rw [filt_yes a, filt_no b, cut_live a (befo_filt (by decide)), rm_live (q := q) (t := t) rfl rfl]
    exact rm1 s1 s2
end Mine

end

noncomputable section
set_option maxHeartbeats 4000000
namespace Mine
section
variable {R : Nat → List Pc} {c : Nat → Int} {n : Nat → Nat} {out : List Pc}
/-- the counts when p has come out of the rows ahead of the first end -/
noncomputable def nextN (R : Nat → List Pc) (c : Nat → Int) (n : Nat → Nat) (E : List Nat) (p : Pc) (i : Nat) : Nat := n i + if befo E i && (Wt R c i)[n i]? == some p then 1 else 0
theorem rdy_mem {j : Nat} {x : Nat × Pc} (h : x ∈ rdy R c n j) : x.1 = j ∧ (Wt R c j)[n j]? = some x.2 ∧ okp R c n x.2 = true := by
  unfold rdy at h
  cases hq : (Wt R c j)[n j]? with
  | none => rw [hq] at h; cases h
  | some p =>
    rw [hq] at h
    simp only at h
    split at h
    · rename_i ho
      rw [List.mem_singleton.mp h]
      exact ⟨rfl, rfl, ho⟩
    · cases h
theorem rdys_mem {x : Nat × Pc} (h : x ∈ rdys R c n) : x.1 < 3 ∧ (Wt R c x.1)[n x.1]? = some x.2 ∧ okp R c n x.2 = true := by
  unfold rdys at h
  rcases List.mem_append.mp h with h | h
  · rcases List.mem_append.mp h with h | h
    · obtain ⟨a, b, d⟩ := rdy_mem h; rw [a]; exact ⟨by decide, b, d⟩
    · obtain ⟨a, b, d⟩ := rdy_mem h; rw [a]; exact ⟨by decide, b, d⟩
  · obtain ⟨a, b, d⟩ := rdy_mem h; rw [a]; exact ⟨by decide, b, d⟩
theorem ready_new (I : Inv R c n out) {j : Nat} {p : Pc} (h : (Wt R c j)[n j]? = some p) : p ∉ out := by
  refine I.fut j p (List.mem_iff_getElem?.mpr ⟨0, ?_⟩)
  rw [List.getElem?_drop]; exact h
/-- where a piece that may come stands in a row -/
theorem place_of (I : Inv R c n out) {p : Pc} (hp : p ∉ out) (ho : okp R c n p = true) {i : Nat} (hi : i < 3) : p ∈ (Wt R c i).drop (n i) ↔ (Wt R c i)[n i]? = some p := by
  constructor
  · intro h
    cases hq : (Wt R c i)[n i]? with
    | none => rw [List.drop_eq_nil_of_le (List.getElem?_eq_none_iff.mp hq)] at h; cases h
    | some q =>
      obtain ⟨hlt, he⟩ := List.getElem?_eq_some_iff.mp hq
      rw [List.drop_eq_getElem_cons hlt, he] at h
      rcases List.mem_cons.mp h with e | h
      · rw [e]
      · exfalso
        have hR : p ∈ (R i).drop (n i + 1) := by
          have : (Wt R c i).drop (n i + 1) = ((R i).take (Wt R c i).length).drop (n i + 1) := by rw [← wanted_pre]
          rw [this, List.drop_take] at h
          exact List.mem_of_mem_take h
        unfold okp at ho
        have hi' : i ∈ ([0, 1, 2] : List Nat) := by
          have : i = 0 ∨ i = 1 ∨ i = 2 := by omega
          rcases this with rfl | rfl | rfl <;> decide
        have := List.all_eq_true.mp ho i hi'
        have hc : ((R i).drop (n i + 1)).contains p = true := by simpa using hR
        simp only [hlt, decide_true, Bool.true_and, hc] at this
        cases this
  · intro h
    refine List.mem_iff_getElem?.mpr ⟨0, ?_⟩
    rw [List.getElem?_drop]; exact h
theorem in_row (I : Inv R c n out) {p : Pc} (hp : p ∉ out) (ho : okp R c n p = true) {i : Nat} (hi : i < 3) : (Wt R c i).contains p = ((Wt R c i)[n i]? == some p) := by
  rw [Bool.eq_iff_iff, beq_iff_eq, ← place_of I hp ho hi]
  have h1 : (Wt R c i) = (Wt R c i).take (n i) ++ (Wt R c i).drop (n i) := (List.take_append_drop ..).symm
  constructor
  · intro h
    have h' : p ∈ Wt R c i := by simpa using h
    rw [h1] at h'
    rcases List.mem_append.mp h' with h' | h'
    · exact absurd (I.past i p h') hp
    · exact h'
  · intro h
    have := List.mem_of_mem_drop h
    simpa using this
theorem inv_next (I : Inv R c n out) {p : Pc} (hp : p ∉ out) (ho : okp R c n p = true) (hR : ∀ i, 3 ≤ i → (Wt R c i) = []) : Inv R c (nextN R c n [] p) (out ++ [p]) := by
  refine ⟨I.pos, fun j => ?_, fun j q hq => ?_, fun j q hq => ?_, ?_⟩
  · unfold nextN befo
    simp only [Bool.true_and]
    split
    · rename_i h
      have := (List.getElem?_eq_some_iff.mp (beq_iff_eq.mp h)).1
      omega
    · have := I.le j; omega
  · unfold nextN befo at hq
    simp only [Bool.true_and] at hq
    split at hq
    · rename_i h
      rw [List.take_add_one, beq_iff_eq.mp h] at hq
      rcases List.mem_append.mp hq with hq | hq
      · exact List.mem_append_left _ (I.past j q hq)
      · rw [show q = p by simpa using hq]
        exact List.mem_append_right _ (.head _)
    · exact List.mem_append_left _ (I.past j q hq)
  · by_cases hj : j < 3
    · have hq0 : q ∈ (Wt R c j).drop (n j) := by
        unfold nextN at hq
        rw [← List.drop_drop] at hq
        exact List.mem_of_mem_drop hq
      intro hm
      rcases List.mem_append.mp hm with hm | hm
      · exact I.fut j q hq0 hm
      · have e : q = p := List.mem_singleton.mp hm
        subst e
        have h1 := (place_of I hp ho hj).mp hq0
        unfold nextN befo at hq
        rw [h1] at hq
        simp only [Bool.true_and, beq_self_eq_true, if_true] at hq
        have hlt := (List.getElem?_eq_some_iff.mp h1).1
        have hR' : q ∈ (R j).drop (n j + 1) := by
          have : (Wt R c j).drop (n j + 1) = ((R j).take (Wt R c j).length).drop (n j + 1) := by rw [← wanted_pre]
          rw [this, List.drop_take] at hq
          exact List.mem_of_mem_take hq
        unfold okp at ho
        have hi' : j ∈ ([0, 1, 2] : List Nat) := by
          have : j = 0 ∨ j = 1 ∨ j = 2 := by omega
          rcases this with rfl | rfl | rfl <;> decide
        have := List.all_eq_true.mp ho j hi'
        have hc : ((R j).drop (n j + 1)).contains q = true := by simpa using hR'
        simp only [hlt, decide_true, Bool.true_and, hc] at this
        cases this
    · rw [hR j (by omega)] at hq
      simp at hq
  · exact List.nodup_append.mpr ⟨I.nd, by simp, fun a ha b hb' e => hp (by rw [← List.mem_singleton.mp hb', ← e]; exact ha)⟩
theorem cut_eq (I : Inv R c n out) (E : List Nat) (p : Pc) (i : Nat) (hi : i < 3) : cutI E (aliv R c n) p i ((R i).drop (n i)) = (R i).drop (nextN R c n E p i) := by
  unfold cutI nextN
  cases hq : (Wt R c i)[n i]? with
  | some q =>
    have hlt := (List.getElem?_eq_some_iff.mp hq).1
    have ha : aliv R c n i = true := by unfold aliv; simp [hlt]
    rw [ha, head_of (c := c) i hq, Bool.true_and]
    show (if (befo E i && (some q == some p)) = true then (R i).drop (n i + 1) else q :: (R i).drop (n i + 1)) = _
    split
    · rfl
    · exact (head_of (c := c) i hq).symm
  | none =>
    have h0 : (none == some p : Bool) = false := rfl
    rw [h0, Bool.and_false]
    simp only [Bool.false_eq_true, if_false, Nat.add_zero]
    by_cases hc : 0 < c i
    · rw [ended_nil I i hq hc]; simp
    · have h1 := none_of I i hq
      have ha : aliv R c n i = false := by unfold aliv; simp [hc, h1]
      rw [ha]; simp
theorem remove_eq (I : Inv R c n out) (p : Pc) : remove p (jsA R c n) (left' R n) = ((ends R c n).isEmpty, left' R (nextN R c n (ends R c n) p)) := by
  have st : ∀ j, j < 3 → (aliv R c n j = false ∧ endB R c n j = false) ∨ (aliv R c n j = true ∧ endB R c n j = true ∧ (R j).drop (n j) = []) ∨ ∃ q t, aliv R c n j = true ∧ endB R c n j = false ∧ (R j).drop (n j) = q :: t := fun j hj => by
    have := stat I j hj
    rw [left_get j hj] at this
    rcases this with ⟨a, b, _⟩ | ⟨a, b, _, d⟩ | ⟨q, t, a, b, _, d, _⟩ | ⟨q, t, a, b, _, d, _⟩
    · exact .inl ⟨a, b⟩
    · exact .inr (.inl ⟨a, b, d⟩)
    · exact .inr (.inr ⟨q, t, a, b, d⟩)
    · exact .inr (.inr ⟨q, t, a, b, d⟩)
  have h := remove_aux (aliv R c n) (endB R c n) p _ _ _ (st 0 (by decide)) (st 1 (by decide)) (st 2 (by decide))
  unfold jsA ends left'
  rw [h]
  have e := fun i hi => cut_eq I (([0, 1, 2] : List Nat).filter (endB R c n)) p i hi
  rw [e 0 (by decide), e 1 (by decide), e 2 (by decide)]
theorem bump_eq (I : Inv R c n out) {e : Nat} {r : List Nat} {p : Pc} (hp : p ∉ out) (ho : okp R c n p = true) : tBump (wants' R c) e p (cnts' n) = cnts' (nextN R c n (e :: r) p) := by
  have h0 := in_row I hp ho (i := 0) (by decide)
  have h1 := in_row I hp ho (i := 1) (by decide)
  have h2 := in_row I hp ho (i := 2) (by decide)
  show [n 0 + (if decide (0 < e) && (Wt R c 0).contains p then 1 else 0), n 1 + (if decide (1 < e) && (Wt R c 1).contains p then 1 else 0), n 2 + (if decide (2 < e) && (Wt R c 2).contains p then 1 else 0)] = _
  rw [h0, h1, h2]; rfl
theorem aliv_next {p : Pc} {j : Nat} (h : aliv R c (nextN R c n [] p) j = true) : aliv R c n j = true := by
  unfold aliv at h ⊢
  simp only [Bool.or_eq_true, decide_eq_true_eq] at h ⊢
  rcases h with h | h
  · exact .inl h
  · right
    unfold nextN at h
    omega
end
end Mine

end

noncomputable section
set_option maxHeartbeats 4000000
namespace Mine
theorem merge_step (cs : List Int) (m : Nat) (js : List Nat) (ls : List (List Pc)) (out : List Pc) : merge cs (m + 1) js ls out = (match js.filter (aliveJ cs ls) with
    | [] => (("merged" : Str), out, ls)
    | j :: r => match search ls (j :: r) (j :: r) with
      | none => ("ended", [], ls)
      | some none => ("stuck", [], ls)
      | some (some p) => match remove p (j :: r) ls with
        | (false, ls') => ("ended", [], ls')
        | (true, ls') => merge cs m (j :: r) ls' (out ++ [p])) := rfl
theorem told_step (wanted : List (List Pc)) (sizes : List Int) (waits : List (Nat × Pc × List Pc)) (k : Nat) (out : List Pc) : toldFrom wanted sizes waits (k + 1) out = (match tEnded wanted sizes (tCounts wanted out), tReady waits out with
    | e :: _, (pl, p) :: _ => (("ended" : Str), [], if pl < e then tBump wanted e p (tCounts wanted out) else tCounts wanted out)
    | _ :: _, [] => ("ended", [], tCounts wanted out)
    | [], r => if tCounts wanted out == wanted.map List.length then ("merged", out, tCounts wanted out) else match r with
      | [] => ("stuck", [], tCounts wanted out)
      | (_, p) :: _ => toldFrom wanted sizes waits k (out ++ [p])) := rfl
section
variable {R : Nat → List Pc} {c : Nat → Int}
theorem js_filter {n : Nat → Nat} {out : List Pc} (I : Inv R c n out) {f : Nat → Bool} (hf : ∀ j, j < 3 → aliv R c n j = true → f j = true) : (([0, 1, 2] : List Nat).filter f).filter (aliveJ (sizes' c) (left' R n)) = jsA R c n := by
  rw [List.filter_filter]
  unfold jsA
  refine List.filter_congr fun j hj => ?_
  have hj3 : j < 3 := by
    simp only [List.mem_cons, List.not_mem_nil, or_false] at hj
    omega
  rw [alive_eq I j hj3]
  cases h : aliv R c n j with
  | false => rfl
  | true => rw [hf j hj3 h]; rfl
theorem all_out {n : Nat → Nat} {out : List Pc} (I : Inv R c n out) (he : ends R c n = []) : (cnts' n == (wants' R c).map List.length) = (jsA R c n).isEmpty := by
  have key : ∀ j, j < 3 → aliv R c n j = !(n j == (Wt R c j).length) := fun j hj => by
    have hle := I.le j
    have hen : endB R c n j = false := by
      have hm : j ∈ ([0, 1, 2] : List Nat) := by
        have : j = 0 ∨ j = 1 ∨ j = 2 := by omega
        rcases this with rfl | rfl | rfl <;> decide
      have := List.filter_eq_nil_iff.mp he j hm
      simpa using this
    unfold endB at hen
    unfold aliv
    by_cases hz : n j = (Wt R c j).length
    · have hb : (n j == (Wt R c j).length) = true := by rw [beq_iff_eq]; exact hz
      rw [hb] at hen ⊢
      simp only [Bool.and_true, decide_eq_false_iff_not] at hen
      have : ¬ n j < (Wt R c j).length := by omega
      simp [hen, this]
    · have hb : (n j == (Wt R c j).length) = false := by rw [beq_eq_false_iff_ne]; exact hz
      have : n j < (Wt R c j).length := by omega
      rw [hb]; simp [this]
  have k0 := key 0 (by decide)
  have k1 := key 1 (by decide)
  have k2 := key 2 (by decide)
  have e : (cnts' n == (wants' R c).map List.length) = ((n 0 == (Wt R c 0).length) && ((n 1 == (Wt R c 1).length) && ((n 2 == (Wt R c 2).length) && true))) := rfl
  rw [e]
  unfold jsA
  simp only [List.filter_cons, List.filter_nil, k0, k1, k2]
  cases (n 0 == (Wt R c 0).length) <;> cases (n 1 == (Wt R c 1).length) <;> cases (n 2 == (Wt R c 2).length) <;> rfl
theorem ends_js {n : Nat → Nat} (h : jsA R c n = []) : ends R c n = [] := by
  unfold ends
  refine List.filter_eq_nil_iff.mpr fun j hj => ?_
  have := List.filter_eq_nil_iff.mp h j hj
  unfold aliv at this
  unfold endB
  simp only [Bool.or_eq_true, decide_eq_true_eq, not_or] at this
  simp [this.1]
/-- the merge and what is told agree from every turn on -/
theorem agree_from (hR : ∀ i, 3 ≤ i → Wt R c i = []) : ∀ (k m : Nat) (n : Nat → Nat) (out : List Pc) (f : Nat → Bool), Inv R c n out → out.length + k = 10 → sumLen (left' R n) < m → (∀ j, j < 3 → aliv R c n j = true → f j = true) →
    ∃ (n' : Nat → Nat) (fa : Str) (o : List Pc), merge (sizes' c) m (([0, 1, 2] : List Nat).filter f) (left' R n) out = (fa, o, left' R n') ∧ toldFrom (wants' R c) (sizes' c) (tWaits (rows' R) (wants' R c)) k out = (fa, o, cnts' n') ∧ o.length ≤ 9
  | k, 0, n, out, f, _, _, hs, _ => absurd hs (Nat.not_lt_zero _)
  | k, m + 1, n, out, f, I, hk, hs, hf => by
    have hol : out.length ≤ 9 := by
      have := nodup_len out (List.finRange 9) I.nd fun x _ => List.mem_finRange x
      simpa using this
    obtain ⟨k, rfl⟩ : ∃ k', k = k' + 1 := ⟨k - 1, by omega⟩
    rw [merge_step, told_step, js_filter I hf, counts_eq I, ends_eq I, ready_eq I]
    have hse := search_aux I (jsA R c n) rfl
    have hao := all_out I
    have hrm := fun p => remove_eq I p
    have hrd : ∀ x ∈ rdys R c n, x.1 < 3 ∧ (Wt R c x.1)[n x.1]? = some x.2 ∧ okp R c n x.2 = true := fun x hx => rdys_mem hx
    cases hjs : jsA R c n with
    | nil =>
      have he := ends_js hjs
      have h1 := hao he
      rw [hjs] at h1
      rw [he, h1]
      exact ⟨n, "merged", out, rfl, rfl, hol⟩
    | cons j0 r0 =>
      rw [hjs] at hse
      simp only [hse]
      cases he : ends R c n with
      | nil =>
        have h1 := hao he
        rw [hjs] at h1
        rw [h1]
        cases hr : rdys R c n with
        | nil => exact ⟨n, "stuck", [], rfl, rfl, by simp⟩
        | cons x rs =>
          obtain ⟨pl, p⟩ := x
          obtain ⟨hx1, hx2, hx3⟩ := hrd (pl, p) (by rw [hr]; exact .head _)
          have hp : p ∉ out := ready_new I hx2
          have h2 := hrm p
          rw [he, hjs] at h2
          simp only [scanR, h2, List.isEmpty_nil, List.isEmpty_cons, Bool.false_eq_true, if_false]
          have hfound : ∃ j ∈ jsA R c n, ∃ t, (left' R n).getD j [] = p :: t := by
            refine search_found (js := jsA R c n) ?_
            rw [hjs, hse, he, hr]; rfl
          have hlt := remove_lt p (jsA R c n) (left' R n) hfound (by rw [hrm p, he]; rfl)
          rw [hrm p, he] at hlt
          have hjA : j0 :: r0 = ([0, 1, 2] : List Nat).filter (aliv R c n) := hjs.symm
          rw [hjA]
          exact agree_from hR k m (nextN R c n [] p) (out ++ [p]) (aliv R c n) (inv_next I hp hx3 hR) (by rw [List.length_append]; simp; omega) (by simp only at hlt; omega) (fun j _ h => aliv_next h)
      | cons e es =>
        cases hr : rdys R c n with
        | nil => exact ⟨n, "ended", [], rfl, rfl, by simp⟩
        | cons x rs =>
          obtain ⟨pl, p⟩ := x
          obtain ⟨hx1, hx2, hx3⟩ := hrd (pl, p) (by rw [hr]; exact .head _)
          have hp : p ∉ out := ready_new I hx2
          by_cases hlt : pl < e
          · have h2 := hrm p
            rw [he, hjs] at h2
            simp only [scanR, hlt, if_true, h2, List.isEmpty_cons]
            exact ⟨nextN R c n (e :: es) p, "ended", [], rfl, by rw [bump_eq (r := es) I hp hx3], by simp⟩
          · simp only [scanR, hlt, if_false]
            exact ⟨n, "ended", [], rfl, rfl, by simp⟩
  termination_by structural k m => m
end
theorem agree (R0 R1 R2 : List Pc) (c0 c1 c2 : Int) (h0 : 0 ≤ c0) (h1 : 0 ≤ c1) (h2 : 0 ≤ c2) : Agree [R0, R1, R2] [c0, c1, c2] := by
  let R : Nat → List Pc := fun j => ([R0, R1, R2] : List (List Pc)).getD j []
  let c : Nat → Int := fun j => ([c0, c1, c2] : List Int).getD j 0
  have hR : ∀ i, 3 ≤ i → Wt R c i = [] := fun i hi => by
    match i, hi with
    | i + 3, _ => rfl
  have I : Inv R c (fun _ => 0) [] := ⟨fun j => by
    match j with
    | 0 => exact h0
    | 1 => exact h1
    | 2 => exact h2
    | j + 3 => exact Int.le_refl 0, fun j => Nat.zero_le _, fun j p hp => by simp at hp, fun j p _ h => (nomatch h), List.nodup_nil⟩
  obtain ⟨n', fa, o, e1, e2, e3⟩ := agree_from hR 10 (sumLen [R0, R1, R2] + 1) (fun _ => 0) [] (fun _ => true) I rfl (Nat.lt_succ_self _) (fun _ _ _ => rfl)
  have e1' : merge [c0, c1, c2] (sumLen [R0, R1, R2] + 1) [0, 1, 2] [R0, R1, R2] [] = (fa, o, left' R n') := e1
  have e2' : toldOf [R0, R1, R2] [c0, c1, c2] = (fa, o, cnts' n') := e2
  refine ⟨?_, ?_, ?_, ?_, ?_⟩ <;> rw [e2'] <;> try rw [e1']
  · rfl
  · rfl
  · exact Nat.le_trans e3 (by decide)
theorem mathAg (dr : List Int) : Agree (rows3 dr) (sizes3 (leadOf dr)) := by
  obtain ⟨a, b, d, hs, ha, hb, hd⟩ := sizes3_eq (leadOf dr)
  rw [hs]
  exact agree _ _ _ _ _ _ ha.1 hb.1 hd.1
end Mine

end

noncomputable section
set_option maxHeartbeats 8000000
namespace Mine
noncomputable def vw : Program := view PySem.Challenge.pw_ny0091_01 [18]
noncomputable abbrev lo : List Str := [PySem.Str.ofString "_wall", PySem.Str.ofString "_initial_missing", PySem.Str.ofString "reduce", PySem.Str.ofString "_c3_merge", PySem.Str.ofString "EMPTYSTRING", PySem.Str.ofString "_Accumulator", PySem.Str.ofString "_law_piece", PySem.Str.ofString "_law_row", PySem.Str.ofString "_law_opened", PySem.Str.ofString "_law_pushed", PySem.Str.ofString "_law_run", PySem.Str.ofString "_law_wanted", PySem.Str.ofString "_law_ahead", PySem.Str.ofString "_law_told", PySem.Str.ofString "_law_joined"]
noncomputable abbrev hk : Hook := kmHook Mine.hp [2, 3, 15, 17, 18, 20, 21, 22, 23, 24, 26, 27, 29, 30, 31, 34, 35, 36, 39, 44, 45, 46, 48, 49, 51, 52, 53, 55, 56, 58, 59, 60, 61, 63, 64, 66, 67, 68, 70, 71, 73, 74, 75, 77, 78, 80, 81, 82, 84, 85, 87, 88, 89, 90, 92, 93, 95, 96, 97, 99, 100, 102, 103, 104, 105, 107, 108, 110, 111, 112, 113, 114, 115, 116, 119, 121, 122, 124, 125, 126, 129, 130, 131, 133, 134, 136, 137, 138, 140, 141, 143, 144, 145, 147, 148, 150, 151, 152, 154, 155, 157, 158, 159, 162, 163, 164, 167, 168, 169, 171, 172, 174, 175, 176, 179, 180] (fun _ => by kernel_rfl) [76, 83, 165]
noncomputable abbrev rr := PySem.Challenge.rw_ny0091_01.row
theorem left : LeftO rr.prog vw lo (fun s => xlAt vw [] s && recOk (RowW.records rr.toRowW) s) hk.obs hk.val 2008 := fun w => by
  kernel_rfl
end Mine

end

set_option maxHeartbeats 8000000 in
theorem PySem.Challenge.cw_ny0091_01_holds : PySem.Challenge.rw_ny0091_01.Holds := by
  w_on; refine holds_law (by kernel_rfl) fun said => ?_
  refine holds_open (q := Mine.vw) (loose := Mine.lo) (Xt := fun s => xlAt Mine.vw [] s && recOk (RowW.records Mine.rr.toRowW) s) (XP := XL Mine.vw []) (Yf := Mine.hk.obs) (Ya := Mine.hk.val) (YP := Mine.hk.says) (N := 2008) Mine.left (Hook.of Mine.hk) (Hook.keeps Mine.hk) (fun s e => xl_of s (Bool.and_eq_true_iff.mp e).1) XL.keeps (by rfl) (by rfl) (by rfl) (fun s e => recFacts_of (Bool.and_eq_true_iff.mp e).2) (by rfl) (by first | assumption | decide +kernel) (by decide +kernel) ⟨rfl, rfl, rfl, rfl, rfl, by decide +kernel⟩ ?hw ?hc
  (case hw => w_witness2)
  intro w s₀ s₁ mg mb G Y fa o pm cd doc dV kV ho hd hcd hD hmg hg args vals as hpre hlay hrd hwl hlo
  have KX := km_in_of Y
  have KT := km_tabs_of Y
  refine Ground.open G ?_
  intro T B D TE TW
  have M := bmod_of_top T
  have R : Mine.TR mg mb s₁.heap := ⟨T.g, T.b, T.nolimit, T.builtins⟩
  clear D B TE TW T
  have hfa : fa = 180 := by
    have h1 := (Mine.lib_of KX KT R M).find (x := "law") (v := some (.ref 180)) fun _ _ e => by cases e; rfl
    have h2 : mg "law" = some (.ref fa) := hmg
    rw [h2] at h1
    cases h1; rfl
  subst hfa
  wrow_args hpre hlay hrd hwl hlo
  rename_i ns _ _ _ _ _ _ _ l vs _ hL _ _ _ hI _ hc _
  refine Mine.law_entry KX KT R M hg hL hI (by omega) (Mine.mathAg _) Mine.mathWs fun s' h1 h2 h3 => ?_
  refine ⟨.inl ⟨.bool true, .bool true, [], rfl, fun _ => ?_, .bool _, ?_, fun _ => ⟨List.nodup_nil, fun a ha => nomatch ha⟩⟩, h1, h2, h3⟩
  · first | rfl | wrow_none_raised
  · first | rfl | wrow_post
