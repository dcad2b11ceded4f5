import PyProof.Rows.All
import PyProof.StrLawsLines
import PyProof.StrLawsReplace
import PyProof.StrLawsTight
import PyProof.Rows.StrNews2
import PyProof.FactsAll.str_8
import PyProof.IsiH_list
import KE.KFromBytes
import PyProof.Rows.ExtendIn
import Wide.All
import OpenK.AllK
import Wide.FinOn
import PySem.Challenge.RW_rw0036_01
set_option Elab.async false
set_option linter.unusedVariables false
set_option compiler.extract_closed false
namespace Mine
def Stop (p : Prop) : Prop := p
theorem stop {p : Prop} (h : Stop p) : p := h
end Mine
section THeadA
set_option maxRecDepth 100000
set_option linter.unusedVariables false
set_option maxHeartbeats 8000000
namespace Mine
abbrev lit {α : Type} {a : α} (x : α) (_ : a = x) : α := x
noncomputable abbrev stAt (n : Nat) : PySem.Stmt := ((PySem.W.behindTheImports PySem.Challenge.pw_rw0036_01).drop n).headD (.Pass (.mk 0 0 0 0))
noncomputable abbrev defArgs (s : PySem.Stmt) : PySem.Arguments := match s with | .FunctionDef _ a _ _ _ _ _ _ _ _ => a | _ => ⟨[], [], none, [], [], none, []⟩
noncomputable abbrev defBody (s : PySem.Stmt) : List PySem.Stmt := match s with | .FunctionDef _ _ b _ _ _ _ _ _ _ => b | _ => []
noncomputable abbrev defScope (s : PySem.Stmt) : PySem.Scope := match s with | .FunctionDef _ _ _ _ _ _ s _ _ _ => s | _ => PySem.Challenge.pw_rw0036_01.main.scope
noncomputable abbrev st_1 : PySem.Stmt := by
  apply lit (a := stAt 1)
  conv => lhs; whnf
noncomputable abbrev st_2 : PySem.Stmt := by
  apply lit (a := stAt 2)
  conv => lhs; whnf
noncomputable abbrev st_3 : PySem.Stmt := by
  apply lit (a := stAt 3)
  conv => lhs; whnf
noncomputable abbrev st_4 : PySem.Stmt := by
  apply lit (a := stAt 4)
  conv => lhs; whnf
noncomputable abbrev st_5 : PySem.Stmt := by
  apply lit (a := stAt 5)
  conv => lhs; whnf
noncomputable abbrev st_6 : PySem.Stmt := by
  apply lit (a := stAt 6)
  conv => lhs; whnf
noncomputable abbrev st_7 : PySem.Stmt := by
  apply lit (a := stAt 7)
  conv => lhs; whnf
noncomputable abbrev st_8 : PySem.Stmt := by
  apply lit (a := stAt 8)
  conv => lhs; whnf
noncomputable abbrev st_9 : PySem.Stmt := by
  apply lit (a := stAt 9)
  conv => lhs; whnf
noncomputable abbrev st_10 : PySem.Stmt := by
  apply lit (a := stAt 10)
  conv => lhs; whnf
noncomputable abbrev st_11 : PySem.Stmt := by
  apply lit (a := stAt 11)
  conv => lhs; whnf
noncomputable abbrev st_12 : PySem.Stmt := by
  apply lit (a := stAt 12)
  conv => lhs; whnf
noncomputable abbrev st_17 : PySem.Stmt := by
  apply lit (a := stAt 17)
  conv => lhs; whnf
noncomputable abbrev st_18 : PySem.Stmt := by
  apply lit (a := stAt 18)
  conv => lhs; whnf
noncomputable abbrev st_23 : PySem.Stmt := by
  apply lit (a := stAt 23)
  conv => lhs; whnf
noncomputable abbrev st_24 : PySem.Stmt := by
  apply lit (a := stAt 24)
  conv => lhs; whnf
noncomputable abbrev st_25 : PySem.Stmt := by
  apply lit (a := stAt 25)
  conv => lhs; whnf
noncomputable abbrev st_26 : PySem.Stmt := by
  apply lit (a := stAt 26)
  conv => lhs; whnf
noncomputable abbrev fa_3 : PySem.Arguments := by
  apply lit (a := defArgs (stAt 3))
  conv => lhs; whnf
noncomputable abbrev fb_3 : List PySem.Stmt := by
  apply lit (a := defBody (stAt 3))
  conv => lhs; whnf
noncomputable abbrev fs_3 : PySem.Scope := by
  apply lit (a := defScope (stAt 3))
  conv => lhs; whnf
noncomputable abbrev fa_17 : PySem.Arguments := by
  apply lit (a := defArgs (stAt 17))
  conv => lhs; whnf
noncomputable abbrev fb_17 : List PySem.Stmt := by
  apply lit (a := defBody (stAt 17))
  conv => lhs; whnf
noncomputable abbrev fs_17 : PySem.Scope := by
  apply lit (a := defScope (stAt 17))
  conv => lhs; whnf
noncomputable abbrev fa_21 : PySem.Arguments := by
  apply lit (a := defArgs (stAt 21))
  conv => lhs; whnf
noncomputable abbrev fb_21 : List PySem.Stmt := by
  apply lit (a := defBody (stAt 21))
  conv => lhs; whnf
noncomputable abbrev fs_21 : PySem.Scope := by
  apply lit (a := defScope (stAt 21))
  conv => lhs; whnf
noncomputable abbrev fa_23 : PySem.Arguments := by
  apply lit (a := defArgs (stAt 23))
  conv => lhs; whnf
noncomputable abbrev fb_23 : List PySem.Stmt := by
  apply lit (a := defBody (stAt 23))
  conv => lhs; whnf
noncomputable abbrev fs_23 : PySem.Scope := by
  apply lit (a := defScope (stAt 23))
  conv => lhs; whnf
noncomputable abbrev fa_24 : PySem.Arguments := by
  apply lit (a := defArgs (stAt 24))
  conv => lhs; whnf
noncomputable abbrev fb_24 : List PySem.Stmt := by
  apply lit (a := defBody (stAt 24))
  conv => lhs; whnf
noncomputable abbrev fs_24 : PySem.Scope := by
  apply lit (a := defScope (stAt 24))
  conv => lhs; whnf
noncomputable abbrev fa_25 : PySem.Arguments := by
  apply lit (a := defArgs (stAt 25))
  conv => lhs; whnf
noncomputable abbrev fb_25 : List PySem.Stmt := by
  apply lit (a := defBody (stAt 25))
  conv => lhs; whnf
noncomputable abbrev fs_25 : PySem.Scope := by
  apply lit (a := defScope (stAt 25))
  conv => lhs; whnf
noncomputable abbrev fa_26 : PySem.Arguments := by
  apply lit (a := defArgs (stAt 26))
  conv => lhs; whnf
noncomputable abbrev fb_26 : List PySem.Stmt := by
  apply lit (a := defBody (stAt 26))
  conv => lhs; whnf
noncomputable abbrev fs_26 : PySem.Scope := by
  apply lit (a := defScope (stAt 26))
  conv => lhs; whnf
noncomputable abbrev oz_2 (P : PySem.Params) : PySem.Obj := PySem.Obj.mk PySem.Value.none Option.none (PySem.Data.dict (List.toArray (PySem.DictEntry.mk (PySem.PyData.keyHash P (PySem.Str.ofString "type.__subclasses__.Exception.0")) (PySem.Value.str (PySem.Str.ofString "type.__subclasses__.Exception.0") 205) (PySem.Value.int 24 0) :: PySem.DictEntry.mk (PySem.PyData.keyHash P (PySem.Str.ofString "type.__subclasses__.Exception.n")) (PySem.Value.str (PySem.Str.ofString "type.__subclasses__.Exception.n") 206) (PySem.Value.int 1 0) :: [])) 2) #[]
noncomputable abbrev oz_3 (P : PySem.Params) : PySem.Obj := PySem.Obj.mk (PySem.Value.type "dict") Option.none (PySem.Data.dict (List.toArray (PySem.DictEntry.mk (PySem.PyData.keyHash P (PySem.Str.ofString "__name__")) (PySem.Value.str (PySem.Str.ofString "__name__") 165) (PySem.Value.str (PySem.Str.ofString "law_rw0036_01") 1812) :: PySem.DictEntry.mk (PySem.PyData.keyHash P (PySem.Str.ofString "__doc__")) (PySem.Value.str (PySem.Str.ofString "__doc__") 166) PySem.Value.none :: PySem.DictEntry.mk (PySem.PyData.keyHash P (PySem.Str.ofString "__package__")) (PySem.Value.str (PySem.Str.ofString "__package__") 167) PySem.Value.none :: PySem.DictEntry.mk (PySem.PyData.keyHash P (PySem.Str.ofString "__loader__")) (PySem.Value.str (PySem.Str.ofString "__loader__") 168) (PySem.Value.builtin "__main__.__loader__#opaque") :: PySem.DictEntry.mk (PySem.PyData.keyHash P (PySem.Str.ofString "__spec__")) (PySem.Value.str (PySem.Str.ofString "__spec__") 169) PySem.Value.none :: PySem.DictEntry.mk (PySem.PyData.keyHash P (PySem.Str.ofString "__annotations__")) (PySem.Value.str (PySem.Str.ofString "__annotations__") 170) (PySem.Value.ref 6) :: PySem.DictEntry.mk (PySem.PyData.keyHash P (PySem.Str.ofString "__builtins__")) (PySem.Value.str (PySem.Str.ofString "__builtins__") 171) (PySem.Value.ref 4) :: PySem.DictEntry.mk (PySem.PyData.keyHash P (PySem.Str.ofString "__file__")) (PySem.Value.str (PySem.Str.ofString "__file__") 173) (PySem.Value.str (PySem.Str.ofString "/claim/cut.py") 172) :: PySem.DictEntry.mk (PySem.PyData.keyHash P (PySem.Str.ofString "__cached__")) (PySem.Value.str (PySem.Str.ofString "__cached__") 174) PySem.Value.none :: PySem.DictEntry.mk (PySem.PyData.keyHash P (PySem.Str.ofString "Error")) (PySem.Value.str (PySem.Str.ofString "Error") 208) (PySem.Value.ref 24) :: PySem.DictEntry.mk (PySem.PyData.keyHash P (PySem.Str.ofString "error_reply")) (PySem.Value.str (PySem.Str.ofString "error_reply") 224) (PySem.Value.ref 37) :: PySem.DictEntry.mk (PySem.PyData.keyHash P (PySem.Str.ofString "parse257")) (PySem.Value.str (PySem.Str.ofString "parse257") 235) (PySem.Value.ref 46) :: PySem.DictEntry.mk (PySem.PyData.keyHash P (PySem.Str.ofString "CRLF")) (PySem.Value.str (PySem.Str.ofString "CRLF") 237) (PySem.Value.str (PySem.Str.ofString "\x0d\n") 236) :: PySem.DictEntry.mk (PySem.PyData.keyHash P (PySem.Str.ofString "NL")) (PySem.Value.str (PySem.Str.ofString "NL") 239) (PySem.Value.str (PySem.Str.ofString "\n") 238) :: PySem.DictEntry.mk (PySem.PyData.keyHash P (PySem.Str.ofString "_QUOPRI_MAP")) (PySem.Value.str (PySem.Str.ofString "_QUOPRI_MAP") 1267) (PySem.Value.ref 49) :: PySem.DictEntry.mk (PySem.PyData.keyHash P (PySem.Str.ofString "_QUOPRI_HEADER_MAP")) (PySem.Value.str (PySem.Str.ofString "_QUOPRI_HEADER_MAP") 1268) (PySem.Value.ref 54) :: PySem.DictEntry.mk (PySem.PyData.keyHash P (PySem.Str.ofString "_QUOPRI_BODY_MAP")) (PySem.Value.str (PySem.Str.ofString "_QUOPRI_BODY_MAP") 1269) (PySem.Value.ref 56) :: PySem.DictEntry.mk (PySem.PyData.keyHash P (PySem.Str.ofString "ascii_lowercase")) (PySem.Value.str (PySem.Str.ofString "ascii_lowercase") 1271) (PySem.Value.str (PySem.Str.ofString "abcdefghijklmnopqrstuvwxyz") 1270) :: PySem.DictEntry.mk (PySem.PyData.keyHash P (PySem.Str.ofString "ascii_uppercase")) (PySem.Value.str (PySem.Str.ofString "ascii_uppercase") 1273) (PySem.Value.str (PySem.Str.ofString "ABCDEFGHIJKLMNOPQRSTUVWXYZ") 1272) :: PySem.DictEntry.mk (PySem.PyData.keyHash P (PySem.Str.ofString "ascii_letters")) (PySem.Value.str (PySem.Str.ofString "ascii_letters") 1275) (PySem.Value.str (PySem.Str.ofString "abcdefghijklmnopqrstuvwxyzABCDEFGHIJKLMNOPQRSTUVWXYZ") 1274) :: PySem.DictEntry.mk (PySem.PyData.keyHash P (PySem.Str.ofString "digits")) (PySem.Value.str (PySem.Str.ofString "digits") 1277) (PySem.Value.str (PySem.Str.ofString "0123456789") 1276) :: PySem.DictEntry.mk (PySem.PyData.keyHash P (PySem.Str.ofString "quote")) (PySem.Value.str (PySem.Str.ofString "quote") 1783) (PySem.Value.ref 69) :: PySem.DictEntry.mk (PySem.PyData.keyHash P (PySem.Str.ofString "_QUOPRI_BODY_ENCODE_MAP")) (PySem.Value.str (PySem.Str.ofString "_QUOPRI_BODY_ENCODE_MAP") 1784) (PySem.Value.ref 71) :: PySem.DictEntry.mk (PySem.PyData.keyHash P (PySem.Str.ofString "body_encode")) (PySem.Value.str (PySem.Str.ofString "body_encode") 1811) (PySem.Value.ref 82) :: PySem.DictEntry.mk (PySem.PyData.keyHash P (PySem.Str.ofString "_law_written")) (PySem.Value.str (PySem.Str.ofString "_law_written") 1827) (PySem.Value.ref 89) :: PySem.DictEntry.mk (PySem.PyData.keyHash P (PySem.Str.ofString "_law_due")) (PySem.Value.str (PySem.Str.ofString "_law_due") 1833) (PySem.Value.ref 94) :: PySem.DictEntry.mk (PySem.PyData.keyHash P (PySem.Str.ofString "_law_heard")) (PySem.Value.str (PySem.Str.ofString "_law_heard") 1843) (PySem.Value.ref 101) :: PySem.DictEntry.mk (PySem.PyData.keyHash P (PySem.Str.ofString "law")) (PySem.Value.str (PySem.Str.ofString "law") 1849) (PySem.Value.ref 106) :: [])) 30) #[]
noncomputable abbrev oz_11 (P : PySem.Params) : PySem.Obj := PySem.Obj.mk (PySem.Value.type "tuple") Option.none (PySem.Data.seq #[]) #[]
noncomputable abbrev oz_12 (P : PySem.Params) : PySem.Obj := PySem.Obj.mk PySem.Value.none Option.none (PySem.Data.fields (List.toArray (PySem.Value.int 2 0 :: PySem.Value.int 0 0 :: PySem.Value.ref 20 :: PySem.Value.int 4 0 :: PySem.Value.int 0 0 :: PySem.Value.ref 33 :: PySem.Value.int 6 0 :: PySem.Value.int 0 0 :: PySem.Value.ref 45 :: PySem.Value.int 38 0 :: PySem.Value.int 0 0 :: PySem.Value.ref 68 :: PySem.Value.int 44 0 :: PySem.Value.int 0 0 :: PySem.Value.ref 81 :: PySem.Value.int 83 0 :: PySem.Value.int 0 0 :: PySem.Value.ref 88 :: PySem.Value.int 103 0 :: PySem.Value.int 0 0 :: PySem.Value.ref 93 :: PySem.Value.int 126 0 :: PySem.Value.int 0 0 :: PySem.Value.ref 100 :: PySem.Value.int 133 0 :: PySem.Value.int 0 0 :: PySem.Value.ref 105 :: []))) #[]
noncomputable abbrev oz_13 (P : PySem.Params) : PySem.Obj := PySem.Obj.mk (PySem.Value.type "code") Option.none (PySem.Data.fields (List.toArray (PySem.Value.str (PySem.Str.ofString "<module>") 182 :: PySem.Value.str (PySem.Str.ofString "<module>") 183 :: PySem.Value.str (PySem.Str.ofString "/claim/cut.py") 184 :: PySem.Value.int 1 0 :: PySem.Value.int 0 0 :: PySem.Value.int 0 0 :: PySem.Value.int 0 0 :: PySem.Value.int 0 0 :: PySem.Value.ref 11 :: PySem.Value.bool Bool.false :: PySem.Value.int 181 0 :: PySem.Value.ref 12 :: PySem.Value.none :: PySem.Value.none :: PySem.Value.none :: PySem.Value.none :: PySem.Value.int 185 0 :: PySem.Value.int 1 0 :: PySem.Value.str (PySem.Str.ofString "/claim/cut.py") 186 :: []))) #[]
noncomputable abbrev oz_14 (P : PySem.Params) : PySem.Obj := PySem.Obj.mk (PySem.Value.type "frame") Option.none PySem.Data.plain (List.toArray (Option.some (PySem.Value.ref 13) :: Option.some (PySem.Value.ref 3) :: Option.some (PySem.Value.ref 3) :: Option.none :: Option.some (PySem.Value.str (PySem.Str.ofString "__main__") 164) :: Option.none :: Option.some (PySem.Value.ref 0) :: []))
noncomputable abbrev oz_15 (P : PySem.Params) : PySem.Obj := PySem.Obj.mk (PySem.Value.type "tuple") Option.none (PySem.Data.seq (List.toArray (PySem.Value.type "Exception" :: []))) #[]
noncomputable abbrev oz_16 (P : PySem.Params) : PySem.Obj := PySem.Obj.mk (PySem.Value.type "builtin_function_or_method") Option.none (PySem.Data.fields (List.toArray (PySem.Value.builtin "type.__prepare__" :: PySem.Value.type "type" :: []))) #[]
noncomputable abbrev oz_17 (P : PySem.Params) : PySem.Obj := PySem.Obj.mk (PySem.Value.type "dict") Option.none (PySem.Data.dict (List.toArray (PySem.DictEntry.mk (PySem.PyData.keyHash P (PySem.Str.ofString "__module__")) (PySem.Value.str (PySem.Str.ofString "__module__") 196) (PySem.Value.str (PySem.Str.ofString "cpy313.ftplib") 187) :: PySem.DictEntry.mk (PySem.PyData.keyHash P (PySem.Str.ofString "__qualname__")) (PySem.Value.str (PySem.Str.ofString "__qualname__") 198) (PySem.Value.str (PySem.Str.ofString "Error") 197) :: PySem.DictEntry.mk (PySem.PyData.keyHash P (PySem.Str.ofString "__firstlineno__")) (PySem.Value.str (PySem.Str.ofString "__firstlineno__") 200) (PySem.Value.int 2 199) :: PySem.DictEntry.mk (PySem.PyData.keyHash P (PySem.Str.ofString "__static_attributes__")) (PySem.Value.str (PySem.Str.ofString "__static_attributes__") 201) (PySem.Value.ref 22) :: [])) 4) #[]
noncomputable abbrev oz_18 (P : PySem.Params) : PySem.Obj := PySem.Obj.mk (PySem.Value.type "tuple") Option.none (PySem.Data.seq #[]) #[]
noncomputable abbrev oz_19 (P : PySem.Params) : PySem.Obj := PySem.Obj.mk PySem.Value.none Option.none (PySem.Data.fields #[]) #[]
noncomputable abbrev oz_20 (P : PySem.Params) : PySem.Obj := PySem.Obj.mk (PySem.Value.type "code") Option.none (PySem.Data.fields (List.toArray (PySem.Value.str (PySem.Str.ofString "Error") 191 :: PySem.Value.str (PySem.Str.ofString "Error") 192 :: PySem.Value.str (PySem.Str.ofString "/claim/cut.py") 193 :: PySem.Value.int 2 0 :: PySem.Value.int 0 0 :: PySem.Value.int 0 0 :: PySem.Value.int 0 0 :: PySem.Value.int 0 0 :: PySem.Value.ref 18 :: PySem.Value.bool Bool.false :: PySem.Value.int 181 0 :: PySem.Value.ref 19 :: PySem.Value.none :: PySem.Value.none :: PySem.Value.none :: PySem.Value.none :: PySem.Value.int 194 0 :: PySem.Value.int 2 0 :: PySem.Value.str (PySem.Str.ofString "/claim/cut.py") 195 :: []))) #[]
noncomputable abbrev oz_21 (P : PySem.Params) : PySem.Obj := PySem.Obj.mk (PySem.Value.type "frame") Option.none PySem.Data.plain (List.toArray (Option.some (PySem.Value.ref 20) :: Option.some (PySem.Value.ref 3) :: Option.some (PySem.Value.ref 17) :: Option.none :: Option.some (PySem.Value.str (PySem.Str.ofString "cpy313.ftplib") 187) :: Option.none :: Option.some (PySem.Value.ref 0) :: []))
noncomputable abbrev oz_22 (P : PySem.Params) : PySem.Obj := PySem.Obj.mk (PySem.Value.type "tuple") Option.none (PySem.Data.seq #[]) #[]
noncomputable abbrev oz_23 (P : PySem.Params) : PySem.Obj := PySem.Obj.mk (PySem.Value.type "dict") Option.none (PySem.Data.dict (List.toArray (PySem.DictEntry.mk (PySem.PyData.keyHash P (PySem.Str.ofString "__module__")) (PySem.Value.str (PySem.Str.ofString "__module__") 196) (PySem.Value.str (PySem.Str.ofString "cpy313.ftplib") 187) :: PySem.DictEntry.mk (PySem.PyData.keyHash P (PySem.Str.ofString "__firstlineno__")) (PySem.Value.str (PySem.Str.ofString "__firstlineno__") 200) (PySem.Value.int 2 199) :: PySem.DictEntry.mk (PySem.PyData.keyHash P (PySem.Str.ofString "__static_attributes__")) (PySem.Value.str (PySem.Str.ofString "__static_attributes__") 201) (PySem.Value.ref 22) :: PySem.DictEntry.mk (PySem.PyData.keyHash P (PySem.Str.ofString "__weakref__")) (PySem.Value.str (PySem.Str.ofString "__weakref__") 203) (PySem.Value.ref 25) :: PySem.DictEntry.mk (PySem.PyData.keyHash P (PySem.Str.ofString "__doc__")) (PySem.Value.str (PySem.Str.ofString "__doc__") 204) PySem.Value.none :: [])) 3) #[]
noncomputable abbrev oz_24 (P : PySem.Params) : PySem.Obj := PySem.Obj.mk (PySem.Value.type "type") Option.none (PySem.Data.cls (PySem.ClassData.mk (PySem.Str.ofString "Error") (PySem.Value.type "Exception" :: []) (PySem.Value.ref 24 :: PySem.Value.type "Exception" :: PySem.Value.type "BaseException" :: PySem.Value.type "object" :: []) 23 (PySem.Str.ofString "Error") Bool.true [] (PySem.Value.ref 37 :: []) Bool.false Option.none Bool.false)) (List.toArray (Option.some (PySem.Value.ref 15) :: Option.none :: Option.some (PySem.Value.str (PySem.Str.ofString "Error") 189) :: Option.some (PySem.Value.str (PySem.Str.ofString "Error") 197) :: Option.some (PySem.Value.builtin "Exception.__new__") :: Option.some (PySem.Value.bool Bool.true) :: []))
noncomputable abbrev oz_25 (P : PySem.Params) : PySem.Obj := PySem.Obj.mk (PySem.Value.type "getset_descriptor") Option.none (PySem.Data.fields (List.toArray (PySem.Value.str (PySem.Str.ofString "__weakref__") 202 :: PySem.Value.ref 24 :: PySem.Value.builtin "ExceptionGroup.__weakref__" :: PySem.Value.none :: []))) #[]
noncomputable abbrev oz_26 (P : PySem.Params) : PySem.Obj := PySem.Obj.mk (PySem.Value.type "super") Option.none (PySem.Data.fields (List.toArray (PySem.Value.ref 24 :: PySem.Value.ref 24 :: PySem.Value.ref 24 :: []))) #[]
noncomputable abbrev oz_27 (P : PySem.Params) : PySem.Obj := PySem.Obj.mk (PySem.Value.type "builtin_function_or_method") Option.none (PySem.Data.fields (List.toArray (PySem.Value.builtin "object.__init_subclass__" :: PySem.Value.ref 24 :: []))) #[]
noncomputable abbrev oz_28 (P : PySem.Params) : PySem.Obj := PySem.Obj.mk (PySem.Value.type "tuple") Option.none (PySem.Data.seq (List.toArray (PySem.Value.ref 24 :: []))) #[]
noncomputable abbrev oz_29 (P : PySem.Params) : PySem.Obj := PySem.Obj.mk (PySem.Value.type "builtin_function_or_method") Option.none (PySem.Data.fields (List.toArray (PySem.Value.builtin "type.__prepare__" :: PySem.Value.type "type" :: []))) #[]
noncomputable abbrev oz_30 (P : PySem.Params) : PySem.Obj := PySem.Obj.mk (PySem.Value.type "dict") Option.none (PySem.Data.dict (List.toArray (PySem.DictEntry.mk (PySem.PyData.keyHash P (PySem.Str.ofString "__module__")) (PySem.Value.str (PySem.Str.ofString "__module__") 216) (PySem.Value.str (PySem.Str.ofString "cpy313.ftplib") 187) :: PySem.DictEntry.mk (PySem.PyData.keyHash P (PySem.Str.ofString "__qualname__")) (PySem.Value.str (PySem.Str.ofString "__qualname__") 218) (PySem.Value.str (PySem.Str.ofString "error_reply") 217) :: PySem.DictEntry.mk (PySem.PyData.keyHash P (PySem.Str.ofString "__firstlineno__")) (PySem.Value.str (PySem.Str.ofString "__firstlineno__") 220) (PySem.Value.int 4 219) :: PySem.DictEntry.mk (PySem.PyData.keyHash P (PySem.Str.ofString "__static_attributes__")) (PySem.Value.str (PySem.Str.ofString "__static_attributes__") 221) (PySem.Value.ref 35) :: [])) 4) #[]
noncomputable abbrev oz_31 (P : PySem.Params) : PySem.Obj := PySem.Obj.mk (PySem.Value.type "tuple") Option.none (PySem.Data.seq #[]) #[]
noncomputable abbrev oz_32 (P : PySem.Params) : PySem.Obj := PySem.Obj.mk PySem.Value.none Option.none (PySem.Data.fields #[]) #[]
noncomputable abbrev oz_33 (P : PySem.Params) : PySem.Obj := PySem.Obj.mk (PySem.Value.type "code") Option.none (PySem.Data.fields (List.toArray (PySem.Value.str (PySem.Str.ofString "error_reply") 211 :: PySem.Value.str (PySem.Str.ofString "error_reply") 212 :: PySem.Value.str (PySem.Str.ofString "/claim/cut.py") 213 :: PySem.Value.int 4 0 :: PySem.Value.int 0 0 :: PySem.Value.int 0 0 :: PySem.Value.int 0 0 :: PySem.Value.int 0 0 :: PySem.Value.ref 31 :: PySem.Value.bool Bool.false :: PySem.Value.int 181 0 :: PySem.Value.ref 32 :: PySem.Value.none :: PySem.Value.none :: PySem.Value.none :: PySem.Value.none :: PySem.Value.int 214 0 :: PySem.Value.int 4 0 :: PySem.Value.str (PySem.Str.ofString "/claim/cut.py") 215 :: []))) #[]
noncomputable abbrev oz_34 (P : PySem.Params) : PySem.Obj := PySem.Obj.mk (PySem.Value.type "frame") Option.none PySem.Data.plain (List.toArray (Option.some (PySem.Value.ref 33) :: Option.some (PySem.Value.ref 3) :: Option.some (PySem.Value.ref 30) :: Option.none :: Option.some (PySem.Value.str (PySem.Str.ofString "cpy313.ftplib") 187) :: Option.none :: Option.some (PySem.Value.ref 0) :: []))
noncomputable abbrev oz_35 (P : PySem.Params) : PySem.Obj := PySem.Obj.mk (PySem.Value.type "tuple") Option.none (PySem.Data.seq #[]) #[]
noncomputable abbrev oz_36 (P : PySem.Params) : PySem.Obj := PySem.Obj.mk (PySem.Value.type "dict") Option.none (PySem.Data.dict (List.toArray (PySem.DictEntry.mk (PySem.PyData.keyHash P (PySem.Str.ofString "__module__")) (PySem.Value.str (PySem.Str.ofString "__module__") 216) (PySem.Value.str (PySem.Str.ofString "cpy313.ftplib") 187) :: PySem.DictEntry.mk (PySem.PyData.keyHash P (PySem.Str.ofString "__firstlineno__")) (PySem.Value.str (PySem.Str.ofString "__firstlineno__") 220) (PySem.Value.int 4 219) :: PySem.DictEntry.mk (PySem.PyData.keyHash P (PySem.Str.ofString "__static_attributes__")) (PySem.Value.str (PySem.Str.ofString "__static_attributes__") 221) (PySem.Value.ref 35) :: PySem.DictEntry.mk (PySem.PyData.keyHash P (PySem.Str.ofString "__doc__")) (PySem.Value.str (PySem.Str.ofString "__doc__") 222) PySem.Value.none :: [])) 2) #[]
noncomputable abbrev oz_37 (P : PySem.Params) : PySem.Obj := PySem.Obj.mk (PySem.Value.type "type") Option.none (PySem.Data.cls (PySem.ClassData.mk (PySem.Str.ofString "error_reply") (PySem.Value.ref 24 :: []) (PySem.Value.ref 37 :: PySem.Value.ref 24 :: PySem.Value.type "Exception" :: PySem.Value.type "BaseException" :: PySem.Value.type "object" :: []) 36 (PySem.Str.ofString "error_reply") Bool.true [] [] Bool.false Option.none Bool.false)) (List.toArray (Option.some (PySem.Value.ref 28) :: Option.none :: Option.some (PySem.Value.str (PySem.Str.ofString "error_reply") 209) :: Option.some (PySem.Value.str (PySem.Str.ofString "error_reply") 217) :: Option.some (PySem.Value.builtin "Exception.__new__") :: Option.some (PySem.Value.bool Bool.true) :: []))
noncomputable abbrev oz_38 (P : PySem.Params) : PySem.Obj := PySem.Obj.mk (PySem.Value.type "super") Option.none (PySem.Data.fields (List.toArray (PySem.Value.ref 37 :: PySem.Value.ref 37 :: PySem.Value.ref 37 :: []))) #[]
noncomputable abbrev oz_39 (P : PySem.Params) : PySem.Obj := PySem.Obj.mk (PySem.Value.type "builtin_function_or_method") Option.none (PySem.Data.fields (List.toArray (PySem.Value.builtin "object.__init_subclass__" :: PySem.Value.ref 37 :: []))) #[]
noncomputable abbrev oz_40 (P : PySem.Params) : PySem.Obj := PySem.Obj.mk (PySem.Value.type "tuple") Option.none (PySem.Data.seq #[]) #[]
noncomputable abbrev oz_41 (P : PySem.Params) : PySem.Obj := PySem.Obj.mk PySem.Value.none Option.none (PySem.Data.fields #[]) #[]
noncomputable abbrev oz_42 (P : PySem.Params) : PySem.Obj := PySem.Obj.mk (PySem.Value.type "tuple") Option.none (PySem.Data.seq (List.toArray (PySem.Value.str (PySem.Str.ofString "resp") 228 :: PySem.Value.str (PySem.Str.ofString "dirname") 229 :: PySem.Value.str (PySem.Str.ofString "i") 230 :: PySem.Value.str (PySem.Str.ofString "n") 231 :: PySem.Value.str (PySem.Str.ofString "c") 232 :: []))) #[]
noncomputable abbrev oz_43 (P : PySem.Params) : PySem.Obj := PySem.Obj.mk (PySem.Value.type "tuple") Option.none (PySem.Data.seq #[]) #[]
noncomputable abbrev oz_44 (P : PySem.Params) : PySem.Obj := PySem.Obj.mk PySem.Value.none Option.none (PySem.Data.func (PySem.FuncData.mk (PySem.Str.ofString "parse257") (PySem.Str.ofString "parse257") fa_3 (PySem.FuncBody.stmts fb_3) fs_3 0 [] PySem.Value.none PySem.Value.none PySem.Value.none PySem.Value.none Option.none PySem.Value.none PySem.Value.none 0)) #[]
noncomputable abbrev oz_45 (P : PySem.Params) : PySem.Obj := PySem.Obj.mk (PySem.Value.type "code") Option.none (PySem.Data.fields (List.toArray (PySem.Value.str (PySem.Str.ofString "parse257") 225 :: PySem.Value.str (PySem.Str.ofString "parse257") 226 :: PySem.Value.str (PySem.Str.ofString "/claim/cut.py") 227 :: PySem.Value.int 6 0 :: PySem.Value.int 1 0 :: PySem.Value.int 0 0 :: PySem.Value.int 0 0 :: PySem.Value.int 3 0 :: PySem.Value.ref 40 :: PySem.Value.bool Bool.true :: PySem.Value.int 181 0 :: PySem.Value.ref 41 :: PySem.Value.none :: PySem.Value.ref 42 :: PySem.Value.ref 43 :: PySem.Value.ref 44 :: PySem.Value.int 233 0 :: PySem.Value.int 6 0 :: PySem.Value.str (PySem.Str.ofString "/claim/cut.py") 234 :: []))) #[]
noncomputable abbrev oz_46 (P : PySem.Params) : PySem.Obj := PySem.Obj.mk (PySem.Value.type "function") Option.none (PySem.Data.func (PySem.FuncData.mk (PySem.Str.ofString "parse257") (PySem.Str.ofString "parse257") fa_3 (PySem.FuncBody.stmts fb_3) fs_3 3 [] PySem.Value.none PySem.Value.none PySem.Value.none (PySem.Value.str (PySem.Str.ofString "cpy313.ftplib") 187) Option.none (PySem.Value.ref 45) PySem.Value.none 0)) #[]
noncomputable abbrev oz_47 (P : PySem.Params) : PySem.Obj := PySem.Obj.mk (PySem.Value.type "range") Option.none (PySem.Data.fields (List.toArray (PySem.Value.int 0 241 :: PySem.Value.int 256 240 :: PySem.Value.int 1 242 :: []))) #[]
noncomputable abbrev oz_48 (P : PySem.Params) : PySem.Obj := PySem.Obj.mk (PySem.Value.type "range_iterator") Option.none (PySem.Data.fields (List.toArray (PySem.Value.int 256 0 :: PySem.Value.int 0 0 :: PySem.Value.int 1 0 :: []))) #[]
noncomputable abbrev oz_49 (P : PySem.Params) : PySem.Obj := PySem.Obj.mk (PySem.Value.type "list") Option.none (PySem.Data.seq (List.toArray (PySem.Value.str (PySem.Str.ofString "=00") 246 :: PySem.Value.str (PySem.Str.ofString "=01") 250 :: PySem.Value.str (PySem.Str.ofString "=02") 254 :: PySem.Value.str (PySem.Str.ofString "=03") 258 :: PySem.Value.str (PySem.Str.ofString "=04") 262 :: PySem.Value.str (PySem.Str.ofString "=05") 266 :: PySem.Value.str (PySem.Str.ofString "=06") 270 :: PySem.Value.str (PySem.Str.ofString "=07") 274 :: PySem.Value.str (PySem.Str.ofString "=08") 278 :: PySem.Value.str (PySem.Str.ofString "=09") 282 :: PySem.Value.str (PySem.Str.ofString "=0A") 286 :: PySem.Value.str (PySem.Str.ofString "=0B") 290 :: PySem.Value.str (PySem.Str.ofString "=0C") 294 :: PySem.Value.str (PySem.Str.ofString "=0D") 298 :: PySem.Value.str (PySem.Str.ofString "=0E") 302 :: PySem.Value.str (PySem.Str.ofString "=0F") 306 :: PySem.Value.str (PySem.Str.ofString "=10") 310 :: PySem.Value.str (PySem.Str.ofString "=11") 314 :: PySem.Value.str (PySem.Str.ofString "=12") 318 :: PySem.Value.str (PySem.Str.ofString "=13") 322 :: PySem.Value.str (PySem.Str.ofString "=14") 326 :: PySem.Value.str (PySem.Str.ofString "=15") 330 :: PySem.Value.str (PySem.Str.ofString "=16") 334 :: PySem.Value.str (PySem.Str.ofString "=17") 338 :: PySem.Value.str (PySem.Str.ofString "=18") 342 :: PySem.Value.str (PySem.Str.ofString "=19") 346 :: PySem.Value.str (PySem.Str.ofString "=1A") 350 :: PySem.Value.str (PySem.Str.ofString "=1B") 354 :: PySem.Value.str (PySem.Str.ofString "=1C") 358 :: PySem.Value.str (PySem.Str.ofString "=1D") 362 :: PySem.Value.str (PySem.Str.ofString "=1E") 366 :: PySem.Value.str (PySem.Str.ofString "=1F") 370 :: PySem.Value.str (PySem.Str.ofString "=20") 374 :: PySem.Value.str (PySem.Str.ofString "=21") 378 :: PySem.Value.str (PySem.Str.ofString "=22") 382 :: PySem.Value.str (PySem.Str.ofString "=23") 386 :: PySem.Value.str (PySem.Str.ofString "=24") 390 :: PySem.Value.str (PySem.Str.ofString "=25") 394 :: PySem.Value.str (PySem.Str.ofString "=26") 398 :: PySem.Value.str (PySem.Str.ofString "=27") 402 :: PySem.Value.str (PySem.Str.ofString "=28") 406 :: PySem.Value.str (PySem.Str.ofString "=29") 410 :: PySem.Value.str (PySem.Str.ofString "=2A") 414 :: PySem.Value.str (PySem.Str.ofString "=2B") 418 :: PySem.Value.str (PySem.Str.ofString "=2C") 422 :: PySem.Value.str (PySem.Str.ofString "=2D") 426 :: PySem.Value.str (PySem.Str.ofString "=2E") 430 :: PySem.Value.str (PySem.Str.ofString "=2F") 434 :: PySem.Value.str (PySem.Str.ofString "=30") 438 :: PySem.Value.str (PySem.Str.ofString "=31") 442 :: PySem.Value.str (PySem.Str.ofString "=32") 446 :: PySem.Value.str (PySem.Str.ofString "=33") 450 :: PySem.Value.str (PySem.Str.ofString "=34") 454 :: PySem.Value.str (PySem.Str.ofString "=35") 458 :: PySem.Value.str (PySem.Str.ofString "=36") 462 :: PySem.Value.str (PySem.Str.ofString "=37") 466 :: PySem.Value.str (PySem.Str.ofString "=38") 470 :: PySem.Value.str (PySem.Str.ofString "=39") 474 :: PySem.Value.str (PySem.Str.ofString "=3A") 478 :: PySem.Value.str (PySem.Str.ofString "=3B") 482 :: PySem.Value.str (PySem.Str.ofString "=3C") 486 :: PySem.Value.str (PySem.Str.ofString "=3D") 490 :: PySem.Value.str (PySem.Str.ofString "=3E") 494 :: PySem.Value.str (PySem.Str.ofString "=3F") 498 :: PySem.Value.str (PySem.Str.ofString "=40") 502 :: PySem.Value.str (PySem.Str.ofString "=41") 506 :: PySem.Value.str (PySem.Str.ofString "=42") 510 :: PySem.Value.str (PySem.Str.ofString "=43") 514 :: PySem.Value.str (PySem.Str.ofString "=44") 518 :: PySem.Value.str (PySem.Str.ofString "=45") 522 :: PySem.Value.str (PySem.Str.ofString "=46") 526 :: PySem.Value.str (PySem.Str.ofString "=47") 530 :: PySem.Value.str (PySem.Str.ofString "=48") 534 :: PySem.Value.str (PySem.Str.ofString "=49") 538 :: PySem.Value.str (PySem.Str.ofString "=4A") 542 :: PySem.Value.str (PySem.Str.ofString "=4B") 546 :: PySem.Value.str (PySem.Str.ofString "=4C") 550 :: PySem.Value.str (PySem.Str.ofString "=4D") 554 :: PySem.Value.str (PySem.Str.ofString "=4E") 558 :: PySem.Value.str (PySem.Str.ofString "=4F") 562 :: PySem.Value.str (PySem.Str.ofString "=50") 566 :: PySem.Value.str (PySem.Str.ofString "=51") 570 :: PySem.Value.str (PySem.Str.ofString "=52") 574 :: PySem.Value.str (PySem.Str.ofString "=53") 578 :: PySem.Value.str (PySem.Str.ofString "=54") 582 :: PySem.Value.str (PySem.Str.ofString "=55") 586 :: PySem.Value.str (PySem.Str.ofString "=56") 590 :: PySem.Value.str (PySem.Str.ofString "=57") 594 :: PySem.Value.str (PySem.Str.ofString "=58") 598 :: PySem.Value.str (PySem.Str.ofString "=59") 602 :: PySem.Value.str (PySem.Str.ofString "=5A") 606 :: PySem.Value.str (PySem.Str.ofString "=5B") 610 :: PySem.Value.str (PySem.Str.ofString "=5C") 614 :: PySem.Value.str (PySem.Str.ofString "=5D") 618 :: PySem.Value.str (PySem.Str.ofString "=5E") 622 :: PySem.Value.str (PySem.Str.ofString "=5F") 626 :: PySem.Value.str (PySem.Str.ofString "=60") 630 :: PySem.Value.str (PySem.Str.ofString "=61") 634 :: PySem.Value.str (PySem.Str.ofString "=62") 638 :: PySem.Value.str (PySem.Str.ofString "=63") 642 :: PySem.Value.str (PySem.Str.ofString "=64") 646 :: PySem.Value.str (PySem.Str.ofString "=65") 650 :: PySem.Value.str (PySem.Str.ofString "=66") 654 :: PySem.Value.str (PySem.Str.ofString "=67") 658 :: PySem.Value.str (PySem.Str.ofString "=68") 662 :: PySem.Value.str (PySem.Str.ofString "=69") 666 :: PySem.Value.str (PySem.Str.ofString "=6A") 670 :: PySem.Value.str (PySem.Str.ofString "=6B") 674 :: PySem.Value.str (PySem.Str.ofString "=6C") 678 :: PySem.Value.str (PySem.Str.ofString "=6D") 682 :: PySem.Value.str (PySem.Str.ofString "=6E") 686 :: PySem.Value.str (PySem.Str.ofString "=6F") 690 :: PySem.Value.str (PySem.Str.ofString "=70") 694 :: PySem.Value.str (PySem.Str.ofString "=71") 698 :: PySem.Value.str (PySem.Str.ofString "=72") 702 :: PySem.Value.str (PySem.Str.ofString "=73") 706 :: PySem.Value.str (PySem.Str.ofString "=74") 710 :: PySem.Value.str (PySem.Str.ofString "=75") 714 :: PySem.Value.str (PySem.Str.ofString "=76") 718 :: PySem.Value.str (PySem.Str.ofString "=77") 722 :: PySem.Value.str (PySem.Str.ofString "=78") 726 :: PySem.Value.str (PySem.Str.ofString "=79") 730 :: PySem.Value.str (PySem.Str.ofString "=7A") 734 :: PySem.Value.str (PySem.Str.ofString "=7B") 738 :: PySem.Value.str (PySem.Str.ofString "=7C") 742 :: PySem.Value.str (PySem.Str.ofString "=7D") 746 :: PySem.Value.str (PySem.Str.ofString "=7E") 750 :: PySem.Value.str (PySem.Str.ofString "=7F") 754 :: PySem.Value.str (PySem.Str.ofString "=80") 758 :: PySem.Value.str (PySem.Str.ofString "=81") 762 :: PySem.Value.str (PySem.Str.ofString "=82") 766 :: PySem.Value.str (PySem.Str.ofString "=83") 770 :: PySem.Value.str (PySem.Str.ofString "=84") 774 :: PySem.Value.str (PySem.Str.ofString "=85") 778 :: PySem.Value.str (PySem.Str.ofString "=86") 782 :: PySem.Value.str (PySem.Str.ofString "=87") 786 :: PySem.Value.str (PySem.Str.ofString "=88") 790 :: PySem.Value.str (PySem.Str.ofString "=89") 794 :: PySem.Value.str (PySem.Str.ofString "=8A") 798 :: PySem.Value.str (PySem.Str.ofString "=8B") 802 :: PySem.Value.str (PySem.Str.ofString "=8C") 806 :: PySem.Value.str (PySem.Str.ofString "=8D") 810 :: PySem.Value.str (PySem.Str.ofString "=8E") 814 :: PySem.Value.str (PySem.Str.ofString "=8F") 818 :: PySem.Value.str (PySem.Str.ofString "=90") 822 :: PySem.Value.str (PySem.Str.ofString "=91") 826 :: PySem.Value.str (PySem.Str.ofString "=92") 830 :: PySem.Value.str (PySem.Str.ofString "=93") 834 :: PySem.Value.str (PySem.Str.ofString "=94") 838 :: PySem.Value.str (PySem.Str.ofString "=95") 842 :: PySem.Value.str (PySem.Str.ofString "=96") 846 :: PySem.Value.str (PySem.Str.ofString "=97") 850 :: PySem.Value.str (PySem.Str.ofString "=98") 854 :: PySem.Value.str (PySem.Str.ofString "=99") 858 :: PySem.Value.str (PySem.Str.ofString "=9A") 862 :: PySem.Value.str (PySem.Str.ofString "=9B") 866 :: PySem.Value.str (PySem.Str.ofString "=9C") 870 :: PySem.Value.str (PySem.Str.ofString "=9D") 874 :: PySem.Value.str (PySem.Str.ofString "=9E") 878 :: PySem.Value.str (PySem.Str.ofString "=9F") 882 :: PySem.Value.str (PySem.Str.ofString "=A0") 886 :: PySem.Value.str (PySem.Str.ofString "=A1") 890 :: PySem.Value.str (PySem.Str.ofString "=A2") 894 :: PySem.Value.str (PySem.Str.ofString "=A3") 898 :: PySem.Value.str (PySem.Str.ofString "=A4") 902 :: PySem.Value.str (PySem.Str.ofString "=A5") 906 :: PySem.Value.str (PySem.Str.ofString "=A6") 910 :: PySem.Value.str (PySem.Str.ofString "=A7") 914 :: PySem.Value.str (PySem.Str.ofString "=A8") 918 :: PySem.Value.str (PySem.Str.ofString "=A9") 922 :: PySem.Value.str (PySem.Str.ofString "=AA") 926 :: PySem.Value.str (PySem.Str.ofString "=AB") 930 :: PySem.Value.str (PySem.Str.ofString "=AC") 934 :: PySem.Value.str (PySem.Str.ofString "=AD") 938 :: PySem.Value.str (PySem.Str.ofString "=AE") 942 :: PySem.Value.str (PySem.Str.ofString "=AF") 946 :: PySem.Value.str (PySem.Str.ofString "=B0") 950 :: PySem.Value.str (PySem.Str.ofString "=B1") 954 :: PySem.Value.str (PySem.Str.ofString "=B2") 958 :: PySem.Value.str (PySem.Str.ofString "=B3") 962 :: PySem.Value.str (PySem.Str.ofString "=B4") 966 :: PySem.Value.str (PySem.Str.ofString "=B5") 970 :: PySem.Value.str (PySem.Str.ofString "=B6") 974 :: PySem.Value.str (PySem.Str.ofString "=B7") 978 :: PySem.Value.str (PySem.Str.ofString "=B8") 982 :: PySem.Value.str (PySem.Str.ofString "=B9") 986 :: PySem.Value.str (PySem.Str.ofString "=BA") 990 :: PySem.Value.str (PySem.Str.ofString "=BB") 994 :: PySem.Value.str (PySem.Str.ofString "=BC") 998 :: PySem.Value.str (PySem.Str.ofString "=BD") 1002 :: PySem.Value.str (PySem.Str.ofString "=BE") 1006 :: PySem.Value.str (PySem.Str.ofString "=BF") 1010 :: PySem.Value.str (PySem.Str.ofString "=C0") 1014 :: PySem.Value.str (PySem.Str.ofString "=C1") 1018 :: PySem.Value.str (PySem.Str.ofString "=C2") 1022 :: PySem.Value.str (PySem.Str.ofString "=C3") 1026 :: PySem.Value.str (PySem.Str.ofString "=C4") 1030 :: PySem.Value.str (PySem.Str.ofString "=C5") 1034 :: PySem.Value.str (PySem.Str.ofString "=C6") 1038 :: PySem.Value.str (PySem.Str.ofString "=C7") 1042 :: PySem.Value.str (PySem.Str.ofString "=C8") 1046 :: PySem.Value.str (PySem.Str.ofString "=C9") 1050 :: PySem.Value.str (PySem.Str.ofString "=CA") 1054 :: PySem.Value.str (PySem.Str.ofString "=CB") 1058 :: PySem.Value.str (PySem.Str.ofString "=CC") 1062 :: PySem.Value.str (PySem.Str.ofString "=CD") 1066 :: PySem.Value.str (PySem.Str.ofString "=CE") 1070 :: PySem.Value.str (PySem.Str.ofString "=CF") 1074 :: PySem.Value.str (PySem.Str.ofString "=D0") 1078 :: PySem.Value.str (PySem.Str.ofString "=D1") 1082 :: PySem.Value.str (PySem.Str.ofString "=D2") 1086 :: PySem.Value.str (PySem.Str.ofString "=D3") 1090 :: PySem.Value.str (PySem.Str.ofString "=D4") 1094 :: PySem.Value.str (PySem.Str.ofString "=D5") 1098 :: PySem.Value.str (PySem.Str.ofString "=D6") 1102 :: PySem.Value.str (PySem.Str.ofString "=D7") 1106 :: PySem.Value.str (PySem.Str.ofString "=D8") 1110 :: PySem.Value.str (PySem.Str.ofString "=D9") 1114 :: PySem.Value.str (PySem.Str.ofString "=DA") 1118 :: PySem.Value.str (PySem.Str.ofString "=DB") 1122 :: PySem.Value.str (PySem.Str.ofString "=DC") 1126 :: PySem.Value.str (PySem.Str.ofString "=DD") 1130 :: PySem.Value.str (PySem.Str.ofString "=DE") 1134 :: PySem.Value.str (PySem.Str.ofString "=DF") 1138 :: PySem.Value.str (PySem.Str.ofString "=E0") 1142 :: PySem.Value.str (PySem.Str.ofString "=E1") 1146 :: PySem.Value.str (PySem.Str.ofString "=E2") 1150 :: PySem.Value.str (PySem.Str.ofString "=E3") 1154 :: PySem.Value.str (PySem.Str.ofString "=E4") 1158 :: PySem.Value.str (PySem.Str.ofString "=E5") 1162 :: PySem.Value.str (PySem.Str.ofString "=E6") 1166 :: PySem.Value.str (PySem.Str.ofString "=E7") 1170 :: PySem.Value.str (PySem.Str.ofString "=E8") 1174 :: PySem.Value.str (PySem.Str.ofString "=E9") 1178 :: PySem.Value.str (PySem.Str.ofString "=EA") 1182 :: PySem.Value.str (PySem.Str.ofString "=EB") 1186 :: PySem.Value.str (PySem.Str.ofString "=EC") 1190 :: PySem.Value.str (PySem.Str.ofString "=ED") 1194 :: PySem.Value.str (PySem.Str.ofString "=EE") 1198 :: PySem.Value.str (PySem.Str.ofString "=EF") 1202 :: PySem.Value.str (PySem.Str.ofString "=F0") 1206 :: PySem.Value.str (PySem.Str.ofString "=F1") 1210 :: PySem.Value.str (PySem.Str.ofString "=F2") 1214 :: PySem.Value.str (PySem.Str.ofString "=F3") 1218 :: PySem.Value.str (PySem.Str.ofString "=F4") 1222 :: PySem.Value.str (PySem.Str.ofString "=F5") 1226 :: PySem.Value.str (PySem.Str.ofString "=F6") 1230 :: PySem.Value.str (PySem.Str.ofString "=F7") 1234 :: PySem.Value.str (PySem.Str.ofString "=F8") 1238 :: PySem.Value.str (PySem.Str.ofString "=F9") 1242 :: PySem.Value.str (PySem.Str.ofString "=FA") 1246 :: PySem.Value.str (PySem.Str.ofString "=FB") 1250 :: PySem.Value.str (PySem.Str.ofString "=FC") 1254 :: PySem.Value.str (PySem.Str.ofString "=FD") 1258 :: PySem.Value.str (PySem.Str.ofString "=FE") 1262 :: PySem.Value.str (PySem.Str.ofString "=FF") 1266 :: [])) 256) #[]
noncomputable abbrev oz_50 (P : PySem.Params) : PySem.Obj := PySem.Obj.mk (PySem.Value.type "dict") Option.none (PySem.Data.dict #[] 2) #[]
noncomputable abbrev oz_51 (P : PySem.Params) : PySem.Obj := PySem.Obj.mk (PySem.Value.type "tuple") Option.none (PySem.Data.seq #[]) #[]
noncomputable abbrev oz_52 (P : PySem.Params) : PySem.Obj := PySem.Obj.mk (PySem.Value.type "StopIteration") Option.none (PySem.Data.fields (List.toArray (PySem.Value.ref 51 :: PySem.Value.none :: PySem.Value.none :: PySem.Value.none :: PySem.Value.bool Bool.false :: PySem.Value.none :: []))) #[]
noncomputable abbrev oz_53 (P : PySem.Params) : PySem.Obj := PySem.Obj.mk (PySem.Value.type "slice") Option.none (PySem.Data.fields (List.toArray (PySem.Value.none :: PySem.Value.none :: PySem.Value.none :: []))) #[]
noncomputable abbrev oz_54 (P : PySem.Params) : PySem.Obj := PySem.Obj.mk (PySem.Value.type "list") Option.none (PySem.Data.seq (List.toArray (PySem.Value.str (PySem.Str.ofString "=00") 246 :: PySem.Value.str (PySem.Str.ofString "=01") 250 :: PySem.Value.str (PySem.Str.ofString "=02") 254 :: PySem.Value.str (PySem.Str.ofString "=03") 258 :: PySem.Value.str (PySem.Str.ofString "=04") 262 :: PySem.Value.str (PySem.Str.ofString "=05") 266 :: PySem.Value.str (PySem.Str.ofString "=06") 270 :: PySem.Value.str (PySem.Str.ofString "=07") 274 :: PySem.Value.str (PySem.Str.ofString "=08") 278 :: PySem.Value.str (PySem.Str.ofString "=09") 282 :: PySem.Value.str (PySem.Str.ofString "=0A") 286 :: PySem.Value.str (PySem.Str.ofString "=0B") 290 :: PySem.Value.str (PySem.Str.ofString "=0C") 294 :: PySem.Value.str (PySem.Str.ofString "=0D") 298 :: PySem.Value.str (PySem.Str.ofString "=0E") 302 :: PySem.Value.str (PySem.Str.ofString "=0F") 306 :: PySem.Value.str (PySem.Str.ofString "=10") 310 :: PySem.Value.str (PySem.Str.ofString "=11") 314 :: PySem.Value.str (PySem.Str.ofString "=12") 318 :: PySem.Value.str (PySem.Str.ofString "=13") 322 :: PySem.Value.str (PySem.Str.ofString "=14") 326 :: PySem.Value.str (PySem.Str.ofString "=15") 330 :: PySem.Value.str (PySem.Str.ofString "=16") 334 :: PySem.Value.str (PySem.Str.ofString "=17") 338 :: PySem.Value.str (PySem.Str.ofString "=18") 342 :: PySem.Value.str (PySem.Str.ofString "=19") 346 :: PySem.Value.str (PySem.Str.ofString "=1A") 350 :: PySem.Value.str (PySem.Str.ofString "=1B") 354 :: PySem.Value.str (PySem.Str.ofString "=1C") 358 :: PySem.Value.str (PySem.Str.ofString "=1D") 362 :: PySem.Value.str (PySem.Str.ofString "=1E") 366 :: PySem.Value.str (PySem.Str.ofString "=1F") 370 :: PySem.Value.str (PySem.Str.ofString "_") 1488 :: PySem.Value.str (PySem.Str.ofString "!") 1292 :: PySem.Value.str (PySem.Str.ofString "=22") 382 :: PySem.Value.str (PySem.Str.ofString "=23") 386 :: PySem.Value.str (PySem.Str.ofString "=24") 390 :: PySem.Value.str (PySem.Str.ofString "=25") 394 :: PySem.Value.str (PySem.Str.ofString "=26") 398 :: PySem.Value.str (PySem.Str.ofString "=27") 402 :: PySem.Value.str (PySem.Str.ofString "=28") 406 :: PySem.Value.str (PySem.Str.ofString "=29") 410 :: PySem.Value.str (PySem.Str.ofString "*") 1295 :: PySem.Value.str (PySem.Str.ofString "+") 1298 :: PySem.Value.str (PySem.Str.ofString "=2C") 422 :: PySem.Value.str (PySem.Str.ofString "-") 1289 :: PySem.Value.str (PySem.Str.ofString "=2E") 430 :: PySem.Value.str (PySem.Str.ofString "/") 1301 :: PySem.Value.str (PySem.Str.ofString "0") 1460 :: PySem.Value.str (PySem.Str.ofString "1") 1463 :: PySem.Value.str (PySem.Str.ofString "2") 1466 :: PySem.Value.str (PySem.Str.ofString "3") 1469 :: PySem.Value.str (PySem.Str.ofString "4") 1472 :: PySem.Value.str (PySem.Str.ofString "5") 1475 :: PySem.Value.str (PySem.Str.ofString "6") 1478 :: PySem.Value.str (PySem.Str.ofString "7") 1481 :: PySem.Value.str (PySem.Str.ofString "8") 1484 :: PySem.Value.str (PySem.Str.ofString "9") 1487 :: PySem.Value.str (PySem.Str.ofString "=3A") 478 :: PySem.Value.str (PySem.Str.ofString "=3B") 482 :: PySem.Value.str (PySem.Str.ofString "=3C") 486 :: PySem.Value.str (PySem.Str.ofString "=3D") 490 :: PySem.Value.str (PySem.Str.ofString "=3E") 494 :: PySem.Value.str (PySem.Str.ofString "=3F") 498 :: PySem.Value.str (PySem.Str.ofString "=40") 502 :: PySem.Value.str (PySem.Str.ofString "A") 1382 :: PySem.Value.str (PySem.Str.ofString "B") 1385 :: PySem.Value.str (PySem.Str.ofString "C") 1388 :: PySem.Value.str (PySem.Str.ofString "D") 1391 :: PySem.Value.str (PySem.Str.ofString "E") 1394 :: PySem.Value.str (PySem.Str.ofString "F") 1397 :: PySem.Value.str (PySem.Str.ofString "G") 1400 :: PySem.Value.str (PySem.Str.ofString "H") 1403 :: PySem.Value.str (PySem.Str.ofString "I") 1406 :: PySem.Value.str (PySem.Str.ofString "J") 1409 :: PySem.Value.str (PySem.Str.ofString "K") 1412 :: PySem.Value.str (PySem.Str.ofString "L") 1415 :: PySem.Value.str (PySem.Str.ofString "M") 1418 :: PySem.Value.str (PySem.Str.ofString "N") 1421 :: PySem.Value.str (PySem.Str.ofString "O") 1424 :: PySem.Value.str (PySem.Str.ofString "P") 1427 :: PySem.Value.str (PySem.Str.ofString "Q") 1430 :: PySem.Value.str (PySem.Str.ofString "R") 1433 :: PySem.Value.str (PySem.Str.ofString "S") 1436 :: PySem.Value.str (PySem.Str.ofString "T") 1439 :: PySem.Value.str (PySem.Str.ofString "U") 1442 :: PySem.Value.str (PySem.Str.ofString "V") 1445 :: PySem.Value.str (PySem.Str.ofString "W") 1448 :: PySem.Value.str (PySem.Str.ofString "X") 1451 :: PySem.Value.str (PySem.Str.ofString "Y") 1454 :: PySem.Value.str (PySem.Str.ofString "Z") 1457 :: PySem.Value.str (PySem.Str.ofString "=5B") 610 :: PySem.Value.str (PySem.Str.ofString "=5C") 614 :: PySem.Value.str (PySem.Str.ofString "=5D") 618 :: PySem.Value.str (PySem.Str.ofString "=5E") 622 :: PySem.Value.str (PySem.Str.ofString "=5F") 626 :: PySem.Value.str (PySem.Str.ofString "=60") 630 :: PySem.Value.str (PySem.Str.ofString "a") 1304 :: PySem.Value.str (PySem.Str.ofString "b") 1307 :: PySem.Value.str (PySem.Str.ofString "c") 1310 :: PySem.Value.str (PySem.Str.ofString "d") 1313 :: PySem.Value.str (PySem.Str.ofString "e") 1316 :: PySem.Value.str (PySem.Str.ofString "f") 1319 :: PySem.Value.str (PySem.Str.ofString "g") 1322 :: PySem.Value.str (PySem.Str.ofString "h") 1325 :: PySem.Value.str (PySem.Str.ofString "i") 1328 :: PySem.Value.str (PySem.Str.ofString "j") 1331 :: PySem.Value.str (PySem.Str.ofString "k") 1334 :: PySem.Value.str (PySem.Str.ofString "l") 1337 :: PySem.Value.str (PySem.Str.ofString "m") 1340 :: PySem.Value.str (PySem.Str.ofString "n") 1343 :: PySem.Value.str (PySem.Str.ofString "o") 1346 :: PySem.Value.str (PySem.Str.ofString "p") 1349 :: PySem.Value.str (PySem.Str.ofString "q") 1352 :: PySem.Value.str (PySem.Str.ofString "r") 1355 :: PySem.Value.str (PySem.Str.ofString "s") 1358 :: PySem.Value.str (PySem.Str.ofString "t") 1361 :: PySem.Value.str (PySem.Str.ofString "u") 1364 :: PySem.Value.str (PySem.Str.ofString "v") 1367 :: PySem.Value.str (PySem.Str.ofString "w") 1370 :: PySem.Value.str (PySem.Str.ofString "x") 1373 :: PySem.Value.str (PySem.Str.ofString "y") 1376 :: PySem.Value.str (PySem.Str.ofString "z") 1379 :: PySem.Value.str (PySem.Str.ofString "=7B") 738 :: PySem.Value.str (PySem.Str.ofString "=7C") 742 :: PySem.Value.str (PySem.Str.ofString "=7D") 746 :: PySem.Value.str (PySem.Str.ofString "=7E") 750 :: PySem.Value.str (PySem.Str.ofString "=7F") 754 :: PySem.Value.str (PySem.Str.ofString "=80") 758 :: PySem.Value.str (PySem.Str.ofString "=81") 762 :: PySem.Value.str (PySem.Str.ofString "=82") 766 :: PySem.Value.str (PySem.Str.ofString "=83") 770 :: PySem.Value.str (PySem.Str.ofString "=84") 774 :: PySem.Value.str (PySem.Str.ofString "=85") 778 :: PySem.Value.str (PySem.Str.ofString "=86") 782 :: PySem.Value.str (PySem.Str.ofString "=87") 786 :: PySem.Value.str (PySem.Str.ofString "=88") 790 :: PySem.Value.str (PySem.Str.ofString "=89") 794 :: PySem.Value.str (PySem.Str.ofString "=8A") 798 :: PySem.Value.str (PySem.Str.ofString "=8B") 802 :: PySem.Value.str (PySem.Str.ofString "=8C") 806 :: PySem.Value.str (PySem.Str.ofString "=8D") 810 :: PySem.Value.str (PySem.Str.ofString "=8E") 814 :: PySem.Value.str (PySem.Str.ofString "=8F") 818 :: PySem.Value.str (PySem.Str.ofString "=90") 822 :: PySem.Value.str (PySem.Str.ofString "=91") 826 :: PySem.Value.str (PySem.Str.ofString "=92") 830 :: PySem.Value.str (PySem.Str.ofString "=93") 834 :: PySem.Value.str (PySem.Str.ofString "=94") 838 :: PySem.Value.str (PySem.Str.ofString "=95") 842 :: PySem.Value.str (PySem.Str.ofString "=96") 846 :: PySem.Value.str (PySem.Str.ofString "=97") 850 :: PySem.Value.str (PySem.Str.ofString "=98") 854 :: PySem.Value.str (PySem.Str.ofString "=99") 858 :: PySem.Value.str (PySem.Str.ofString "=9A") 862 :: PySem.Value.str (PySem.Str.ofString "=9B") 866 :: PySem.Value.str (PySem.Str.ofString "=9C") 870 :: PySem.Value.str (PySem.Str.ofString "=9D") 874 :: PySem.Value.str (PySem.Str.ofString "=9E") 878 :: PySem.Value.str (PySem.Str.ofString "=9F") 882 :: PySem.Value.str (PySem.Str.ofString "=A0") 886 :: PySem.Value.str (PySem.Str.ofString "=A1") 890 :: PySem.Value.str (PySem.Str.ofString "=A2") 894 :: PySem.Value.str (PySem.Str.ofString "=A3") 898 :: PySem.Value.str (PySem.Str.ofString "=A4") 902 :: PySem.Value.str (PySem.Str.ofString "=A5") 906 :: PySem.Value.str (PySem.Str.ofString "=A6") 910 :: PySem.Value.str (PySem.Str.ofString "=A7") 914 :: PySem.Value.str (PySem.Str.ofString "=A8") 918 :: PySem.Value.str (PySem.Str.ofString "=A9") 922 :: PySem.Value.str (PySem.Str.ofString "=AA") 926 :: PySem.Value.str (PySem.Str.ofString "=AB") 930 :: PySem.Value.str (PySem.Str.ofString "=AC") 934 :: PySem.Value.str (PySem.Str.ofString "=AD") 938 :: PySem.Value.str (PySem.Str.ofString "=AE") 942 :: PySem.Value.str (PySem.Str.ofString "=AF") 946 :: PySem.Value.str (PySem.Str.ofString "=B0") 950 :: PySem.Value.str (PySem.Str.ofString "=B1") 954 :: PySem.Value.str (PySem.Str.ofString "=B2") 958 :: PySem.Value.str (PySem.Str.ofString "=B3") 962 :: PySem.Value.str (PySem.Str.ofString "=B4") 966 :: PySem.Value.str (PySem.Str.ofString "=B5") 970 :: PySem.Value.str (PySem.Str.ofString "=B6") 974 :: PySem.Value.str (PySem.Str.ofString "=B7") 978 :: PySem.Value.str (PySem.Str.ofString "=B8") 982 :: PySem.Value.str (PySem.Str.ofString "=B9") 986 :: PySem.Value.str (PySem.Str.ofString "=BA") 990 :: PySem.Value.str (PySem.Str.ofString "=BB") 994 :: PySem.Value.str (PySem.Str.ofString "=BC") 998 :: PySem.Value.str (PySem.Str.ofString "=BD") 1002 :: PySem.Value.str (PySem.Str.ofString "=BE") 1006 :: PySem.Value.str (PySem.Str.ofString "=BF") 1010 :: PySem.Value.str (PySem.Str.ofString "=C0") 1014 :: PySem.Value.str (PySem.Str.ofString "=C1") 1018 :: PySem.Value.str (PySem.Str.ofString "=C2") 1022 :: PySem.Value.str (PySem.Str.ofString "=C3") 1026 :: PySem.Value.str (PySem.Str.ofString "=C4") 1030 :: PySem.Value.str (PySem.Str.ofString "=C5") 1034 :: PySem.Value.str (PySem.Str.ofString "=C6") 1038 :: PySem.Value.str (PySem.Str.ofString "=C7") 1042 :: PySem.Value.str (PySem.Str.ofString "=C8") 1046 :: PySem.Value.str (PySem.Str.ofString "=C9") 1050 :: PySem.Value.str (PySem.Str.ofString "=CA") 1054 :: PySem.Value.str (PySem.Str.ofString "=CB") 1058 :: PySem.Value.str (PySem.Str.ofString "=CC") 1062 :: PySem.Value.str (PySem.Str.ofString "=CD") 1066 :: PySem.Value.str (PySem.Str.ofString "=CE") 1070 :: PySem.Value.str (PySem.Str.ofString "=CF") 1074 :: PySem.Value.str (PySem.Str.ofString "=D0") 1078 :: PySem.Value.str (PySem.Str.ofString "=D1") 1082 :: PySem.Value.str (PySem.Str.ofString "=D2") 1086 :: PySem.Value.str (PySem.Str.ofString "=D3") 1090 :: PySem.Value.str (PySem.Str.ofString "=D4") 1094 :: PySem.Value.str (PySem.Str.ofString "=D5") 1098 :: PySem.Value.str (PySem.Str.ofString "=D6") 1102 :: PySem.Value.str (PySem.Str.ofString "=D7") 1106 :: PySem.Value.str (PySem.Str.ofString "=D8") 1110 :: PySem.Value.str (PySem.Str.ofString "=D9") 1114 :: PySem.Value.str (PySem.Str.ofString "=DA") 1118 :: PySem.Value.str (PySem.Str.ofString "=DB") 1122 :: PySem.Value.str (PySem.Str.ofString "=DC") 1126 :: PySem.Value.str (PySem.Str.ofString "=DD") 1130 :: PySem.Value.str (PySem.Str.ofString "=DE") 1134 :: PySem.Value.str (PySem.Str.ofString "=DF") 1138 :: PySem.Value.str (PySem.Str.ofString "=E0") 1142 :: PySem.Value.str (PySem.Str.ofString "=E1") 1146 :: PySem.Value.str (PySem.Str.ofString "=E2") 1150 :: PySem.Value.str (PySem.Str.ofString "=E3") 1154 :: PySem.Value.str (PySem.Str.ofString "=E4") 1158 :: PySem.Value.str (PySem.Str.ofString "=E5") 1162 :: PySem.Value.str (PySem.Str.ofString "=E6") 1166 :: PySem.Value.str (PySem.Str.ofString "=E7") 1170 :: PySem.Value.str (PySem.Str.ofString "=E8") 1174 :: PySem.Value.str (PySem.Str.ofString "=E9") 1178 :: PySem.Value.str (PySem.Str.ofString "=EA") 1182 :: PySem.Value.str (PySem.Str.ofString "=EB") 1186 :: PySem.Value.str (PySem.Str.ofString "=EC") 1190 :: PySem.Value.str (PySem.Str.ofString "=ED") 1194 :: PySem.Value.str (PySem.Str.ofString "=EE") 1198 :: PySem.Value.str (PySem.Str.ofString "=EF") 1202 :: PySem.Value.str (PySem.Str.ofString "=F0") 1206 :: PySem.Value.str (PySem.Str.ofString "=F1") 1210 :: PySem.Value.str (PySem.Str.ofString "=F2") 1214 :: PySem.Value.str (PySem.Str.ofString "=F3") 1218 :: PySem.Value.str (PySem.Str.ofString "=F4") 1222 :: PySem.Value.str (PySem.Str.ofString "=F5") 1226 :: PySem.Value.str (PySem.Str.ofString "=F6") 1230 :: PySem.Value.str (PySem.Str.ofString "=F7") 1234 :: PySem.Value.str (PySem.Str.ofString "=F8") 1238 :: PySem.Value.str (PySem.Str.ofString "=F9") 1242 :: PySem.Value.str (PySem.Str.ofString "=FA") 1246 :: PySem.Value.str (PySem.Str.ofString "=FB") 1250 :: PySem.Value.str (PySem.Str.ofString "=FC") 1254 :: PySem.Value.str (PySem.Str.ofString "=FD") 1258 :: PySem.Value.str (PySem.Str.ofString "=FE") 1262 :: PySem.Value.str (PySem.Str.ofString "=FF") 1266 :: []))) #[]
noncomputable abbrev oz_55 (P : PySem.Params) : PySem.Obj := PySem.Obj.mk (PySem.Value.type "slice") Option.none (PySem.Data.fields (List.toArray (PySem.Value.none :: PySem.Value.none :: PySem.Value.none :: []))) #[]
noncomputable abbrev oz_56 (P : PySem.Params) : PySem.Obj := PySem.Obj.mk (PySem.Value.type "list") Option.none (PySem.Data.seq (List.toArray (PySem.Value.str (PySem.Str.ofString "=00") 246 :: PySem.Value.str (PySem.Str.ofString "=01") 250 :: PySem.Value.str (PySem.Str.ofString "=02") 254 :: PySem.Value.str (PySem.Str.ofString "=03") 258 :: PySem.Value.str (PySem.Str.ofString "=04") 262 :: PySem.Value.str (PySem.Str.ofString "=05") 266 :: PySem.Value.str (PySem.Str.ofString "=06") 270 :: PySem.Value.str (PySem.Str.ofString "=07") 274 :: PySem.Value.str (PySem.Str.ofString "=08") 278 :: PySem.Value.str (PySem.Str.ofString "\t") 1776 :: PySem.Value.str (PySem.Str.ofString "=0A") 286 :: PySem.Value.str (PySem.Str.ofString "=0B") 290 :: PySem.Value.str (PySem.Str.ofString "=0C") 294 :: PySem.Value.str (PySem.Str.ofString "=0D") 298 :: PySem.Value.str (PySem.Str.ofString "=0E") 302 :: PySem.Value.str (PySem.Str.ofString "=0F") 306 :: PySem.Value.str (PySem.Str.ofString "=10") 310 :: PySem.Value.str (PySem.Str.ofString "=11") 314 :: PySem.Value.str (PySem.Str.ofString "=12") 318 :: PySem.Value.str (PySem.Str.ofString "=13") 322 :: PySem.Value.str (PySem.Str.ofString "=14") 326 :: PySem.Value.str (PySem.Str.ofString "=15") 330 :: PySem.Value.str (PySem.Str.ofString "=16") 334 :: PySem.Value.str (PySem.Str.ofString "=17") 338 :: PySem.Value.str (PySem.Str.ofString "=18") 342 :: PySem.Value.str (PySem.Str.ofString "=19") 346 :: PySem.Value.str (PySem.Str.ofString "=1A") 350 :: PySem.Value.str (PySem.Str.ofString "=1B") 354 :: PySem.Value.str (PySem.Str.ofString "=1C") 358 :: PySem.Value.str (PySem.Str.ofString "=1D") 362 :: PySem.Value.str (PySem.Str.ofString "=1E") 366 :: PySem.Value.str (PySem.Str.ofString "=1F") 370 :: PySem.Value.str (PySem.Str.ofString " ") 1494 :: PySem.Value.str (PySem.Str.ofString "!") 1497 :: PySem.Value.str (PySem.Str.ofString "\"") 1500 :: PySem.Value.str (PySem.Str.ofString "#") 1503 :: PySem.Value.str (PySem.Str.ofString "$") 1506 :: PySem.Value.str (PySem.Str.ofString "%") 1509 :: PySem.Value.str (PySem.Str.ofString "&") 1512 :: PySem.Value.str (PySem.Str.ofString "'") 1515 :: PySem.Value.str (PySem.Str.ofString "(") 1518 :: PySem.Value.str (PySem.Str.ofString ")") 1521 :: PySem.Value.str (PySem.Str.ofString "*") 1524 :: PySem.Value.str (PySem.Str.ofString "+") 1527 :: PySem.Value.str (PySem.Str.ofString ",") 1530 :: PySem.Value.str (PySem.Str.ofString "-") 1533 :: PySem.Value.str (PySem.Str.ofString ".") 1536 :: PySem.Value.str (PySem.Str.ofString "/") 1539 :: PySem.Value.str (PySem.Str.ofString "0") 1542 :: PySem.Value.str (PySem.Str.ofString "1") 1545 :: PySem.Value.str (PySem.Str.ofString "2") 1548 :: PySem.Value.str (PySem.Str.ofString "3") 1551 :: PySem.Value.str (PySem.Str.ofString "4") 1554 :: PySem.Value.str (PySem.Str.ofString "5") 1557 :: PySem.Value.str (PySem.Str.ofString "6") 1560 :: PySem.Value.str (PySem.Str.ofString "7") 1563 :: PySem.Value.str (PySem.Str.ofString "8") 1566 :: PySem.Value.str (PySem.Str.ofString "9") 1569 :: PySem.Value.str (PySem.Str.ofString ":") 1572 :: PySem.Value.str (PySem.Str.ofString ";") 1575 :: PySem.Value.str (PySem.Str.ofString "<") 1578 :: PySem.Value.str (PySem.Str.ofString "=3D") 490 :: PySem.Value.str (PySem.Str.ofString ">") 1581 :: PySem.Value.str (PySem.Str.ofString "?") 1584 :: PySem.Value.str (PySem.Str.ofString "@") 1587 :: PySem.Value.str (PySem.Str.ofString "A") 1590 :: PySem.Value.str (PySem.Str.ofString "B") 1593 :: PySem.Value.str (PySem.Str.ofString "C") 1596 :: PySem.Value.str (PySem.Str.ofString "D") 1599 :: PySem.Value.str (PySem.Str.ofString "E") 1602 :: PySem.Value.str (PySem.Str.ofString "F") 1605 :: PySem.Value.str (PySem.Str.ofString "G") 1608 :: PySem.Value.str (PySem.Str.ofString "H") 1611 :: PySem.Value.str (PySem.Str.ofString "I") 1614 :: PySem.Value.str (PySem.Str.ofString "J") 1617 :: PySem.Value.str (PySem.Str.ofString "K") 1620 :: PySem.Value.str (PySem.Str.ofString "L") 1623 :: PySem.Value.str (PySem.Str.ofString "M") 1626 :: PySem.Value.str (PySem.Str.ofString "N") 1629 :: PySem.Value.str (PySem.Str.ofString "O") 1632 :: PySem.Value.str (PySem.Str.ofString "P") 1635 :: PySem.Value.str (PySem.Str.ofString "Q") 1638 :: PySem.Value.str (PySem.Str.ofString "R") 1641 :: PySem.Value.str (PySem.Str.ofString "S") 1644 :: PySem.Value.str (PySem.Str.ofString "T") 1647 :: PySem.Value.str (PySem.Str.ofString "U") 1650 :: PySem.Value.str (PySem.Str.ofString "V") 1653 :: PySem.Value.str (PySem.Str.ofString "W") 1656 :: PySem.Value.str (PySem.Str.ofString "X") 1659 :: PySem.Value.str (PySem.Str.ofString "Y") 1662 :: PySem.Value.str (PySem.Str.ofString "Z") 1665 :: PySem.Value.str (PySem.Str.ofString "[") 1668 :: PySem.Value.str (PySem.Str.ofString "\\") 1671 :: PySem.Value.str (PySem.Str.ofString "]") 1674 :: PySem.Value.str (PySem.Str.ofString "^") 1677 :: PySem.Value.str (PySem.Str.ofString "_") 1680 :: PySem.Value.str (PySem.Str.ofString "`") 1683 :: PySem.Value.str (PySem.Str.ofString "a") 1686 :: PySem.Value.str (PySem.Str.ofString "b") 1689 :: PySem.Value.str (PySem.Str.ofString "c") 1692 :: PySem.Value.str (PySem.Str.ofString "d") 1695 :: PySem.Value.str (PySem.Str.ofString "e") 1698 :: PySem.Value.str (PySem.Str.ofString "f") 1701 :: PySem.Value.str (PySem.Str.ofString "g") 1704 :: PySem.Value.str (PySem.Str.ofString "h") 1707 :: PySem.Value.str (PySem.Str.ofString "i") 1710 :: PySem.Value.str (PySem.Str.ofString "j") 1713 :: PySem.Value.str (PySem.Str.ofString "k") 1716 :: PySem.Value.str (PySem.Str.ofString "l") 1719 :: PySem.Value.str (PySem.Str.ofString "m") 1722 :: PySem.Value.str (PySem.Str.ofString "n") 1725 :: PySem.Value.str (PySem.Str.ofString "o") 1728 :: PySem.Value.str (PySem.Str.ofString "p") 1731 :: PySem.Value.str (PySem.Str.ofString "q") 1734 :: PySem.Value.str (PySem.Str.ofString "r") 1737 :: PySem.Value.str (PySem.Str.ofString "s") 1740 :: PySem.Value.str (PySem.Str.ofString "t") 1743 :: PySem.Value.str (PySem.Str.ofString "u") 1746 :: PySem.Value.str (PySem.Str.ofString "v") 1749 :: PySem.Value.str (PySem.Str.ofString "w") 1752 :: PySem.Value.str (PySem.Str.ofString "x") 1755 :: PySem.Value.str (PySem.Str.ofString "y") 1758 :: PySem.Value.str (PySem.Str.ofString "z") 1761 :: PySem.Value.str (PySem.Str.ofString "{") 1764 :: PySem.Value.str (PySem.Str.ofString "|") 1767 :: PySem.Value.str (PySem.Str.ofString "}") 1770 :: PySem.Value.str (PySem.Str.ofString "~") 1773 :: PySem.Value.str (PySem.Str.ofString "=7F") 754 :: PySem.Value.str (PySem.Str.ofString "=80") 758 :: PySem.Value.str (PySem.Str.ofString "=81") 762 :: PySem.Value.str (PySem.Str.ofString "=82") 766 :: PySem.Value.str (PySem.Str.ofString "=83") 770 :: PySem.Value.str (PySem.Str.ofString "=84") 774 :: PySem.Value.str (PySem.Str.ofString "=85") 778 :: PySem.Value.str (PySem.Str.ofString "=86") 782 :: PySem.Value.str (PySem.Str.ofString "=87") 786 :: PySem.Value.str (PySem.Str.ofString "=88") 790 :: PySem.Value.str (PySem.Str.ofString "=89") 794 :: PySem.Value.str (PySem.Str.ofString "=8A") 798 :: PySem.Value.str (PySem.Str.ofString "=8B") 802 :: PySem.Value.str (PySem.Str.ofString "=8C") 806 :: PySem.Value.str (PySem.Str.ofString "=8D") 810 :: PySem.Value.str (PySem.Str.ofString "=8E") 814 :: PySem.Value.str (PySem.Str.ofString "=8F") 818 :: PySem.Value.str (PySem.Str.ofString "=90") 822 :: PySem.Value.str (PySem.Str.ofString "=91") 826 :: PySem.Value.str (PySem.Str.ofString "=92") 830 :: PySem.Value.str (PySem.Str.ofString "=93") 834 :: PySem.Value.str (PySem.Str.ofString "=94") 838 :: PySem.Value.str (PySem.Str.ofString "=95") 842 :: PySem.Value.str (PySem.Str.ofString "=96") 846 :: PySem.Value.str (PySem.Str.ofString "=97") 850 :: PySem.Value.str (PySem.Str.ofString "=98") 854 :: PySem.Value.str (PySem.Str.ofString "=99") 858 :: PySem.Value.str (PySem.Str.ofString "=9A") 862 :: PySem.Value.str (PySem.Str.ofString "=9B") 866 :: PySem.Value.str (PySem.Str.ofString "=9C") 870 :: PySem.Value.str (PySem.Str.ofString "=9D") 874 :: PySem.Value.str (PySem.Str.ofString "=9E") 878 :: PySem.Value.str (PySem.Str.ofString "=9F") 882 :: PySem.Value.str (PySem.Str.ofString "=A0") 886 :: PySem.Value.str (PySem.Str.ofString "=A1") 890 :: PySem.Value.str (PySem.Str.ofString "=A2") 894 :: PySem.Value.str (PySem.Str.ofString "=A3") 898 :: PySem.Value.str (PySem.Str.ofString "=A4") 902 :: PySem.Value.str (PySem.Str.ofString "=A5") 906 :: PySem.Value.str (PySem.Str.ofString "=A6") 910 :: PySem.Value.str (PySem.Str.ofString "=A7") 914 :: PySem.Value.str (PySem.Str.ofString "=A8") 918 :: PySem.Value.str (PySem.Str.ofString "=A9") 922 :: PySem.Value.str (PySem.Str.ofString "=AA") 926 :: PySem.Value.str (PySem.Str.ofString "=AB") 930 :: PySem.Value.str (PySem.Str.ofString "=AC") 934 :: PySem.Value.str (PySem.Str.ofString "=AD") 938 :: PySem.Value.str (PySem.Str.ofString "=AE") 942 :: PySem.Value.str (PySem.Str.ofString "=AF") 946 :: PySem.Value.str (PySem.Str.ofString "=B0") 950 :: PySem.Value.str (PySem.Str.ofString "=B1") 954 :: PySem.Value.str (PySem.Str.ofString "=B2") 958 :: PySem.Value.str (PySem.Str.ofString "=B3") 962 :: PySem.Value.str (PySem.Str.ofString "=B4") 966 :: PySem.Value.str (PySem.Str.ofString "=B5") 970 :: PySem.Value.str (PySem.Str.ofString "=B6") 974 :: PySem.Value.str (PySem.Str.ofString "=B7") 978 :: PySem.Value.str (PySem.Str.ofString "=B8") 982 :: PySem.Value.str (PySem.Str.ofString "=B9") 986 :: PySem.Value.str (PySem.Str.ofString "=BA") 990 :: PySem.Value.str (PySem.Str.ofString "=BB") 994 :: PySem.Value.str (PySem.Str.ofString "=BC") 998 :: PySem.Value.str (PySem.Str.ofString "=BD") 1002 :: PySem.Value.str (PySem.Str.ofString "=BE") 1006 :: PySem.Value.str (PySem.Str.ofString "=BF") 1010 :: PySem.Value.str (PySem.Str.ofString "=C0") 1014 :: PySem.Value.str (PySem.Str.ofString "=C1") 1018 :: PySem.Value.str (PySem.Str.ofString "=C2") 1022 :: PySem.Value.str (PySem.Str.ofString "=C3") 1026 :: PySem.Value.str (PySem.Str.ofString "=C4") 1030 :: PySem.Value.str (PySem.Str.ofString "=C5") 1034 :: PySem.Value.str (PySem.Str.ofString "=C6") 1038 :: PySem.Value.str (PySem.Str.ofString "=C7") 1042 :: PySem.Value.str (PySem.Str.ofString "=C8") 1046 :: PySem.Value.str (PySem.Str.ofString "=C9") 1050 :: PySem.Value.str (PySem.Str.ofString "=CA") 1054 :: PySem.Value.str (PySem.Str.ofString "=CB") 1058 :: PySem.Value.str (PySem.Str.ofString "=CC") 1062 :: PySem.Value.str (PySem.Str.ofString "=CD") 1066 :: PySem.Value.str (PySem.Str.ofString "=CE") 1070 :: PySem.Value.str (PySem.Str.ofString "=CF") 1074 :: PySem.Value.str (PySem.Str.ofString "=D0") 1078 :: PySem.Value.str (PySem.Str.ofString "=D1") 1082 :: PySem.Value.str (PySem.Str.ofString "=D2") 1086 :: PySem.Value.str (PySem.Str.ofString "=D3") 1090 :: PySem.Value.str (PySem.Str.ofString "=D4") 1094 :: PySem.Value.str (PySem.Str.ofString "=D5") 1098 :: PySem.Value.str (PySem.Str.ofString "=D6") 1102 :: PySem.Value.str (PySem.Str.ofString "=D7") 1106 :: PySem.Value.str (PySem.Str.ofString "=D8") 1110 :: PySem.Value.str (PySem.Str.ofString "=D9") 1114 :: PySem.Value.str (PySem.Str.ofString "=DA") 1118 :: PySem.Value.str (PySem.Str.ofString "=DB") 1122 :: PySem.Value.str (PySem.Str.ofString "=DC") 1126 :: PySem.Value.str (PySem.Str.ofString "=DD") 1130 :: PySem.Value.str (PySem.Str.ofString "=DE") 1134 :: PySem.Value.str (PySem.Str.ofString "=DF") 1138 :: PySem.Value.str (PySem.Str.ofString "=E0") 1142 :: PySem.Value.str (PySem.Str.ofString "=E1") 1146 :: PySem.Value.str (PySem.Str.ofString "=E2") 1150 :: PySem.Value.str (PySem.Str.ofString "=E3") 1154 :: PySem.Value.str (PySem.Str.ofString "=E4") 1158 :: PySem.Value.str (PySem.Str.ofString "=E5") 1162 :: PySem.Value.str (PySem.Str.ofString "=E6") 1166 :: PySem.Value.str (PySem.Str.ofString "=E7") 1170 :: PySem.Value.str (PySem.Str.ofString "=E8") 1174 :: PySem.Value.str (PySem.Str.ofString "=E9") 1178 :: PySem.Value.str (PySem.Str.ofString "=EA") 1182 :: PySem.Value.str (PySem.Str.ofString "=EB") 1186 :: PySem.Value.str (PySem.Str.ofString "=EC") 1190 :: PySem.Value.str (PySem.Str.ofString "=ED") 1194 :: PySem.Value.str (PySem.Str.ofString "=EE") 1198 :: PySem.Value.str (PySem.Str.ofString "=EF") 1202 :: PySem.Value.str (PySem.Str.ofString "=F0") 1206 :: PySem.Value.str (PySem.Str.ofString "=F1") 1210 :: PySem.Value.str (PySem.Str.ofString "=F2") 1214 :: PySem.Value.str (PySem.Str.ofString "=F3") 1218 :: PySem.Value.str (PySem.Str.ofString "=F4") 1222 :: PySem.Value.str (PySem.Str.ofString "=F5") 1226 :: PySem.Value.str (PySem.Str.ofString "=F6") 1230 :: PySem.Value.str (PySem.Str.ofString "=F7") 1234 :: PySem.Value.str (PySem.Str.ofString "=F8") 1238 :: PySem.Value.str (PySem.Str.ofString "=F9") 1242 :: PySem.Value.str (PySem.Str.ofString "=FA") 1246 :: PySem.Value.str (PySem.Str.ofString "=FB") 1250 :: PySem.Value.str (PySem.Str.ofString "=FC") 1254 :: PySem.Value.str (PySem.Str.ofString "=FD") 1258 :: PySem.Value.str (PySem.Str.ofString "=FE") 1262 :: PySem.Value.str (PySem.Str.ofString "=FF") 1266 :: []))) #[]
noncomputable abbrev oz_57 (P : PySem.Params) : PySem.Obj := PySem.Obj.mk (PySem.Value.type "bytes_iterator") Option.none (PySem.Data.fields (List.toArray (PySem.Value.none :: PySem.Value.int 67 0 :: []))) #[]
noncomputable abbrev oz_58 (P : PySem.Params) : PySem.Obj := PySem.Obj.mk (PySem.Value.type "tuple") Option.none (PySem.Data.seq #[]) #[]
noncomputable abbrev oz_59 (P : PySem.Params) : PySem.Obj := PySem.Obj.mk (PySem.Value.type "StopIteration") Option.none (PySem.Data.fields (List.toArray (PySem.Value.ref 58 :: PySem.Value.none :: PySem.Value.none :: PySem.Value.none :: PySem.Value.bool Bool.false :: PySem.Value.none :: []))) #[]
noncomputable abbrev oz_60 (P : PySem.Params) : PySem.Obj := PySem.Obj.mk (PySem.Value.type "bytes_iterator") Option.none (PySem.Data.fields (List.toArray (PySem.Value.none :: PySem.Value.int 95 0 :: []))) #[]
noncomputable abbrev oz_61 (P : PySem.Params) : PySem.Obj := PySem.Obj.mk (PySem.Value.type "tuple") Option.none (PySem.Data.seq #[]) #[]
noncomputable abbrev oz_62 (P : PySem.Params) : PySem.Obj := PySem.Obj.mk (PySem.Value.type "StopIteration") Option.none (PySem.Data.fields (List.toArray (PySem.Value.ref 61 :: PySem.Value.none :: PySem.Value.none :: PySem.Value.none :: PySem.Value.bool Bool.false :: PySem.Value.none :: []))) #[]
noncomputable abbrev oz_63 (P : PySem.Params) : PySem.Obj := PySem.Obj.mk (PySem.Value.type "tuple") Option.none (PySem.Data.seq #[]) #[]
noncomputable abbrev oz_64 (P : PySem.Params) : PySem.Obj := PySem.Obj.mk PySem.Value.none Option.none (PySem.Data.fields #[]) #[]
noncomputable abbrev oz_65 (P : PySem.Params) : PySem.Obj := PySem.Obj.mk (PySem.Value.type "tuple") Option.none (PySem.Data.seq (List.toArray (PySem.Value.str (PySem.Str.ofString "c") 1780 :: []))) #[]
noncomputable abbrev oz_66 (P : PySem.Params) : PySem.Obj := PySem.Obj.mk (PySem.Value.type "tuple") Option.none (PySem.Data.seq #[]) #[]
noncomputable abbrev oz_67 (P : PySem.Params) : PySem.Obj := PySem.Obj.mk PySem.Value.none Option.none (PySem.Data.func (PySem.FuncData.mk (PySem.Str.ofString "quote") (PySem.Str.ofString "quote") fa_17 (PySem.FuncBody.stmts fb_17) fs_17 0 [] PySem.Value.none PySem.Value.none PySem.Value.none PySem.Value.none Option.none PySem.Value.none PySem.Value.none 0)) #[]
noncomputable abbrev oz_68 (P : PySem.Params) : PySem.Obj := PySem.Obj.mk (PySem.Value.type "code") Option.none (PySem.Data.fields (List.toArray (PySem.Value.str (PySem.Str.ofString "quote") 1777 :: PySem.Value.str (PySem.Str.ofString "quote") 1778 :: PySem.Value.str (PySem.Str.ofString "/claim/cut.py") 1779 :: PySem.Value.int 38 0 :: PySem.Value.int 1 0 :: PySem.Value.int 0 0 :: PySem.Value.int 0 0 :: PySem.Value.int 3 0 :: PySem.Value.ref 63 :: PySem.Value.bool Bool.true :: PySem.Value.int 181 0 :: PySem.Value.ref 64 :: PySem.Value.none :: PySem.Value.ref 65 :: PySem.Value.ref 66 :: PySem.Value.ref 67 :: PySem.Value.int 1781 0 :: PySem.Value.int 38 0 :: PySem.Value.str (PySem.Str.ofString "/claim/cut.py") 1782 :: []))) #[]
noncomputable abbrev oz_69 (P : PySem.Params) : PySem.Obj := PySem.Obj.mk (PySem.Value.type "function") Option.none (PySem.Data.func (PySem.FuncData.mk (PySem.Str.ofString "quote") (PySem.Str.ofString "quote") fa_17 (PySem.FuncBody.stmts fb_17) fs_17 3 [] PySem.Value.none PySem.Value.none PySem.Value.none (PySem.Value.str (PySem.Str.ofString "cpy313.email.quoprimime") 1278) Option.none (PySem.Value.ref 68) PySem.Value.none 0)) #[]
noncomputable abbrev oz_70 (P : PySem.Params) : PySem.Obj := PySem.Obj.mk (PySem.Value.type "slice") Option.none (PySem.Data.fields (List.toArray (PySem.Value.none :: PySem.Value.none :: PySem.Value.none :: []))) #[]
noncomputable abbrev oz_71 (P : PySem.Params) : PySem.Obj := PySem.Obj.mk (PySem.Value.type "list") Option.none (PySem.Data.seq (List.toArray (PySem.Value.str (PySem.Str.ofString "=00") 246 :: PySem.Value.str (PySem.Str.ofString "=01") 250 :: PySem.Value.str (PySem.Str.ofString "=02") 254 :: PySem.Value.str (PySem.Str.ofString "=03") 258 :: PySem.Value.str (PySem.Str.ofString "=04") 262 :: PySem.Value.str (PySem.Str.ofString "=05") 266 :: PySem.Value.str (PySem.Str.ofString "=06") 270 :: PySem.Value.str (PySem.Str.ofString "=07") 274 :: PySem.Value.str (PySem.Str.ofString "=08") 278 :: PySem.Value.str (PySem.Str.ofString "\t") 1776 :: PySem.Value.str (PySem.Str.ofString "\n") 1791 :: PySem.Value.str (PySem.Str.ofString "=0B") 290 :: PySem.Value.str (PySem.Str.ofString "=0C") 294 :: PySem.Value.str (PySem.Str.ofString "\x0d") 1788 :: PySem.Value.str (PySem.Str.ofString "=0E") 302 :: PySem.Value.str (PySem.Str.ofString "=0F") 306 :: PySem.Value.str (PySem.Str.ofString "=10") 310 :: PySem.Value.str (PySem.Str.ofString "=11") 314 :: PySem.Value.str (PySem.Str.ofString "=12") 318 :: PySem.Value.str (PySem.Str.ofString "=13") 322 :: PySem.Value.str (PySem.Str.ofString "=14") 326 :: PySem.Value.str (PySem.Str.ofString "=15") 330 :: PySem.Value.str (PySem.Str.ofString "=16") 334 :: PySem.Value.str (PySem.Str.ofString "=17") 338 :: PySem.Value.str (PySem.Str.ofString "=18") 342 :: PySem.Value.str (PySem.Str.ofString "=19") 346 :: PySem.Value.str (PySem.Str.ofString "=1A") 350 :: PySem.Value.str (PySem.Str.ofString "=1B") 354 :: PySem.Value.str (PySem.Str.ofString "=1C") 358 :: PySem.Value.str (PySem.Str.ofString "=1D") 362 :: PySem.Value.str (PySem.Str.ofString "=1E") 366 :: PySem.Value.str (PySem.Str.ofString "=1F") 370 :: PySem.Value.str (PySem.Str.ofString " ") 1494 :: PySem.Value.str (PySem.Str.ofString "!") 1497 :: PySem.Value.str (PySem.Str.ofString "\"") 1500 :: PySem.Value.str (PySem.Str.ofString "#") 1503 :: PySem.Value.str (PySem.Str.ofString "$") 1506 :: PySem.Value.str (PySem.Str.ofString "%") 1509 :: PySem.Value.str (PySem.Str.ofString "&") 1512 :: PySem.Value.str (PySem.Str.ofString "'") 1515 :: PySem.Value.str (PySem.Str.ofString "(") 1518 :: PySem.Value.str (PySem.Str.ofString ")") 1521 :: PySem.Value.str (PySem.Str.ofString "*") 1524 :: PySem.Value.str (PySem.Str.ofString "+") 1527 :: PySem.Value.str (PySem.Str.ofString ",") 1530 :: PySem.Value.str (PySem.Str.ofString "-") 1533 :: PySem.Value.str (PySem.Str.ofString ".") 1536 :: PySem.Value.str (PySem.Str.ofString "/") 1539 :: PySem.Value.str (PySem.Str.ofString "0") 1542 :: PySem.Value.str (PySem.Str.ofString "1") 1545 :: PySem.Value.str (PySem.Str.ofString "2") 1548 :: PySem.Value.str (PySem.Str.ofString "3") 1551 :: PySem.Value.str (PySem.Str.ofString "4") 1554 :: PySem.Value.str (PySem.Str.ofString "5") 1557 :: PySem.Value.str (PySem.Str.ofString "6") 1560 :: PySem.Value.str (PySem.Str.ofString "7") 1563 :: PySem.Value.str (PySem.Str.ofString "8") 1566 :: PySem.Value.str (PySem.Str.ofString "9") 1569 :: PySem.Value.str (PySem.Str.ofString ":") 1572 :: PySem.Value.str (PySem.Str.ofString ";") 1575 :: PySem.Value.str (PySem.Str.ofString "<") 1578 :: PySem.Value.str (PySem.Str.ofString "=3D") 490 :: PySem.Value.str (PySem.Str.ofString ">") 1581 :: PySem.Value.str (PySem.Str.ofString "?") 1584 :: PySem.Value.str (PySem.Str.ofString "@") 1587 :: PySem.Value.str (PySem.Str.ofString "A") 1590 :: PySem.Value.str (PySem.Str.ofString "B") 1593 :: PySem.Value.str (PySem.Str.ofString "C") 1596 :: PySem.Value.str (PySem.Str.ofString "D") 1599 :: PySem.Value.str (PySem.Str.ofString "E") 1602 :: PySem.Value.str (PySem.Str.ofString "F") 1605 :: PySem.Value.str (PySem.Str.ofString "G") 1608 :: PySem.Value.str (PySem.Str.ofString "H") 1611 :: PySem.Value.str (PySem.Str.ofString "I") 1614 :: PySem.Value.str (PySem.Str.ofString "J") 1617 :: PySem.Value.str (PySem.Str.ofString "K") 1620 :: PySem.Value.str (PySem.Str.ofString "L") 1623 :: PySem.Value.str (PySem.Str.ofString "M") 1626 :: PySem.Value.str (PySem.Str.ofString "N") 1629 :: PySem.Value.str (PySem.Str.ofString "O") 1632 :: PySem.Value.str (PySem.Str.ofString "P") 1635 :: PySem.Value.str (PySem.Str.ofString "Q") 1638 :: PySem.Value.str (PySem.Str.ofString "R") 1641 :: PySem.Value.str (PySem.Str.ofString "S") 1644 :: PySem.Value.str (PySem.Str.ofString "T") 1647 :: PySem.Value.str (PySem.Str.ofString "U") 1650 :: PySem.Value.str (PySem.Str.ofString "V") 1653 :: PySem.Value.str (PySem.Str.ofString "W") 1656 :: PySem.Value.str (PySem.Str.ofString "X") 1659 :: PySem.Value.str (PySem.Str.ofString "Y") 1662 :: PySem.Value.str (PySem.Str.ofString "Z") 1665 :: PySem.Value.str (PySem.Str.ofString "[") 1668 :: PySem.Value.str (PySem.Str.ofString "\\") 1671 :: PySem.Value.str (PySem.Str.ofString "]") 1674 :: PySem.Value.str (PySem.Str.ofString "^") 1677 :: PySem.Value.str (PySem.Str.ofString "_") 1680 :: PySem.Value.str (PySem.Str.ofString "`") 1683 :: PySem.Value.str (PySem.Str.ofString "a") 1686 :: PySem.Value.str (PySem.Str.ofString "b") 1689 :: PySem.Value.str (PySem.Str.ofString "c") 1692 :: PySem.Value.str (PySem.Str.ofString "d") 1695 :: PySem.Value.str (PySem.Str.ofString "e") 1698 :: PySem.Value.str (PySem.Str.ofString "f") 1701 :: PySem.Value.str (PySem.Str.ofString "g") 1704 :: PySem.Value.str (PySem.Str.ofString "h") 1707 :: PySem.Value.str (PySem.Str.ofString "i") 1710 :: PySem.Value.str (PySem.Str.ofString "j") 1713 :: PySem.Value.str (PySem.Str.ofString "k") 1716 :: PySem.Value.str (PySem.Str.ofString "l") 1719 :: PySem.Value.str (PySem.Str.ofString "m") 1722 :: PySem.Value.str (PySem.Str.ofString "n") 1725 :: PySem.Value.str (PySem.Str.ofString "o") 1728 :: PySem.Value.str (PySem.Str.ofString "p") 1731 :: PySem.Value.str (PySem.Str.ofString "q") 1734 :: PySem.Value.str (PySem.Str.ofString "r") 1737 :: PySem.Value.str (PySem.Str.ofString "s") 1740 :: PySem.Value.str (PySem.Str.ofString "t") 1743 :: PySem.Value.str (PySem.Str.ofString "u") 1746 :: PySem.Value.str (PySem.Str.ofString "v") 1749 :: PySem.Value.str (PySem.Str.ofString "w") 1752 :: PySem.Value.str (PySem.Str.ofString "x") 1755 :: PySem.Value.str (PySem.Str.ofString "y") 1758 :: PySem.Value.str (PySem.Str.ofString "z") 1761 :: PySem.Value.str (PySem.Str.ofString "{") 1764 :: PySem.Value.str (PySem.Str.ofString "|") 1767 :: PySem.Value.str (PySem.Str.ofString "}") 1770 :: PySem.Value.str (PySem.Str.ofString "~") 1773 :: PySem.Value.str (PySem.Str.ofString "=7F") 754 :: PySem.Value.str (PySem.Str.ofString "=80") 758 :: PySem.Value.str (PySem.Str.ofString "=81") 762 :: PySem.Value.str (PySem.Str.ofString "=82") 766 :: PySem.Value.str (PySem.Str.ofString "=83") 770 :: PySem.Value.str (PySem.Str.ofString "=84") 774 :: PySem.Value.str (PySem.Str.ofString "=85") 778 :: PySem.Value.str (PySem.Str.ofString "=86") 782 :: PySem.Value.str (PySem.Str.ofString "=87") 786 :: PySem.Value.str (PySem.Str.ofString "=88") 790 :: PySem.Value.str (PySem.Str.ofString "=89") 794 :: PySem.Value.str (PySem.Str.ofString "=8A") 798 :: PySem.Value.str (PySem.Str.ofString "=8B") 802 :: PySem.Value.str (PySem.Str.ofString "=8C") 806 :: PySem.Value.str (PySem.Str.ofString "=8D") 810 :: PySem.Value.str (PySem.Str.ofString "=8E") 814 :: PySem.Value.str (PySem.Str.ofString "=8F") 818 :: PySem.Value.str (PySem.Str.ofString "=90") 822 :: PySem.Value.str (PySem.Str.ofString "=91") 826 :: PySem.Value.str (PySem.Str.ofString "=92") 830 :: PySem.Value.str (PySem.Str.ofString "=93") 834 :: PySem.Value.str (PySem.Str.ofString "=94") 838 :: PySem.Value.str (PySem.Str.ofString "=95") 842 :: PySem.Value.str (PySem.Str.ofString "=96") 846 :: PySem.Value.str (PySem.Str.ofString "=97") 850 :: PySem.Value.str (PySem.Str.ofString "=98") 854 :: PySem.Value.str (PySem.Str.ofString "=99") 858 :: PySem.Value.str (PySem.Str.ofString "=9A") 862 :: PySem.Value.str (PySem.Str.ofString "=9B") 866 :: PySem.Value.str (PySem.Str.ofString "=9C") 870 :: PySem.Value.str (PySem.Str.ofString "=9D") 874 :: PySem.Value.str (PySem.Str.ofString "=9E") 878 :: PySem.Value.str (PySem.Str.ofString "=9F") 882 :: PySem.Value.str (PySem.Str.ofString "=A0") 886 :: PySem.Value.str (PySem.Str.ofString "=A1") 890 :: PySem.Value.str (PySem.Str.ofString "=A2") 894 :: PySem.Value.str (PySem.Str.ofString "=A3") 898 :: PySem.Value.str (PySem.Str.ofString "=A4") 902 :: PySem.Value.str (PySem.Str.ofString "=A5") 906 :: PySem.Value.str (PySem.Str.ofString "=A6") 910 :: PySem.Value.str (PySem.Str.ofString "=A7") 914 :: PySem.Value.str (PySem.Str.ofString "=A8") 918 :: PySem.Value.str (PySem.Str.ofString "=A9") 922 :: PySem.Value.str (PySem.Str.ofString "=AA") 926 :: PySem.Value.str (PySem.Str.ofString "=AB") 930 :: PySem.Value.str (PySem.Str.ofString "=AC") 934 :: PySem.Value.str (PySem.Str.ofString "=AD") 938 :: PySem.Value.str (PySem.Str.ofString "=AE") 942 :: PySem.Value.str (PySem.Str.ofString "=AF") 946 :: PySem.Value.str (PySem.Str.ofString "=B0") 950 :: PySem.Value.str (PySem.Str.ofString "=B1") 954 :: PySem.Value.str (PySem.Str.ofString "=B2") 958 :: PySem.Value.str (PySem.Str.ofString "=B3") 962 :: PySem.Value.str (PySem.Str.ofString "=B4") 966 :: PySem.Value.str (PySem.Str.ofString "=B5") 970 :: PySem.Value.str (PySem.Str.ofString "=B6") 974 :: PySem.Value.str (PySem.Str.ofString "=B7") 978 :: PySem.Value.str (PySem.Str.ofString "=B8") 982 :: PySem.Value.str (PySem.Str.ofString "=B9") 986 :: PySem.Value.str (PySem.Str.ofString "=BA") 990 :: PySem.Value.str (PySem.Str.ofString "=BB") 994 :: PySem.Value.str (PySem.Str.ofString "=BC") 998 :: PySem.Value.str (PySem.Str.ofString "=BD") 1002 :: PySem.Value.str (PySem.Str.ofString "=BE") 1006 :: PySem.Value.str (PySem.Str.ofString "=BF") 1010 :: PySem.Value.str (PySem.Str.ofString "=C0") 1014 :: PySem.Value.str (PySem.Str.ofString "=C1") 1018 :: PySem.Value.str (PySem.Str.ofString "=C2") 1022 :: PySem.Value.str (PySem.Str.ofString "=C3") 1026 :: PySem.Value.str (PySem.Str.ofString "=C4") 1030 :: PySem.Value.str (PySem.Str.ofString "=C5") 1034 :: PySem.Value.str (PySem.Str.ofString "=C6") 1038 :: PySem.Value.str (PySem.Str.ofString "=C7") 1042 :: PySem.Value.str (PySem.Str.ofString "=C8") 1046 :: PySem.Value.str (PySem.Str.ofString "=C9") 1050 :: PySem.Value.str (PySem.Str.ofString "=CA") 1054 :: PySem.Value.str (PySem.Str.ofString "=CB") 1058 :: PySem.Value.str (PySem.Str.ofString "=CC") 1062 :: PySem.Value.str (PySem.Str.ofString "=CD") 1066 :: PySem.Value.str (PySem.Str.ofString "=CE") 1070 :: PySem.Value.str (PySem.Str.ofString "=CF") 1074 :: PySem.Value.str (PySem.Str.ofString "=D0") 1078 :: PySem.Value.str (PySem.Str.ofString "=D1") 1082 :: PySem.Value.str (PySem.Str.ofString "=D2") 1086 :: PySem.Value.str (PySem.Str.ofString "=D3") 1090 :: PySem.Value.str (PySem.Str.ofString "=D4") 1094 :: PySem.Value.str (PySem.Str.ofString "=D5") 1098 :: PySem.Value.str (PySem.Str.ofString "=D6") 1102 :: PySem.Value.str (PySem.Str.ofString "=D7") 1106 :: PySem.Value.str (PySem.Str.ofString "=D8") 1110 :: PySem.Value.str (PySem.Str.ofString "=D9") 1114 :: PySem.Value.str (PySem.Str.ofString "=DA") 1118 :: PySem.Value.str (PySem.Str.ofString "=DB") 1122 :: PySem.Value.str (PySem.Str.ofString "=DC") 1126 :: PySem.Value.str (PySem.Str.ofString "=DD") 1130 :: PySem.Value.str (PySem.Str.ofString "=DE") 1134 :: PySem.Value.str (PySem.Str.ofString "=DF") 1138 :: PySem.Value.str (PySem.Str.ofString "=E0") 1142 :: PySem.Value.str (PySem.Str.ofString "=E1") 1146 :: PySem.Value.str (PySem.Str.ofString "=E2") 1150 :: PySem.Value.str (PySem.Str.ofString "=E3") 1154 :: PySem.Value.str (PySem.Str.ofString "=E4") 1158 :: PySem.Value.str (PySem.Str.ofString "=E5") 1162 :: PySem.Value.str (PySem.Str.ofString "=E6") 1166 :: PySem.Value.str (PySem.Str.ofString "=E7") 1170 :: PySem.Value.str (PySem.Str.ofString "=E8") 1174 :: PySem.Value.str (PySem.Str.ofString "=E9") 1178 :: PySem.Value.str (PySem.Str.ofString "=EA") 1182 :: PySem.Value.str (PySem.Str.ofString "=EB") 1186 :: PySem.Value.str (PySem.Str.ofString "=EC") 1190 :: PySem.Value.str (PySem.Str.ofString "=ED") 1194 :: PySem.Value.str (PySem.Str.ofString "=EE") 1198 :: PySem.Value.str (PySem.Str.ofString "=EF") 1202 :: PySem.Value.str (PySem.Str.ofString "=F0") 1206 :: PySem.Value.str (PySem.Str.ofString "=F1") 1210 :: PySem.Value.str (PySem.Str.ofString "=F2") 1214 :: PySem.Value.str (PySem.Str.ofString "=F3") 1218 :: PySem.Value.str (PySem.Str.ofString "=F4") 1222 :: PySem.Value.str (PySem.Str.ofString "=F5") 1226 :: PySem.Value.str (PySem.Str.ofString "=F6") 1230 :: PySem.Value.str (PySem.Str.ofString "=F7") 1234 :: PySem.Value.str (PySem.Str.ofString "=F8") 1238 :: PySem.Value.str (PySem.Str.ofString "=F9") 1242 :: PySem.Value.str (PySem.Str.ofString "=FA") 1246 :: PySem.Value.str (PySem.Str.ofString "=FB") 1250 :: PySem.Value.str (PySem.Str.ofString "=FC") 1254 :: PySem.Value.str (PySem.Str.ofString "=FD") 1258 :: PySem.Value.str (PySem.Str.ofString "=FE") 1262 :: PySem.Value.str (PySem.Str.ofString "=FF") 1266 :: []))) #[]
noncomputable abbrev oz_72 (P : PySem.Params) : PySem.Obj := PySem.Obj.mk (PySem.Value.type "bytes_iterator") Option.none (PySem.Data.fields (List.toArray (PySem.Value.none :: PySem.Value.int 2 0 :: []))) #[]
noncomputable abbrev oz_73 (P : PySem.Params) : PySem.Obj := PySem.Obj.mk (PySem.Value.type "tuple") Option.none (PySem.Data.seq #[]) #[]
noncomputable abbrev oz_74 (P : PySem.Params) : PySem.Obj := PySem.Obj.mk (PySem.Value.type "StopIteration") Option.none (PySem.Data.fields (List.toArray (PySem.Value.ref 73 :: PySem.Value.none :: PySem.Value.none :: PySem.Value.none :: PySem.Value.bool Bool.false :: PySem.Value.none :: []))) #[]
noncomputable abbrev oz_75 (P : PySem.Params) : PySem.Obj := PySem.Obj.mk (PySem.Value.type "tuple") Option.none (PySem.Data.seq (List.toArray (PySem.Value.int 76 1792 :: PySem.Value.str (PySem.Str.ofString "\n") 238 :: []))) #[]
noncomputable abbrev oz_76 (P : PySem.Params) : PySem.Obj := PySem.Obj.mk (PySem.Value.type "tuple") Option.none (PySem.Data.seq #[]) #[]
noncomputable abbrev oz_77 (P : PySem.Params) : PySem.Obj := PySem.Obj.mk PySem.Value.none Option.none (PySem.Data.fields #[]) #[]
noncomputable abbrev oz_78 (P : PySem.Params) : PySem.Obj := PySem.Obj.mk (PySem.Value.type "tuple") Option.none (PySem.Data.seq (List.toArray (PySem.Value.str (PySem.Str.ofString "body") 1796 :: PySem.Value.str (PySem.Str.ofString "maxlinelen") 1797 :: PySem.Value.str (PySem.Str.ofString "eol") 1798 :: PySem.Value.str (PySem.Str.ofString "soft_break") 1799 :: PySem.Value.str (PySem.Str.ofString "maxlinelen1") 1800 :: PySem.Value.str (PySem.Str.ofString "encoded_body") 1801 :: PySem.Value.str (PySem.Str.ofString "append") 1802 :: PySem.Value.str (PySem.Str.ofString "line") 1803 :: PySem.Value.str (PySem.Str.ofString "start") 1804 :: PySem.Value.str (PySem.Str.ofString "laststart") 1805 :: PySem.Value.str (PySem.Str.ofString "stop") 1806 :: PySem.Value.str (PySem.Str.ofString "room") 1807 :: PySem.Value.str (PySem.Str.ofString "q") 1808 :: []))) #[]
noncomputable abbrev oz_79 (P : PySem.Params) : PySem.Obj := PySem.Obj.mk (PySem.Value.type "tuple") Option.none (PySem.Data.seq #[]) #[]
noncomputable abbrev oz_80 (P : PySem.Params) : PySem.Obj := PySem.Obj.mk PySem.Value.none Option.none (PySem.Data.func (PySem.FuncData.mk (PySem.Str.ofString "body_encode") (PySem.Str.ofString "body_encode") fa_21 (PySem.FuncBody.stmts fb_21) fs_21 0 [] PySem.Value.none PySem.Value.none PySem.Value.none PySem.Value.none Option.none PySem.Value.none PySem.Value.none 0)) #[]
noncomputable abbrev oz_81 (P : PySem.Params) : PySem.Obj := PySem.Obj.mk (PySem.Value.type "code") Option.none (PySem.Data.fields (List.toArray (PySem.Value.str (PySem.Str.ofString "body_encode") 1793 :: PySem.Value.str (PySem.Str.ofString "body_encode") 1794 :: PySem.Value.str (PySem.Str.ofString "/claim/cut.py") 1795 :: PySem.Value.int 44 0 :: PySem.Value.int 3 0 :: PySem.Value.int 0 0 :: PySem.Value.int 0 0 :: PySem.Value.int 3 0 :: PySem.Value.ref 76 :: PySem.Value.bool Bool.true :: PySem.Value.int 181 0 :: PySem.Value.ref 77 :: PySem.Value.none :: PySem.Value.ref 78 :: PySem.Value.ref 79 :: PySem.Value.ref 80 :: PySem.Value.int 1809 0 :: PySem.Value.int 44 0 :: PySem.Value.str (PySem.Str.ofString "/claim/cut.py") 1810 :: []))) #[]
noncomputable abbrev oz_82 (P : PySem.Params) : PySem.Obj := PySem.Obj.mk (PySem.Value.type "function") Option.none (PySem.Data.func (PySem.FuncData.mk (PySem.Str.ofString "body_encode") (PySem.Str.ofString "body_encode") fa_21 (PySem.FuncBody.stmts fb_21) fs_21 3 [] (PySem.Value.ref 75) PySem.Value.none PySem.Value.none (PySem.Value.str (PySem.Str.ofString "cpy313.email.quoprimime") 1278) Option.none (PySem.Value.ref 81) PySem.Value.none 0)) #[]
noncomputable abbrev oz_83 (P : PySem.Params) : PySem.Obj := PySem.Obj.mk (PySem.Value.type "tuple") Option.none (PySem.Data.seq #[]) #[]
noncomputable abbrev oz_84 (P : PySem.Params) : PySem.Obj := PySem.Obj.mk PySem.Value.none Option.none (PySem.Data.fields #[]) #[]
noncomputable abbrev oz_85 (P : PySem.Params) : PySem.Obj := PySem.Obj.mk (PySem.Value.type "tuple") Option.none (PySem.Data.seq (List.toArray (PySem.Value.str (PySem.Str.ofString "line") 1817 :: PySem.Value.str (PySem.Str.ofString "width") 1818 :: PySem.Value.str (PySem.Str.ofString "end") 1819 :: PySem.Value.str (PySem.Str.ofString "items") 1820 :: PySem.Value.str (PySem.Str.ofString "used") 1821 :: PySem.Value.str (PySem.Str.ofString "left") 1822 :: PySem.Value.str (PySem.Str.ofString "sign") 1823 :: PySem.Value.str (PySem.Str.ofString "size") 1824 :: []))) #[]
noncomputable abbrev oz_86 (P : PySem.Params) : PySem.Obj := PySem.Obj.mk (PySem.Value.type "tuple") Option.none (PySem.Data.seq #[]) #[]
noncomputable abbrev oz_87 (P : PySem.Params) : PySem.Obj := PySem.Obj.mk PySem.Value.none Option.none (PySem.Data.func (PySem.FuncData.mk (PySem.Str.ofString "_law_written") (PySem.Str.ofString "_law_written") fa_23 (PySem.FuncBody.stmts fb_23) fs_23 0 [] PySem.Value.none PySem.Value.none PySem.Value.none PySem.Value.none Option.none PySem.Value.none PySem.Value.none 0)) #[]
noncomputable abbrev oz_88 (P : PySem.Params) : PySem.Obj := PySem.Obj.mk (PySem.Value.type "code") Option.none (PySem.Data.fields (List.toArray (PySem.Value.str (PySem.Str.ofString "_law_written") 1814 :: PySem.Value.str (PySem.Str.ofString "_law_written") 1815 :: PySem.Value.str (PySem.Str.ofString "/claim/cut.py") 1816 :: PySem.Value.int 83 0 :: PySem.Value.int 3 0 :: PySem.Value.int 0 0 :: PySem.Value.int 0 0 :: PySem.Value.int 3 0 :: PySem.Value.ref 83 :: PySem.Value.bool Bool.true :: PySem.Value.int 181 0 :: PySem.Value.ref 84 :: PySem.Value.none :: PySem.Value.ref 85 :: PySem.Value.ref 86 :: PySem.Value.ref 87 :: PySem.Value.int 1825 0 :: PySem.Value.int 83 0 :: PySem.Value.str (PySem.Str.ofString "/claim/cut.py") 1826 :: []))) #[]
noncomputable abbrev oz_89 (P : PySem.Params) : PySem.Obj := PySem.Obj.mk (PySem.Value.type "function") Option.none (PySem.Data.func (PySem.FuncData.mk (PySem.Str.ofString "_law_written") (PySem.Str.ofString "_law_written") fa_23 (PySem.FuncBody.stmts fb_23) fs_23 3 [] PySem.Value.none PySem.Value.none PySem.Value.none (PySem.Value.str (PySem.Str.ofString "law_rw0036_01") 1812) Option.none (PySem.Value.ref 88) PySem.Value.none 0)) #[]
noncomputable abbrev oz_90 (P : PySem.Params) : PySem.Obj := PySem.Obj.mk (PySem.Value.type "tuple") Option.none (PySem.Data.seq #[]) #[]
noncomputable abbrev oz_91 (P : PySem.Params) : PySem.Obj := PySem.Obj.mk PySem.Value.none Option.none (PySem.Data.fields #[]) #[]
noncomputable abbrev oz_92 (P : PySem.Params) : PySem.Obj := PySem.Obj.mk PySem.Value.none Option.none (PySem.Data.func (PySem.FuncData.mk (PySem.Str.ofString "_law_due") (PySem.Str.ofString "_law_due") fa_24 (PySem.FuncBody.stmts fb_24) fs_24 0 [] PySem.Value.none PySem.Value.none PySem.Value.none PySem.Value.none Option.none PySem.Value.none PySem.Value.none 0)) #[]
noncomputable abbrev oz_93 (P : PySem.Params) : PySem.Obj := PySem.Obj.mk (PySem.Value.type "code") Option.none (PySem.Data.fields (List.toArray (PySem.Value.str (PySem.Str.ofString "_law_due") 1828 :: PySem.Value.str (PySem.Str.ofString "_law_due") 1829 :: PySem.Value.str (PySem.Str.ofString "/claim/cut.py") 1830 :: PySem.Value.int 103 0 :: PySem.Value.int 4 0 :: PySem.Value.int 0 0 :: PySem.Value.int 0 0 :: PySem.Value.int 3 0 :: PySem.Value.ref 90 :: PySem.Value.bool Bool.true :: PySem.Value.int 181 0 :: PySem.Value.ref 91 :: PySem.Value.none :: PySem.Value.none :: PySem.Value.none :: PySem.Value.ref 92 :: PySem.Value.int 1831 0 :: PySem.Value.int 103 0 :: PySem.Value.str (PySem.Str.ofString "/claim/cut.py") 1832 :: []))) #[]
noncomputable abbrev oz_94 (P : PySem.Params) : PySem.Obj := PySem.Obj.mk (PySem.Value.type "function") Option.none (PySem.Data.func (PySem.FuncData.mk (PySem.Str.ofString "_law_due") (PySem.Str.ofString "_law_due") fa_24 (PySem.FuncBody.stmts fb_24) fs_24 3 [] PySem.Value.none PySem.Value.none PySem.Value.none (PySem.Value.str (PySem.Str.ofString "law_rw0036_01") 1812) Option.none (PySem.Value.ref 93) PySem.Value.none 0)) #[]
noncomputable abbrev oz_95 (P : PySem.Params) : PySem.Obj := PySem.Obj.mk (PySem.Value.type "tuple") Option.none (PySem.Data.seq #[]) #[]
noncomputable abbrev oz_96 (P : PySem.Params) : PySem.Obj := PySem.Obj.mk PySem.Value.none Option.none (PySem.Data.fields #[]) #[]
noncomputable abbrev oz_97 (P : PySem.Params) : PySem.Obj := PySem.Obj.mk (PySem.Value.type "tuple") Option.none (PySem.Data.seq (List.toArray (PySem.Value.str (PySem.Str.ofString "ahead") 1837 :: PySem.Value.str (PySem.Str.ofString "body") 1838 :: PySem.Value.str (PySem.Str.ofString "width") 1839 :: PySem.Value.str (PySem.Str.ofString "end") 1840 :: []))) #[]
noncomputable abbrev oz_98 (P : PySem.Params) : PySem.Obj := PySem.Obj.mk (PySem.Value.type "tuple") Option.none (PySem.Data.seq #[]) #[]
noncomputable abbrev oz_99 (P : PySem.Params) : PySem.Obj := PySem.Obj.mk PySem.Value.none Option.none (PySem.Data.func (PySem.FuncData.mk (PySem.Str.ofString "_law_heard") (PySem.Str.ofString "_law_heard") fa_25 (PySem.FuncBody.stmts fb_25) fs_25 0 [] PySem.Value.none PySem.Value.none PySem.Value.none PySem.Value.none Option.none PySem.Value.none PySem.Value.none 0)) #[]
noncomputable abbrev oz_100 (P : PySem.Params) : PySem.Obj := PySem.Obj.mk (PySem.Value.type "code") Option.none (PySem.Data.fields (List.toArray (PySem.Value.str (PySem.Str.ofString "_law_heard") 1834 :: PySem.Value.str (PySem.Str.ofString "_law_heard") 1835 :: PySem.Value.str (PySem.Str.ofString "/claim/cut.py") 1836 :: PySem.Value.int 126 0 :: PySem.Value.int 4 0 :: PySem.Value.int 0 0 :: PySem.Value.int 0 0 :: PySem.Value.int 3 0 :: PySem.Value.ref 95 :: PySem.Value.bool Bool.true :: PySem.Value.int 181 0 :: PySem.Value.ref 96 :: PySem.Value.none :: PySem.Value.ref 97 :: PySem.Value.ref 98 :: PySem.Value.ref 99 :: PySem.Value.int 1841 0 :: PySem.Value.int 126 0 :: PySem.Value.str (PySem.Str.ofString "/claim/cut.py") 1842 :: []))) #[]
noncomputable abbrev oz_101 (P : PySem.Params) : PySem.Obj := PySem.Obj.mk (PySem.Value.type "function") Option.none (PySem.Data.func (PySem.FuncData.mk (PySem.Str.ofString "_law_heard") (PySem.Str.ofString "_law_heard") fa_25 (PySem.FuncBody.stmts fb_25) fs_25 3 [] PySem.Value.none PySem.Value.none PySem.Value.none (PySem.Value.str (PySem.Str.ofString "law_rw0036_01") 1812) Option.none (PySem.Value.ref 100) PySem.Value.none 0)) #[]
noncomputable abbrev oz_102 (P : PySem.Params) : PySem.Obj := PySem.Obj.mk (PySem.Value.type "tuple") Option.none (PySem.Data.seq #[]) #[]
noncomputable abbrev oz_103 (P : PySem.Params) : PySem.Obj := PySem.Obj.mk PySem.Value.none Option.none (PySem.Data.fields #[]) #[]
noncomputable abbrev oz_104 (P : PySem.Params) : PySem.Obj := PySem.Obj.mk PySem.Value.none Option.none (PySem.Data.func (PySem.FuncData.mk (PySem.Str.ofString "law") (PySem.Str.ofString "law") fa_26 (PySem.FuncBody.stmts fb_26) fs_26 0 [] PySem.Value.none PySem.Value.none PySem.Value.none PySem.Value.none Option.none PySem.Value.none PySem.Value.none 0)) #[]
noncomputable abbrev oz_105 (P : PySem.Params) : PySem.Obj := PySem.Obj.mk (PySem.Value.type "code") Option.none (PySem.Data.fields (List.toArray (PySem.Value.str (PySem.Str.ofString "law") 1844 :: PySem.Value.str (PySem.Str.ofString "law") 1845 :: PySem.Value.str (PySem.Str.ofString "/claim/cut.py") 1846 :: PySem.Value.int 133 0 :: PySem.Value.int 1 0 :: PySem.Value.int 0 0 :: PySem.Value.int 0 0 :: PySem.Value.int 3 0 :: PySem.Value.ref 102 :: PySem.Value.bool Bool.true :: PySem.Value.int 181 0 :: PySem.Value.ref 103 :: PySem.Value.none :: PySem.Value.none :: PySem.Value.none :: PySem.Value.ref 104 :: PySem.Value.int 1847 0 :: PySem.Value.int 133 0 :: PySem.Value.str (PySem.Str.ofString "/claim/cut.py") 1848 :: []))) #[]
noncomputable abbrev oz_106 (P : PySem.Params) : PySem.Obj := PySem.Obj.mk (PySem.Value.type "function") Option.none (PySem.Data.func (PySem.FuncData.mk (PySem.Str.ofString "law") (PySem.Str.ofString "law") fa_26 (PySem.FuncBody.stmts fb_26) fs_26 3 [] PySem.Value.none PySem.Value.none PySem.Value.none (PySem.Value.str (PySem.Str.ofString "law_rw0036_01") 1812) Option.none (PySem.Value.ref 105) PySem.Value.none 0)) #[]
noncomputable abbrev tree_z (P : PySem.Params) : PySem.W.BT := (PySem.W.BT.node (PySem.W.boot_o_0 P) (PySem.W.BT.node (PySem.W.boot_o_1 P) (PySem.W.BT.node (oz_3 P) (PySem.W.BT.node (PySem.W.boot_o_7 P) (PySem.W.BT.node (oz_15 P) (PySem.W.BT.node (oz_31 P) (PySem.W.BT.node (oz_63 P) PySem.W.BT.nil PySem.W.BT.nil) (PySem.W.BT.node (oz_95 P) PySem.W.BT.nil PySem.W.BT.nil)) (PySem.W.BT.node (oz_47 P) (PySem.W.BT.node (oz_79 P) PySem.W.BT.nil PySem.W.BT.nil) PySem.W.BT.nil)) (PySem.W.BT.node (oz_23 P) (PySem.W.BT.node (oz_39 P) (PySem.W.BT.node (oz_71 P) PySem.W.BT.nil PySem.W.BT.nil) (PySem.W.BT.node (oz_103 P) PySem.W.BT.nil PySem.W.BT.nil)) (PySem.W.BT.node (oz_55 P) (PySem.W.BT.node (oz_87 P) PySem.W.BT.nil PySem.W.BT.nil) PySem.W.BT.nil))) (PySem.W.BT.node (oz_11 P) (PySem.W.BT.node (oz_19 P) (PySem.W.BT.node (oz_35 P) (PySem.W.BT.node (oz_67 P) PySem.W.BT.nil PySem.W.BT.nil) (PySem.W.BT.node (oz_99 P) PySem.W.BT.nil PySem.W.BT.nil)) (PySem.W.BT.node (oz_51 P) (PySem.W.BT.node (oz_83 P) PySem.W.BT.nil PySem.W.BT.nil) PySem.W.BT.nil)) (PySem.W.BT.node (oz_27 P) (PySem.W.BT.node (oz_43 P) (PySem.W.BT.node (oz_75 P) PySem.W.BT.nil PySem.W.BT.nil) PySem.W.BT.nil) (PySem.W.BT.node (oz_59 P) (PySem.W.BT.node (oz_91 P) PySem.W.BT.nil PySem.W.BT.nil) PySem.W.BT.nil)))) (PySem.W.BT.node (PySem.W.boot_o_5 P) (PySem.W.BT.node (PySem.W.boot_o_9 P) (PySem.W.BT.node (oz_17 P) (PySem.W.BT.node (oz_33 P) (PySem.W.BT.node (oz_65 P) PySem.W.BT.nil PySem.W.BT.nil) (PySem.W.BT.node (oz_97 P) PySem.W.BT.nil PySem.W.BT.nil)) (PySem.W.BT.node (oz_49 P) (PySem.W.BT.node (oz_81 P) PySem.W.BT.nil PySem.W.BT.nil) PySem.W.BT.nil)) (PySem.W.BT.node (oz_25 P) (PySem.W.BT.node (oz_41 P) (PySem.W.BT.node (oz_73 P) PySem.W.BT.nil PySem.W.BT.nil) (PySem.W.BT.node (oz_105 P) PySem.W.BT.nil PySem.W.BT.nil)) (PySem.W.BT.node (oz_57 P) (PySem.W.BT.node (oz_89 P) PySem.W.BT.nil PySem.W.BT.nil) PySem.W.BT.nil))) (PySem.W.BT.node (oz_13 P) (PySem.W.BT.node (oz_21 P) (PySem.W.BT.node (oz_37 P) (PySem.W.BT.node (oz_69 P) PySem.W.BT.nil PySem.W.BT.nil) (PySem.W.BT.node (oz_101 P) PySem.W.BT.nil PySem.W.BT.nil)) (PySem.W.BT.node (oz_53 P) (PySem.W.BT.node (oz_85 P) PySem.W.BT.nil PySem.W.BT.nil) PySem.W.BT.nil)) (PySem.W.BT.node (oz_29 P) (PySem.W.BT.node (oz_45 P) (PySem.W.BT.node (oz_77 P) PySem.W.BT.nil PySem.W.BT.nil) PySem.W.BT.nil) (PySem.W.BT.node (oz_61 P) (PySem.W.BT.node (oz_93 P) PySem.W.BT.nil PySem.W.BT.nil) PySem.W.BT.nil))))) (PySem.W.BT.node (oz_2 P) (PySem.W.BT.node (PySem.W.boot_o_4 P) (PySem.W.BT.node (PySem.W.boot_o_8 P) (PySem.W.BT.node (oz_16 P) (PySem.W.BT.node (oz_32 P) (PySem.W.BT.node (oz_64 P) PySem.W.BT.nil PySem.W.BT.nil) (PySem.W.BT.node (oz_96 P) PySem.W.BT.nil PySem.W.BT.nil)) (PySem.W.BT.node (oz_48 P) (PySem.W.BT.node (oz_80 P) PySem.W.BT.nil PySem.W.BT.nil) PySem.W.BT.nil)) (PySem.W.BT.node (oz_24 P) (PySem.W.BT.node (oz_40 P) (PySem.W.BT.node (oz_72 P) PySem.W.BT.nil PySem.W.BT.nil) (PySem.W.BT.node (oz_104 P) PySem.W.BT.nil PySem.W.BT.nil)) (PySem.W.BT.node (oz_56 P) (PySem.W.BT.node (oz_88 P) PySem.W.BT.nil PySem.W.BT.nil) PySem.W.BT.nil))) (PySem.W.BT.node (oz_12 P) (PySem.W.BT.node (oz_20 P) (PySem.W.BT.node (oz_36 P) (PySem.W.BT.node (oz_68 P) PySem.W.BT.nil PySem.W.BT.nil) (PySem.W.BT.node (oz_100 P) PySem.W.BT.nil PySem.W.BT.nil)) (PySem.W.BT.node (oz_52 P) (PySem.W.BT.node (oz_84 P) PySem.W.BT.nil PySem.W.BT.nil) PySem.W.BT.nil)) (PySem.W.BT.node (oz_28 P) (PySem.W.BT.node (oz_44 P) (PySem.W.BT.node (oz_76 P) PySem.W.BT.nil PySem.W.BT.nil) PySem.W.BT.nil) (PySem.W.BT.node (oz_60 P) (PySem.W.BT.node (oz_92 P) PySem.W.BT.nil PySem.W.BT.nil) PySem.W.BT.nil)))) (PySem.W.BT.node (PySem.W.boot_o_6 P) (PySem.W.BT.node (PySem.W.boot_o_10 P) (PySem.W.BT.node (oz_18 P) (PySem.W.BT.node (oz_34 P) (PySem.W.BT.node (oz_66 P) PySem.W.BT.nil PySem.W.BT.nil) (PySem.W.BT.node (oz_98 P) PySem.W.BT.nil PySem.W.BT.nil)) (PySem.W.BT.node (oz_50 P) (PySem.W.BT.node (oz_82 P) PySem.W.BT.nil PySem.W.BT.nil) PySem.W.BT.nil)) (PySem.W.BT.node (oz_26 P) (PySem.W.BT.node (oz_42 P) (PySem.W.BT.node (oz_74 P) PySem.W.BT.nil PySem.W.BT.nil) (PySem.W.BT.node (oz_106 P) PySem.W.BT.nil PySem.W.BT.nil)) (PySem.W.BT.node (oz_58 P) (PySem.W.BT.node (oz_90 P) PySem.W.BT.nil PySem.W.BT.nil) PySem.W.BT.nil))) (PySem.W.BT.node (oz_14 P) (PySem.W.BT.node (oz_22 P) (PySem.W.BT.node (oz_38 P) (PySem.W.BT.node (oz_70 P) PySem.W.BT.nil PySem.W.BT.nil) (PySem.W.BT.node (oz_102 P) PySem.W.BT.nil PySem.W.BT.nil)) (PySem.W.BT.node (oz_54 P) (PySem.W.BT.node (oz_86 P) PySem.W.BT.nil PySem.W.BT.nil) PySem.W.BT.nil)) (PySem.W.BT.node (oz_30 P) (PySem.W.BT.node (oz_46 P) (PySem.W.BT.node (oz_78 P) PySem.W.BT.nil PySem.W.BT.nil) PySem.W.BT.nil) (PySem.W.BT.node (oz_62 P) (PySem.W.BT.node (oz_94 P) PySem.W.BT.nil PySem.W.BT.nil) PySem.W.BT.nil))))))
noncomputable abbrev life_z : PySem.Life := PySem.Life.mk [] [] [] 0 [] [] Bool.false #[] [] 0 Bool.false Bool.false Bool.false 0 (2000 :: 10 :: 10 :: []) Bool.false 0 Bool.true [] [] 0 Bool.false
noncomputable abbrev op_12 (P : PySem.Params) : PySem.Obj := PySem.Obj.mk PySem.Value.none Option.none (PySem.Data.fields #[]) #[]
noncomputable abbrev tree_p (P : PySem.Params) : PySem.W.BT := (PySem.W.BT.node (PySem.W.boot_o_0 P) (PySem.W.BT.node (PySem.W.boot_o_1 P) (PySem.W.BT.node (PySem.W.boot_o_3 P) (PySem.W.BT.node (PySem.W.boot_o_7 P) PySem.W.BT.nil PySem.W.BT.nil) (PySem.W.BT.node (oz_11 P) PySem.W.BT.nil PySem.W.BT.nil)) (PySem.W.BT.node (PySem.W.boot_o_5 P) (PySem.W.BT.node (PySem.W.boot_o_9 P) PySem.W.BT.nil PySem.W.BT.nil) (PySem.W.BT.node (oz_13 P) PySem.W.BT.nil PySem.W.BT.nil))) (PySem.W.BT.node (PySem.W.boot_o_2 P) (PySem.W.BT.node (PySem.W.boot_o_4 P) (PySem.W.BT.node (PySem.W.boot_o_8 P) PySem.W.BT.nil PySem.W.BT.nil) (PySem.W.BT.node (op_12 P) PySem.W.BT.nil PySem.W.BT.nil)) (PySem.W.BT.node (PySem.W.boot_o_6 P) (PySem.W.BT.node (PySem.W.boot_o_10 P) PySem.W.BT.nil PySem.W.BT.nil) (PySem.W.BT.node (oz_14 P) PySem.W.BT.nil PySem.W.BT.nil))))
noncomputable abbrev life_p : PySem.Life := PySem.Life.mk [] [] [] 0 [] [] Bool.false #[] [] 0 Bool.false Bool.false Bool.false 0 (2000 :: 10 :: 10 :: []) Bool.false 0 Bool.true [] [] 0 Bool.false
noncomputable abbrev oa_3 (P : PySem.Params) : PySem.Obj := PySem.Obj.mk (PySem.Value.type "dict") Option.none (PySem.Data.dict (List.toArray (PySem.DictEntry.mk (PySem.PyData.keyHash P (PySem.Str.ofString "__name__")) (PySem.Value.str (PySem.Str.ofString "__name__") 165) (PySem.Value.str (PySem.Str.ofString "cpy313.ftplib") 187) :: PySem.DictEntry.mk (PySem.PyData.keyHash P (PySem.Str.ofString "__doc__")) (PySem.Value.str (PySem.Str.ofString "__doc__") 166) PySem.Value.none :: PySem.DictEntry.mk (PySem.PyData.keyHash P (PySem.Str.ofString "__package__")) (PySem.Value.str (PySem.Str.ofString "__package__") 167) PySem.Value.none :: PySem.DictEntry.mk (PySem.PyData.keyHash P (PySem.Str.ofString "__loader__")) (PySem.Value.str (PySem.Str.ofString "__loader__") 168) (PySem.Value.builtin "__main__.__loader__#opaque") :: PySem.DictEntry.mk (PySem.PyData.keyHash P (PySem.Str.ofString "__spec__")) (PySem.Value.str (PySem.Str.ofString "__spec__") 169) PySem.Value.none :: PySem.DictEntry.mk (PySem.PyData.keyHash P (PySem.Str.ofString "__annotations__")) (PySem.Value.str (PySem.Str.ofString "__annotations__") 170) (PySem.Value.ref 6) :: PySem.DictEntry.mk (PySem.PyData.keyHash P (PySem.Str.ofString "__builtins__")) (PySem.Value.str (PySem.Str.ofString "__builtins__") 171) (PySem.Value.ref 4) :: PySem.DictEntry.mk (PySem.PyData.keyHash P (PySem.Str.ofString "__file__")) (PySem.Value.str (PySem.Str.ofString "__file__") 173) (PySem.Value.str (PySem.Str.ofString "/claim/cut.py") 172) :: PySem.DictEntry.mk (PySem.PyData.keyHash P (PySem.Str.ofString "__cached__")) (PySem.Value.str (PySem.Str.ofString "__cached__") 174) PySem.Value.none :: PySem.DictEntry.mk (PySem.PyData.keyHash P (PySem.Str.ofString "Error")) (PySem.Value.str (PySem.Str.ofString "Error") 208) (PySem.Value.ref 24) :: PySem.DictEntry.mk (PySem.PyData.keyHash P (PySem.Str.ofString "error_reply")) (PySem.Value.str (PySem.Str.ofString "error_reply") 224) (PySem.Value.ref 37) :: PySem.DictEntry.mk (PySem.PyData.keyHash P (PySem.Str.ofString "parse257")) (PySem.Value.str (PySem.Str.ofString "parse257") 235) (PySem.Value.ref 46) :: PySem.DictEntry.mk (PySem.PyData.keyHash P (PySem.Str.ofString "CRLF")) (PySem.Value.str (PySem.Str.ofString "CRLF") 237) (PySem.Value.str (PySem.Str.ofString "\x0d\n") 236) :: PySem.DictEntry.mk (PySem.PyData.keyHash P (PySem.Str.ofString "NL")) (PySem.Value.str (PySem.Str.ofString "NL") 239) (PySem.Value.str (PySem.Str.ofString "\n") 238) :: [])) 14) #[]
noncomputable abbrev oa_12 (P : PySem.Params) : PySem.Obj := PySem.Obj.mk PySem.Value.none Option.none (PySem.Data.fields (List.toArray (PySem.Value.int 2 0 :: PySem.Value.int 0 0 :: PySem.Value.ref 20 :: PySem.Value.int 4 0 :: PySem.Value.int 0 0 :: PySem.Value.ref 33 :: PySem.Value.int 6 0 :: PySem.Value.int 0 0 :: PySem.Value.ref 45 :: []))) #[]
noncomputable abbrev tree_a (P : PySem.Params) : PySem.W.BT := (PySem.W.BT.node (PySem.W.boot_o_0 P) (PySem.W.BT.node (PySem.W.boot_o_1 P) (PySem.W.BT.node (oa_3 P) (PySem.W.BT.node (PySem.W.boot_o_7 P) (PySem.W.BT.node (oz_15 P) (PySem.W.BT.node (oz_31 P) PySem.W.BT.nil PySem.W.BT.nil) PySem.W.BT.nil) (PySem.W.BT.node (oz_23 P) (PySem.W.BT.node (oz_39 P) PySem.W.BT.nil PySem.W.BT.nil) PySem.W.BT.nil)) (PySem.W.BT.node (oz_11 P) (PySem.W.BT.node (oz_19 P) (PySem.W.BT.node (oz_35 P) PySem.W.BT.nil PySem.W.BT.nil) PySem.W.BT.nil) (PySem.W.BT.node (oz_27 P) (PySem.W.BT.node (oz_43 P) PySem.W.BT.nil PySem.W.BT.nil) PySem.W.BT.nil))) (PySem.W.BT.node (PySem.W.boot_o_5 P) (PySem.W.BT.node (PySem.W.boot_o_9 P) (PySem.W.BT.node (oz_17 P) (PySem.W.BT.node (oz_33 P) PySem.W.BT.nil PySem.W.BT.nil) PySem.W.BT.nil) (PySem.W.BT.node (oz_25 P) (PySem.W.BT.node (oz_41 P) PySem.W.BT.nil PySem.W.BT.nil) PySem.W.BT.nil)) (PySem.W.BT.node (oz_13 P) (PySem.W.BT.node (oz_21 P) (PySem.W.BT.node (oz_37 P) PySem.W.BT.nil PySem.W.BT.nil) PySem.W.BT.nil) (PySem.W.BT.node (oz_29 P) (PySem.W.BT.node (oz_45 P) PySem.W.BT.nil PySem.W.BT.nil) PySem.W.BT.nil)))) (PySem.W.BT.node (oz_2 P) (PySem.W.BT.node (PySem.W.boot_o_4 P) (PySem.W.BT.node (PySem.W.boot_o_8 P) (PySem.W.BT.node (oz_16 P) (PySem.W.BT.node (oz_32 P) PySem.W.BT.nil PySem.W.BT.nil) PySem.W.BT.nil) (PySem.W.BT.node (oz_24 P) (PySem.W.BT.node (oz_40 P) PySem.W.BT.nil PySem.W.BT.nil) PySem.W.BT.nil)) (PySem.W.BT.node (oa_12 P) (PySem.W.BT.node (oz_20 P) (PySem.W.BT.node (oz_36 P) PySem.W.BT.nil PySem.W.BT.nil) PySem.W.BT.nil) (PySem.W.BT.node (oz_28 P) (PySem.W.BT.node (oz_44 P) PySem.W.BT.nil PySem.W.BT.nil) PySem.W.BT.nil))) (PySem.W.BT.node (PySem.W.boot_o_6 P) (PySem.W.BT.node (PySem.W.boot_o_10 P) (PySem.W.BT.node (oz_18 P) (PySem.W.BT.node (oz_34 P) PySem.W.BT.nil PySem.W.BT.nil) PySem.W.BT.nil) (PySem.W.BT.node (oz_26 P) (PySem.W.BT.node (oz_42 P) PySem.W.BT.nil PySem.W.BT.nil) PySem.W.BT.nil)) (PySem.W.BT.node (oz_14 P) (PySem.W.BT.node (oz_22 P) (PySem.W.BT.node (oz_38 P) PySem.W.BT.nil PySem.W.BT.nil) PySem.W.BT.nil) (PySem.W.BT.node (oz_30 P) (PySem.W.BT.node (oz_46 P) PySem.W.BT.nil PySem.W.BT.nil) PySem.W.BT.nil)))))
noncomputable abbrev life_a : PySem.Life := PySem.Life.mk [] [] [] 0 [] [] Bool.false #[] [] 0 Bool.false Bool.false Bool.false 0 (2000 :: 10 :: 10 :: []) Bool.false 0 Bool.true [] [] 0 Bool.false
noncomputable abbrev ob_3 (P : PySem.Params) : PySem.Obj := PySem.Obj.mk (PySem.Value.type "dict") Option.none (PySem.Data.dict (List.toArray (PySem.DictEntry.mk (PySem.PyData.keyHash P (PySem.Str.ofString "__name__")) (PySem.Value.str (PySem.Str.ofString "__name__") 165) (PySem.Value.str (PySem.Str.ofString "cpy313.ftplib") 187) :: PySem.DictEntry.mk (PySem.PyData.keyHash P (PySem.Str.ofString "__doc__")) (PySem.Value.str (PySem.Str.ofString "__doc__") 166) PySem.Value.none :: PySem.DictEntry.mk (PySem.PyData.keyHash P (PySem.Str.ofString "__package__")) (PySem.Value.str (PySem.Str.ofString "__package__") 167) PySem.Value.none :: PySem.DictEntry.mk (PySem.PyData.keyHash P (PySem.Str.ofString "__loader__")) (PySem.Value.str (PySem.Str.ofString "__loader__") 168) (PySem.Value.builtin "__main__.__loader__#opaque") :: PySem.DictEntry.mk (PySem.PyData.keyHash P (PySem.Str.ofString "__spec__")) (PySem.Value.str (PySem.Str.ofString "__spec__") 169) PySem.Value.none :: PySem.DictEntry.mk (PySem.PyData.keyHash P (PySem.Str.ofString "__annotations__")) (PySem.Value.str (PySem.Str.ofString "__annotations__") 170) (PySem.Value.ref 6) :: PySem.DictEntry.mk (PySem.PyData.keyHash P (PySem.Str.ofString "__builtins__")) (PySem.Value.str (PySem.Str.ofString "__builtins__") 171) (PySem.Value.ref 4) :: PySem.DictEntry.mk (PySem.PyData.keyHash P (PySem.Str.ofString "__file__")) (PySem.Value.str (PySem.Str.ofString "__file__") 173) (PySem.Value.str (PySem.Str.ofString "/claim/cut.py") 172) :: PySem.DictEntry.mk (PySem.PyData.keyHash P (PySem.Str.ofString "__cached__")) (PySem.Value.str (PySem.Str.ofString "__cached__") 174) PySem.Value.none :: PySem.DictEntry.mk (PySem.PyData.keyHash P (PySem.Str.ofString "Error")) (PySem.Value.str (PySem.Str.ofString "Error") 208) (PySem.Value.ref 24) :: PySem.DictEntry.mk (PySem.PyData.keyHash P (PySem.Str.ofString "error_reply")) (PySem.Value.str (PySem.Str.ofString "error_reply") 224) (PySem.Value.ref 37) :: PySem.DictEntry.mk (PySem.PyData.keyHash P (PySem.Str.ofString "parse257")) (PySem.Value.str (PySem.Str.ofString "parse257") 235) (PySem.Value.ref 46) :: PySem.DictEntry.mk (PySem.PyData.keyHash P (PySem.Str.ofString "CRLF")) (PySem.Value.str (PySem.Str.ofString "CRLF") 237) (PySem.Value.str (PySem.Str.ofString "\x0d\n") 236) :: PySem.DictEntry.mk (PySem.PyData.keyHash P (PySem.Str.ofString "NL")) (PySem.Value.str (PySem.Str.ofString "NL") 239) (PySem.Value.str (PySem.Str.ofString "\n") 238) :: PySem.DictEntry.mk (PySem.PyData.keyHash P (PySem.Str.ofString "_QUOPRI_MAP")) (PySem.Value.str (PySem.Str.ofString "_QUOPRI_MAP") 1267) (PySem.Value.ref 49) :: [])) 15) #[]
noncomputable abbrev tree_b (P : PySem.Params) : PySem.W.BT := (PySem.W.BT.node (PySem.W.boot_o_0 P) (PySem.W.BT.node (PySem.W.boot_o_1 P) (PySem.W.BT.node (ob_3 P) (PySem.W.BT.node (PySem.W.boot_o_7 P) (PySem.W.BT.node (oz_15 P) (PySem.W.BT.node (oz_31 P) PySem.W.BT.nil PySem.W.BT.nil) (PySem.W.BT.node (oz_47 P) PySem.W.BT.nil PySem.W.BT.nil)) (PySem.W.BT.node (oz_23 P) (PySem.W.BT.node (oz_39 P) PySem.W.BT.nil PySem.W.BT.nil) PySem.W.BT.nil)) (PySem.W.BT.node (oz_11 P) (PySem.W.BT.node (oz_19 P) (PySem.W.BT.node (oz_35 P) PySem.W.BT.nil PySem.W.BT.nil) (PySem.W.BT.node (oz_51 P) PySem.W.BT.nil PySem.W.BT.nil)) (PySem.W.BT.node (oz_27 P) (PySem.W.BT.node (oz_43 P) PySem.W.BT.nil PySem.W.BT.nil) PySem.W.BT.nil))) (PySem.W.BT.node (PySem.W.boot_o_5 P) (PySem.W.BT.node (PySem.W.boot_o_9 P) (PySem.W.BT.node (oz_17 P) (PySem.W.BT.node (oz_33 P) PySem.W.BT.nil PySem.W.BT.nil) (PySem.W.BT.node (oz_49 P) PySem.W.BT.nil PySem.W.BT.nil)) (PySem.W.BT.node (oz_25 P) (PySem.W.BT.node (oz_41 P) PySem.W.BT.nil PySem.W.BT.nil) PySem.W.BT.nil)) (PySem.W.BT.node (oz_13 P) (PySem.W.BT.node (oz_21 P) (PySem.W.BT.node (oz_37 P) PySem.W.BT.nil PySem.W.BT.nil) PySem.W.BT.nil) (PySem.W.BT.node (oz_29 P) (PySem.W.BT.node (oz_45 P) PySem.W.BT.nil PySem.W.BT.nil) PySem.W.BT.nil)))) (PySem.W.BT.node (oz_2 P) (PySem.W.BT.node (PySem.W.boot_o_4 P) (PySem.W.BT.node (PySem.W.boot_o_8 P) (PySem.W.BT.node (oz_16 P) (PySem.W.BT.node (oz_32 P) PySem.W.BT.nil PySem.W.BT.nil) (PySem.W.BT.node (oz_48 P) PySem.W.BT.nil PySem.W.BT.nil)) (PySem.W.BT.node (oz_24 P) (PySem.W.BT.node (oz_40 P) PySem.W.BT.nil PySem.W.BT.nil) PySem.W.BT.nil)) (PySem.W.BT.node (oa_12 P) (PySem.W.BT.node (oz_20 P) (PySem.W.BT.node (oz_36 P) PySem.W.BT.nil PySem.W.BT.nil) (PySem.W.BT.node (oz_52 P) PySem.W.BT.nil PySem.W.BT.nil)) (PySem.W.BT.node (oz_28 P) (PySem.W.BT.node (oz_44 P) PySem.W.BT.nil PySem.W.BT.nil) PySem.W.BT.nil))) (PySem.W.BT.node (PySem.W.boot_o_6 P) (PySem.W.BT.node (PySem.W.boot_o_10 P) (PySem.W.BT.node (oz_18 P) (PySem.W.BT.node (oz_34 P) PySem.W.BT.nil PySem.W.BT.nil) (PySem.W.BT.node (oz_50 P) PySem.W.BT.nil PySem.W.BT.nil)) (PySem.W.BT.node (oz_26 P) (PySem.W.BT.node (oz_42 P) PySem.W.BT.nil PySem.W.BT.nil) PySem.W.BT.nil)) (PySem.W.BT.node (oz_14 P) (PySem.W.BT.node (oz_22 P) (PySem.W.BT.node (oz_38 P) PySem.W.BT.nil PySem.W.BT.nil) PySem.W.BT.nil) (PySem.W.BT.node (oz_30 P) (PySem.W.BT.node (oz_46 P) PySem.W.BT.nil PySem.W.BT.nil) PySem.W.BT.nil)))))
noncomputable abbrev life_b : PySem.Life := PySem.Life.mk [] [] [] 0 [] [] Bool.false #[] [] 0 Bool.false Bool.false Bool.false 0 (2000 :: 10 :: 10 :: []) Bool.false 0 Bool.true [] [] 0 Bool.false
noncomputable abbrev viewBody : List PySem.Stmt := st_1 :: st_2 :: st_3 :: st_4 :: st_5 :: st_6 :: st_7 :: st_8 :: st_9 :: st_10 :: st_11 :: st_12 :: st_17 :: st_18 :: st_23 :: st_24 :: st_25 :: st_26 :: []
noncomputable abbrev loose : List PySem.Str := (PySem.Str.ofString "_QUOPRI_MAP" :: PySem.Str.ofString "_QUOPRI_HEADER_MAP" :: PySem.Str.ofString "_QUOPRI_BODY_MAP" :: PySem.Str.ofString "ascii_letters" :: PySem.Str.ofString "_QUOPRI_BODY_ENCODE_MAP" :: PySem.Str.ofString "body_encode" :: [])
noncomputable abbrev lv : List (PySem.Str × PySem.W.WData) := ((PySem.Str.ofString "ascii_letters", PySem.W.WData.str (PySem.Str.mk (List.toArray (97 :: 98 :: 99 :: 100 :: 101 :: 102 :: 103 :: 104 :: 105 :: 106 :: 107 :: 108 :: 109 :: 110 :: 111 :: 112 :: 113 :: 114 :: 115 :: 116 :: 117 :: 118 :: 119 :: 120 :: 121 :: 122 :: 65 :: 66 :: 67 :: 68 :: 69 :: 70 :: 71 :: 72 :: 73 :: 74 :: 75 :: 76 :: 77 :: 78 :: 79 :: 80 :: 81 :: 82 :: 83 :: 84 :: 85 :: 86 :: 87 :: 88 :: 89 :: 90 :: [])))) :: [])
noncomputable abbrev heap_z (P : PySem.Params) : PySem.Heap := PySem.Heap.mk (List.toArray (PySem.W.boot_o_0 P :: PySem.W.boot_o_1 P :: oz_2 P :: oz_3 P :: PySem.W.boot_o_4 P :: PySem.W.boot_o_5 P :: PySem.W.boot_o_6 P :: PySem.W.boot_o_7 P :: PySem.W.boot_o_8 P :: PySem.W.boot_o_9 P :: PySem.W.boot_o_10 P :: oz_11 P :: oz_12 P :: oz_13 P :: oz_14 P :: oz_15 P :: oz_16 P :: oz_17 P :: oz_18 P :: oz_19 P :: oz_20 P :: oz_21 P :: oz_22 P :: oz_23 P :: oz_24 P :: oz_25 P :: oz_26 P :: oz_27 P :: oz_28 P :: oz_29 P :: oz_30 P :: oz_31 P :: oz_32 P :: oz_33 P :: oz_34 P :: oz_35 P :: oz_36 P :: oz_37 P :: oz_38 P :: oz_39 P :: oz_40 P :: oz_41 P :: oz_42 P :: oz_43 P :: oz_44 P :: oz_45 P :: oz_46 P :: oz_47 P :: oz_48 P :: oz_49 P :: oz_50 P :: oz_51 P :: oz_52 P :: oz_53 P :: oz_54 P :: oz_55 P :: oz_56 P :: oz_57 P :: oz_58 P :: oz_59 P :: oz_60 P :: oz_61 P :: oz_62 P :: oz_63 P :: oz_64 P :: oz_65 P :: oz_66 P :: oz_67 P :: oz_68 P :: oz_69 P :: oz_70 P :: oz_71 P :: oz_72 P :: oz_73 P :: oz_74 P :: oz_75 P :: oz_76 P :: oz_77 P :: oz_78 P :: oz_79 P :: oz_80 P :: oz_81 P :: oz_82 P :: oz_83 P :: oz_84 P :: oz_85 P :: oz_86 P :: oz_87 P :: oz_88 P :: oz_89 P :: oz_90 P :: oz_91 P :: oz_92 P :: oz_93 P :: oz_94 P :: oz_95 P :: oz_96 P :: oz_97 P :: oz_98 P :: oz_99 P :: oz_100 P :: oz_101 P :: oz_102 P :: oz_103 P :: oz_104 P :: oz_105 P :: oz_106 P :: [])) life_z
noncomputable def K (P : PySem.Params) : PySem.W.Frag := ((nat_lit 2, PySem.Obj.mk PySem.Value.none Option.none (PySem.Data.dict (List.toArray (PySem.DictEntry.mk (PySem.PyData.keyHash P (PySem.Str.ofString "type.__subclasses__.Exception.0")) (PySem.Value.str (PySem.Str.ofString "type.__subclasses__.Exception.0") 205) (PySem.Value.int 24 0) :: PySem.DictEntry.mk (PySem.PyData.keyHash P (PySem.Str.ofString "type.__subclasses__.Exception.n")) (PySem.Value.str (PySem.Str.ofString "type.__subclasses__.Exception.n") 206) (PySem.Value.int 1 0) :: [])) 2) #[]) :: (nat_lit 3, PySem.Obj.mk (PySem.Value.type "dict") Option.none (PySem.Data.dict (List.toArray (PySem.DictEntry.mk (PySem.PyData.keyHash P (PySem.Str.ofString "__name__")) (PySem.Value.str (PySem.Str.ofString "__name__") 165) (PySem.Value.str (PySem.Str.ofString "law_rw0036_01") 1812) :: PySem.DictEntry.mk (PySem.PyData.keyHash P (PySem.Str.ofString "__doc__")) (PySem.Value.str (PySem.Str.ofString "__doc__") 166) PySem.Value.none :: PySem.DictEntry.mk (PySem.PyData.keyHash P (PySem.Str.ofString "__package__")) (PySem.Value.str (PySem.Str.ofString "__package__") 167) PySem.Value.none :: PySem.DictEntry.mk (PySem.PyData.keyHash P (PySem.Str.ofString "__loader__")) (PySem.Value.str (PySem.Str.ofString "__loader__") 168) (PySem.Value.builtin "__main__.__loader__#opaque") :: PySem.DictEntry.mk (PySem.PyData.keyHash P (PySem.Str.ofString "__spec__")) (PySem.Value.str (PySem.Str.ofString "__spec__") 169) PySem.Value.none :: PySem.DictEntry.mk (PySem.PyData.keyHash P (PySem.Str.ofString "__annotations__")) (PySem.Value.str (PySem.Str.ofString "__annotations__") 170) (PySem.Value.ref 6) :: PySem.DictEntry.mk (PySem.PyData.keyHash P (PySem.Str.ofString "__builtins__")) (PySem.Value.str (PySem.Str.ofString "__builtins__") 171) (PySem.Value.ref 4) :: PySem.DictEntry.mk (PySem.PyData.keyHash P (PySem.Str.ofString "__file__")) (PySem.Value.str (PySem.Str.ofString "__file__") 173) (PySem.Value.str (PySem.Str.ofString "/claim/cut.py") 172) :: PySem.DictEntry.mk (PySem.PyData.keyHash P (PySem.Str.ofString "__cached__")) (PySem.Value.str (PySem.Str.ofString "__cached__") 174) PySem.Value.none :: PySem.DictEntry.mk (PySem.PyData.keyHash P (PySem.Str.ofString "Error")) (PySem.Value.str (PySem.Str.ofString "Error") 208) (PySem.Value.ref 24) :: PySem.DictEntry.mk (PySem.PyData.keyHash P (PySem.Str.ofString "error_reply")) (PySem.Value.str (PySem.Str.ofString "error_reply") 224) (PySem.Value.ref 37) :: PySem.DictEntry.mk (PySem.PyData.keyHash P (PySem.Str.ofString "parse257")) (PySem.Value.str (PySem.Str.ofString "parse257") 235) (PySem.Value.ref 46) :: PySem.DictEntry.mk (PySem.PyData.keyHash P (PySem.Str.ofString "CRLF")) (PySem.Value.str (PySem.Str.ofString "CRLF") 237) (PySem.Value.str (PySem.Str.ofString "\x0d\n") 236) :: PySem.DictEntry.mk (PySem.PyData.keyHash P (PySem.Str.ofString "NL")) (PySem.Value.str (PySem.Str.ofString "NL") 239) (PySem.Value.str (PySem.Str.ofString "\n") 238) :: PySem.DictEntry.mk (PySem.PyData.keyHash P (PySem.Str.ofString "_QUOPRI_MAP")) (PySem.Value.str (PySem.Str.ofString "_QUOPRI_MAP") 1267) (PySem.Value.ref 49) :: PySem.DictEntry.mk (PySem.PyData.keyHash P (PySem.Str.ofString "_QUOPRI_HEADER_MAP")) (PySem.Value.str (PySem.Str.ofString "_QUOPRI_HEADER_MAP") 1268) (PySem.Value.ref 54) :: PySem.DictEntry.mk (PySem.PyData.keyHash P (PySem.Str.ofString "_QUOPRI_BODY_MAP")) (PySem.Value.str (PySem.Str.ofString "_QUOPRI_BODY_MAP") 1269) (PySem.Value.ref 56) :: PySem.DictEntry.mk (PySem.PyData.keyHash P (PySem.Str.ofString "ascii_lowercase")) (PySem.Value.str (PySem.Str.ofString "ascii_lowercase") 1271) (PySem.Value.str (PySem.Str.ofString "abcdefghijklmnopqrstuvwxyz") 1270) :: PySem.DictEntry.mk (PySem.PyData.keyHash P (PySem.Str.ofString "ascii_uppercase")) (PySem.Value.str (PySem.Str.ofString "ascii_uppercase") 1273) (PySem.Value.str (PySem.Str.ofString "ABCDEFGHIJKLMNOPQRSTUVWXYZ") 1272) :: PySem.DictEntry.mk (PySem.PyData.keyHash P (PySem.Str.ofString "ascii_letters")) (PySem.Value.str (PySem.Str.ofString "ascii_letters") 1275) (PySem.Value.str (PySem.Str.ofString "abcdefghijklmnopqrstuvwxyzABCDEFGHIJKLMNOPQRSTUVWXYZ") 1274) :: PySem.DictEntry.mk (PySem.PyData.keyHash P (PySem.Str.ofString "digits")) (PySem.Value.str (PySem.Str.ofString "digits") 1277) (PySem.Value.str (PySem.Str.ofString "0123456789") 1276) :: PySem.DictEntry.mk (PySem.PyData.keyHash P (PySem.Str.ofString "quote")) (PySem.Value.str (PySem.Str.ofString "quote") 1783) (PySem.Value.ref 69) :: PySem.DictEntry.mk (PySem.PyData.keyHash P (PySem.Str.ofString "_QUOPRI_BODY_ENCODE_MAP")) (PySem.Value.str (PySem.Str.ofString "_QUOPRI_BODY_ENCODE_MAP") 1784) (PySem.Value.ref 71) :: PySem.DictEntry.mk (PySem.PyData.keyHash P (PySem.Str.ofString "body_encode")) (PySem.Value.str (PySem.Str.ofString "body_encode") 1811) (PySem.Value.ref 82) :: PySem.DictEntry.mk (PySem.PyData.keyHash P (PySem.Str.ofString "_law_written")) (PySem.Value.str (PySem.Str.ofString "_law_written") 1827) (PySem.Value.ref 89) :: PySem.DictEntry.mk (PySem.PyData.keyHash P (PySem.Str.ofString "_law_due")) (PySem.Value.str (PySem.Str.ofString "_law_due") 1833) (PySem.Value.ref 94) :: PySem.DictEntry.mk (PySem.PyData.keyHash P (PySem.Str.ofString "_law_heard")) (PySem.Value.str (PySem.Str.ofString "_law_heard") 1843) (PySem.Value.ref 101) :: PySem.DictEntry.mk (PySem.PyData.keyHash P (PySem.Str.ofString "law")) (PySem.Value.str (PySem.Str.ofString "law") 1849) (PySem.Value.ref 106) :: [])) 30) #[]) :: (nat_lit 6, PySem.Obj.mk (PySem.Value.type "dict") Option.none (PySem.Data.dict #[]) #[]) :: (nat_lit 15, PySem.Obj.mk (PySem.Value.type "tuple") Option.none (PySem.Data.seq (List.toArray (PySem.Value.type "Exception" :: []))) #[]) :: (nat_lit 22, PySem.Obj.mk (PySem.Value.type "tuple") Option.none (PySem.Data.seq #[]) #[]) :: (nat_lit 23, PySem.Obj.mk (PySem.Value.type "dict") Option.none (PySem.Data.dict (List.toArray (PySem.DictEntry.mk (PySem.PyData.keyHash P (PySem.Str.ofString "__module__")) (PySem.Value.str (PySem.Str.ofString "__module__") 196) (PySem.Value.str (PySem.Str.ofString "cpy313.ftplib") 187) :: PySem.DictEntry.mk (PySem.PyData.keyHash P (PySem.Str.ofString "__firstlineno__")) (PySem.Value.str (PySem.Str.ofString "__firstlineno__") 200) (PySem.Value.int 2 199) :: PySem.DictEntry.mk (PySem.PyData.keyHash P (PySem.Str.ofString "__static_attributes__")) (PySem.Value.str (PySem.Str.ofString "__static_attributes__") 201) (PySem.Value.ref 22) :: PySem.DictEntry.mk (PySem.PyData.keyHash P (PySem.Str.ofString "__weakref__")) (PySem.Value.str (PySem.Str.ofString "__weakref__") 203) (PySem.Value.ref 25) :: PySem.DictEntry.mk (PySem.PyData.keyHash P (PySem.Str.ofString "__doc__")) (PySem.Value.str (PySem.Str.ofString "__doc__") 204) PySem.Value.none :: [])) 3) #[]) :: (nat_lit 24, PySem.Obj.mk (PySem.Value.type "type") Option.none (PySem.Data.cls (PySem.ClassData.mk (PySem.Str.ofString "Error") (PySem.Value.type "Exception" :: []) (PySem.Value.ref 24 :: PySem.Value.type "Exception" :: PySem.Value.type "BaseException" :: PySem.Value.type "object" :: []) 23 (PySem.Str.ofString "Error") Bool.true [] (PySem.Value.ref 37 :: []) Bool.false Option.none Bool.false)) (List.toArray (Option.some (PySem.Value.ref 15) :: Option.none :: Option.some (PySem.Value.str (PySem.Str.ofString "Error") 189) :: Option.some (PySem.Value.str (PySem.Str.ofString "Error") 197) :: Option.some (PySem.Value.builtin "Exception.__new__") :: Option.some (PySem.Value.bool Bool.true) :: []))) :: (nat_lit 25, PySem.Obj.mk (PySem.Value.type "getset_descriptor") Option.none (PySem.Data.fields (List.toArray (PySem.Value.str (PySem.Str.ofString "__weakref__") 202 :: PySem.Value.ref 24 :: PySem.Value.builtin "ExceptionGroup.__weakref__" :: PySem.Value.none :: []))) #[]) :: (nat_lit 28, PySem.Obj.mk (PySem.Value.type "tuple") Option.none (PySem.Data.seq (List.toArray (PySem.Value.ref 24 :: []))) #[]) :: (nat_lit 35, PySem.Obj.mk (PySem.Value.type "tuple") Option.none (PySem.Data.seq #[]) #[]) :: (nat_lit 36, PySem.Obj.mk (PySem.Value.type "dict") Option.none (PySem.Data.dict (List.toArray (PySem.DictEntry.mk (PySem.PyData.keyHash P (PySem.Str.ofString "__module__")) (PySem.Value.str (PySem.Str.ofString "__module__") 216) (PySem.Value.str (PySem.Str.ofString "cpy313.ftplib") 187) :: PySem.DictEntry.mk (PySem.PyData.keyHash P (PySem.Str.ofString "__firstlineno__")) (PySem.Value.str (PySem.Str.ofString "__firstlineno__") 220) (PySem.Value.int 4 219) :: PySem.DictEntry.mk (PySem.PyData.keyHash P (PySem.Str.ofString "__static_attributes__")) (PySem.Value.str (PySem.Str.ofString "__static_attributes__") 221) (PySem.Value.ref 35) :: PySem.DictEntry.mk (PySem.PyData.keyHash P (PySem.Str.ofString "__doc__")) (PySem.Value.str (PySem.Str.ofString "__doc__") 222) PySem.Value.none :: [])) 2) #[]) :: (nat_lit 37, PySem.Obj.mk (PySem.Value.type "type") Option.none (PySem.Data.cls (PySem.ClassData.mk (PySem.Str.ofString "error_reply") (PySem.Value.ref 24 :: []) (PySem.Value.ref 37 :: PySem.Value.ref 24 :: PySem.Value.type "Exception" :: PySem.Value.type "BaseException" :: PySem.Value.type "object" :: []) 36 (PySem.Str.ofString "error_reply") Bool.true [] [] Bool.false Option.none Bool.false)) (List.toArray (Option.some (PySem.Value.ref 28) :: Option.none :: Option.some (PySem.Value.str (PySem.Str.ofString "error_reply") 209) :: Option.some (PySem.Value.str (PySem.Str.ofString "error_reply") 217) :: Option.some (PySem.Value.builtin "Exception.__new__") :: Option.some (PySem.Value.bool Bool.true) :: []))) :: (nat_lit 40, PySem.Obj.mk (PySem.Value.type "tuple") Option.none (PySem.Data.seq #[]) #[]) :: (nat_lit 42, PySem.Obj.mk (PySem.Value.type "tuple") Option.none (PySem.Data.seq (List.toArray (PySem.Value.str (PySem.Str.ofString "resp") 228 :: PySem.Value.str (PySem.Str.ofString "dirname") 229 :: PySem.Value.str (PySem.Str.ofString "i") 230 :: PySem.Value.str (PySem.Str.ofString "n") 231 :: PySem.Value.str (PySem.Str.ofString "c") 232 :: []))) #[]) :: (nat_lit 43, PySem.Obj.mk (PySem.Value.type "tuple") Option.none (PySem.Data.seq #[]) #[]) :: (nat_lit 45, PySem.Obj.mk (PySem.Value.type "code") Option.none (PySem.Data.fields (List.toArray (PySem.Value.str (PySem.Str.ofString "parse257") 225 :: PySem.Value.str (PySem.Str.ofString "parse257") 226 :: PySem.Value.str (PySem.Str.ofString "/claim/cut.py") 227 :: PySem.Value.int 6 0 :: PySem.Value.int 1 0 :: PySem.Value.int 0 0 :: PySem.Value.int 0 0 :: PySem.Value.int 3 0 :: PySem.Value.ref 40 :: PySem.Value.bool Bool.true :: PySem.Value.int 181 0 :: PySem.Value.ref 41 :: PySem.Value.none :: PySem.Value.ref 42 :: PySem.Value.ref 43 :: PySem.Value.ref 44 :: PySem.Value.int 233 0 :: PySem.Value.int 6 0 :: PySem.Value.str (PySem.Str.ofString "/claim/cut.py") 234 :: []))) #[]) :: (nat_lit 46, PySem.Obj.mk (PySem.Value.type "function") Option.none (PySem.Data.func (PySem.FuncData.mk (PySem.Str.ofString "parse257") (PySem.Str.ofString "parse257") fa_3 (PySem.FuncBody.stmts fb_3) fs_3 3 [] PySem.Value.none PySem.Value.none PySem.Value.none (PySem.Value.str (PySem.Str.ofString "cpy313.ftplib") 187) Option.none (PySem.Value.ref 45) PySem.Value.none 0)) #[]) :: (nat_lit 49, PySem.Obj.mk (PySem.Value.type "list") Option.none (PySem.Data.seq (List.toArray (PySem.Value.str (PySem.Str.ofString "=00") 246 :: PySem.Value.str (PySem.Str.ofString "=01") 250 :: PySem.Value.str (PySem.Str.ofString "=02") 254 :: PySem.Value.str (PySem.Str.ofString "=03") 258 :: PySem.Value.str (PySem.Str.ofString "=04") 262 :: PySem.Value.str (PySem.Str.ofString "=05") 266 :: PySem.Value.str (PySem.Str.ofString "=06") 270 :: PySem.Value.str (PySem.Str.ofString "=07") 274 :: PySem.Value.str (PySem.Str.ofString "=08") 278 :: PySem.Value.str (PySem.Str.ofString "=09") 282 :: PySem.Value.str (PySem.Str.ofString "=0A") 286 :: PySem.Value.str (PySem.Str.ofString "=0B") 290 :: PySem.Value.str (PySem.Str.ofString "=0C") 294 :: PySem.Value.str (PySem.Str.ofString "=0D") 298 :: PySem.Value.str (PySem.Str.ofString "=0E") 302 :: PySem.Value.str (PySem.Str.ofString "=0F") 306 :: PySem.Value.str (PySem.Str.ofString "=10") 310 :: PySem.Value.str (PySem.Str.ofString "=11") 314 :: PySem.Value.str (PySem.Str.ofString "=12") 318 :: PySem.Value.str (PySem.Str.ofString "=13") 322 :: PySem.Value.str (PySem.Str.ofString "=14") 326 :: PySem.Value.str (PySem.Str.ofString "=15") 330 :: PySem.Value.str (PySem.Str.ofString "=16") 334 :: PySem.Value.str (PySem.Str.ofString "=17") 338 :: PySem.Value.str (PySem.Str.ofString "=18") 342 :: PySem.Value.str (PySem.Str.ofString "=19") 346 :: PySem.Value.str (PySem.Str.ofString "=1A") 350 :: PySem.Value.str (PySem.Str.ofString "=1B") 354 :: PySem.Value.str (PySem.Str.ofString "=1C") 358 :: PySem.Value.str (PySem.Str.ofString "=1D") 362 :: PySem.Value.str (PySem.Str.ofString "=1E") 366 :: PySem.Value.str (PySem.Str.ofString "=1F") 370 :: PySem.Value.str (PySem.Str.ofString "=20") 374 :: PySem.Value.str (PySem.Str.ofString "=21") 378 :: PySem.Value.str (PySem.Str.ofString "=22") 382 :: PySem.Value.str (PySem.Str.ofString "=23") 386 :: PySem.Value.str (PySem.Str.ofString "=24") 390 :: PySem.Value.str (PySem.Str.ofString "=25") 394 :: PySem.Value.str (PySem.Str.ofString "=26") 398 :: PySem.Value.str (PySem.Str.ofString "=27") 402 :: PySem.Value.str (PySem.Str.ofString "=28") 406 :: PySem.Value.str (PySem.Str.ofString "=29") 410 :: PySem.Value.str (PySem.Str.ofString "=2A") 414 :: PySem.Value.str (PySem.Str.ofString "=2B") 418 :: PySem.Value.str (PySem.Str.ofString "=2C") 422 :: PySem.Value.str (PySem.Str.ofString "=2D") 426 :: PySem.Value.str (PySem.Str.ofString "=2E") 430 :: PySem.Value.str (PySem.Str.ofString "=2F") 434 :: PySem.Value.str (PySem.Str.ofString "=30") 438 :: PySem.Value.str (PySem.Str.ofString "=31") 442 :: PySem.Value.str (PySem.Str.ofString "=32") 446 :: PySem.Value.str (PySem.Str.ofString "=33") 450 :: PySem.Value.str (PySem.Str.ofString "=34") 454 :: PySem.Value.str (PySem.Str.ofString "=35") 458 :: PySem.Value.str (PySem.Str.ofString "=36") 462 :: PySem.Value.str (PySem.Str.ofString "=37") 466 :: PySem.Value.str (PySem.Str.ofString "=38") 470 :: PySem.Value.str (PySem.Str.ofString "=39") 474 :: PySem.Value.str (PySem.Str.ofString "=3A") 478 :: PySem.Value.str (PySem.Str.ofString "=3B") 482 :: PySem.Value.str (PySem.Str.ofString "=3C") 486 :: PySem.Value.str (PySem.Str.ofString "=3D") 490 :: PySem.Value.str (PySem.Str.ofString "=3E") 494 :: PySem.Value.str (PySem.Str.ofString "=3F") 498 :: PySem.Value.str (PySem.Str.ofString "=40") 502 :: PySem.Value.str (PySem.Str.ofString "=41") 506 :: PySem.Value.str (PySem.Str.ofString "=42") 510 :: PySem.Value.str (PySem.Str.ofString "=43") 514 :: PySem.Value.str (PySem.Str.ofString "=44") 518 :: PySem.Value.str (PySem.Str.ofString "=45") 522 :: PySem.Value.str (PySem.Str.ofString "=46") 526 :: PySem.Value.str (PySem.Str.ofString "=47") 530 :: PySem.Value.str (PySem.Str.ofString "=48") 534 :: PySem.Value.str (PySem.Str.ofString "=49") 538 :: PySem.Value.str (PySem.Str.ofString "=4A") 542 :: PySem.Value.str (PySem.Str.ofString "=4B") 546 :: PySem.Value.str (PySem.Str.ofString "=4C") 550 :: PySem.Value.str (PySem.Str.ofString "=4D") 554 :: PySem.Value.str (PySem.Str.ofString "=4E") 558 :: PySem.Value.str (PySem.Str.ofString "=4F") 562 :: PySem.Value.str (PySem.Str.ofString "=50") 566 :: PySem.Value.str (PySem.Str.ofString "=51") 570 :: PySem.Value.str (PySem.Str.ofString "=52") 574 :: PySem.Value.str (PySem.Str.ofString "=53") 578 :: PySem.Value.str (PySem.Str.ofString "=54") 582 :: PySem.Value.str (PySem.Str.ofString "=55") 586 :: PySem.Value.str (PySem.Str.ofString "=56") 590 :: PySem.Value.str (PySem.Str.ofString "=57") 594 :: PySem.Value.str (PySem.Str.ofString "=58") 598 :: PySem.Value.str (PySem.Str.ofString "=59") 602 :: PySem.Value.str (PySem.Str.ofString "=5A") 606 :: PySem.Value.str (PySem.Str.ofString "=5B") 610 :: PySem.Value.str (PySem.Str.ofString "=5C") 614 :: PySem.Value.str (PySem.Str.ofString "=5D") 618 :: PySem.Value.str (PySem.Str.ofString "=5E") 622 :: PySem.Value.str (PySem.Str.ofString "=5F") 626 :: PySem.Value.str (PySem.Str.ofString "=60") 630 :: PySem.Value.str (PySem.Str.ofString "=61") 634 :: PySem.Value.str (PySem.Str.ofString "=62") 638 :: PySem.Value.str (PySem.Str.ofString "=63") 642 :: PySem.Value.str (PySem.Str.ofString "=64") 646 :: PySem.Value.str (PySem.Str.ofString "=65") 650 :: PySem.Value.str (PySem.Str.ofString "=66") 654 :: PySem.Value.str (PySem.Str.ofString "=67") 658 :: PySem.Value.str (PySem.Str.ofString "=68") 662 :: PySem.Value.str (PySem.Str.ofString "=69") 666 :: PySem.Value.str (PySem.Str.ofString "=6A") 670 :: PySem.Value.str (PySem.Str.ofString "=6B") 674 :: PySem.Value.str (PySem.Str.ofString "=6C") 678 :: PySem.Value.str (PySem.Str.ofString "=6D") 682 :: PySem.Value.str (PySem.Str.ofString "=6E") 686 :: PySem.Value.str (PySem.Str.ofString "=6F") 690 :: PySem.Value.str (PySem.Str.ofString "=70") 694 :: PySem.Value.str (PySem.Str.ofString "=71") 698 :: PySem.Value.str (PySem.Str.ofString "=72") 702 :: PySem.Value.str (PySem.Str.ofString "=73") 706 :: PySem.Value.str (PySem.Str.ofString "=74") 710 :: PySem.Value.str (PySem.Str.ofString "=75") 714 :: PySem.Value.str (PySem.Str.ofString "=76") 718 :: PySem.Value.str (PySem.Str.ofString "=77") 722 :: PySem.Value.str (PySem.Str.ofString "=78") 726 :: PySem.Value.str (PySem.Str.ofString "=79") 730 :: PySem.Value.str (PySem.Str.ofString "=7A") 734 :: PySem.Value.str (PySem.Str.ofString "=7B") 738 :: PySem.Value.str (PySem.Str.ofString "=7C") 742 :: PySem.Value.str (PySem.Str.ofString "=7D") 746 :: PySem.Value.str (PySem.Str.ofString "=7E") 750 :: PySem.Value.str (PySem.Str.ofString "=7F") 754 :: PySem.Value.str (PySem.Str.ofString "=80") 758 :: PySem.Value.str (PySem.Str.ofString "=81") 762 :: PySem.Value.str (PySem.Str.ofString "=82") 766 :: PySem.Value.str (PySem.Str.ofString "=83") 770 :: PySem.Value.str (PySem.Str.ofString "=84") 774 :: PySem.Value.str (PySem.Str.ofString "=85") 778 :: PySem.Value.str (PySem.Str.ofString "=86") 782 :: PySem.Value.str (PySem.Str.ofString "=87") 786 :: PySem.Value.str (PySem.Str.ofString "=88") 790 :: PySem.Value.str (PySem.Str.ofString "=89") 794 :: PySem.Value.str (PySem.Str.ofString "=8A") 798 :: PySem.Value.str (PySem.Str.ofString "=8B") 802 :: PySem.Value.str (PySem.Str.ofString "=8C") 806 :: PySem.Value.str (PySem.Str.ofString "=8D") 810 :: PySem.Value.str (PySem.Str.ofString "=8E") 814 :: PySem.Value.str (PySem.Str.ofString "=8F") 818 :: PySem.Value.str (PySem.Str.ofString "=90") 822 :: PySem.Value.str (PySem.Str.ofString "=91") 826 :: PySem.Value.str (PySem.Str.ofString "=92") 830 :: PySem.Value.str (PySem.Str.ofString "=93") 834 :: PySem.Value.str (PySem.Str.ofString "=94") 838 :: PySem.Value.str (PySem.Str.ofString "=95") 842 :: PySem.Value.str (PySem.Str.ofString "=96") 846 :: PySem.Value.str (PySem.Str.ofString "=97") 850 :: PySem.Value.str (PySem.Str.ofString "=98") 854 :: PySem.Value.str (PySem.Str.ofString "=99") 858 :: PySem.Value.str (PySem.Str.ofString "=9A") 862 :: PySem.Value.str (PySem.Str.ofString "=9B") 866 :: PySem.Value.str (PySem.Str.ofString "=9C") 870 :: PySem.Value.str (PySem.Str.ofString "=9D") 874 :: PySem.Value.str (PySem.Str.ofString "=9E") 878 :: PySem.Value.str (PySem.Str.ofString "=9F") 882 :: PySem.Value.str (PySem.Str.ofString "=A0") 886 :: PySem.Value.str (PySem.Str.ofString "=A1") 890 :: PySem.Value.str (PySem.Str.ofString "=A2") 894 :: PySem.Value.str (PySem.Str.ofString "=A3") 898 :: PySem.Value.str (PySem.Str.ofString "=A4") 902 :: PySem.Value.str (PySem.Str.ofString "=A5") 906 :: PySem.Value.str (PySem.Str.ofString "=A6") 910 :: PySem.Value.str (PySem.Str.ofString "=A7") 914 :: PySem.Value.str (PySem.Str.ofString "=A8") 918 :: PySem.Value.str (PySem.Str.ofString "=A9") 922 :: PySem.Value.str (PySem.Str.ofString "=AA") 926 :: PySem.Value.str (PySem.Str.ofString "=AB") 930 :: PySem.Value.str (PySem.Str.ofString "=AC") 934 :: PySem.Value.str (PySem.Str.ofString "=AD") 938 :: PySem.Value.str (PySem.Str.ofString "=AE") 942 :: PySem.Value.str (PySem.Str.ofString "=AF") 946 :: PySem.Value.str (PySem.Str.ofString "=B0") 950 :: PySem.Value.str (PySem.Str.ofString "=B1") 954 :: PySem.Value.str (PySem.Str.ofString "=B2") 958 :: PySem.Value.str (PySem.Str.ofString "=B3") 962 :: PySem.Value.str (PySem.Str.ofString "=B4") 966 :: PySem.Value.str (PySem.Str.ofString "=B5") 970 :: PySem.Value.str (PySem.Str.ofString "=B6") 974 :: PySem.Value.str (PySem.Str.ofString "=B7") 978 :: PySem.Value.str (PySem.Str.ofString "=B8") 982 :: PySem.Value.str (PySem.Str.ofString "=B9") 986 :: PySem.Value.str (PySem.Str.ofString "=BA") 990 :: PySem.Value.str (PySem.Str.ofString "=BB") 994 :: PySem.Value.str (PySem.Str.ofString "=BC") 998 :: PySem.Value.str (PySem.Str.ofString "=BD") 1002 :: PySem.Value.str (PySem.Str.ofString "=BE") 1006 :: PySem.Value.str (PySem.Str.ofString "=BF") 1010 :: PySem.Value.str (PySem.Str.ofString "=C0") 1014 :: PySem.Value.str (PySem.Str.ofString "=C1") 1018 :: PySem.Value.str (PySem.Str.ofString "=C2") 1022 :: PySem.Value.str (PySem.Str.ofString "=C3") 1026 :: PySem.Value.str (PySem.Str.ofString "=C4") 1030 :: PySem.Value.str (PySem.Str.ofString "=C5") 1034 :: PySem.Value.str (PySem.Str.ofString "=C6") 1038 :: PySem.Value.str (PySem.Str.ofString "=C7") 1042 :: PySem.Value.str (PySem.Str.ofString "=C8") 1046 :: PySem.Value.str (PySem.Str.ofString "=C9") 1050 :: PySem.Value.str (PySem.Str.ofString "=CA") 1054 :: PySem.Value.str (PySem.Str.ofString "=CB") 1058 :: PySem.Value.str (PySem.Str.ofString "=CC") 1062 :: PySem.Value.str (PySem.Str.ofString "=CD") 1066 :: PySem.Value.str (PySem.Str.ofString "=CE") 1070 :: PySem.Value.str (PySem.Str.ofString "=CF") 1074 :: PySem.Value.str (PySem.Str.ofString "=D0") 1078 :: PySem.Value.str (PySem.Str.ofString "=D1") 1082 :: PySem.Value.str (PySem.Str.ofString "=D2") 1086 :: PySem.Value.str (PySem.Str.ofString "=D3") 1090 :: PySem.Value.str (PySem.Str.ofString "=D4") 1094 :: PySem.Value.str (PySem.Str.ofString "=D5") 1098 :: PySem.Value.str (PySem.Str.ofString "=D6") 1102 :: PySem.Value.str (PySem.Str.ofString "=D7") 1106 :: PySem.Value.str (PySem.Str.ofString "=D8") 1110 :: PySem.Value.str (PySem.Str.ofString "=D9") 1114 :: PySem.Value.str (PySem.Str.ofString "=DA") 1118 :: PySem.Value.str (PySem.Str.ofString "=DB") 1122 :: PySem.Value.str (PySem.Str.ofString "=DC") 1126 :: PySem.Value.str (PySem.Str.ofString "=DD") 1130 :: PySem.Value.str (PySem.Str.ofString "=DE") 1134 :: PySem.Value.str (PySem.Str.ofString "=DF") 1138 :: PySem.Value.str (PySem.Str.ofString "=E0") 1142 :: PySem.Value.str (PySem.Str.ofString "=E1") 1146 :: PySem.Value.str (PySem.Str.ofString "=E2") 1150 :: PySem.Value.str (PySem.Str.ofString "=E3") 1154 :: PySem.Value.str (PySem.Str.ofString "=E4") 1158 :: PySem.Value.str (PySem.Str.ofString "=E5") 1162 :: PySem.Value.str (PySem.Str.ofString "=E6") 1166 :: PySem.Value.str (PySem.Str.ofString "=E7") 1170 :: PySem.Value.str (PySem.Str.ofString "=E8") 1174 :: PySem.Value.str (PySem.Str.ofString "=E9") 1178 :: PySem.Value.str (PySem.Str.ofString "=EA") 1182 :: PySem.Value.str (PySem.Str.ofString "=EB") 1186 :: PySem.Value.str (PySem.Str.ofString "=EC") 1190 :: PySem.Value.str (PySem.Str.ofString "=ED") 1194 :: PySem.Value.str (PySem.Str.ofString "=EE") 1198 :: PySem.Value.str (PySem.Str.ofString "=EF") 1202 :: PySem.Value.str (PySem.Str.ofString "=F0") 1206 :: PySem.Value.str (PySem.Str.ofString "=F1") 1210 :: PySem.Value.str (PySem.Str.ofString "=F2") 1214 :: PySem.Value.str (PySem.Str.ofString "=F3") 1218 :: PySem.Value.str (PySem.Str.ofString "=F4") 1222 :: PySem.Value.str (PySem.Str.ofString "=F5") 1226 :: PySem.Value.str (PySem.Str.ofString "=F6") 1230 :: PySem.Value.str (PySem.Str.ofString "=F7") 1234 :: PySem.Value.str (PySem.Str.ofString "=F8") 1238 :: PySem.Value.str (PySem.Str.ofString "=F9") 1242 :: PySem.Value.str (PySem.Str.ofString "=FA") 1246 :: PySem.Value.str (PySem.Str.ofString "=FB") 1250 :: PySem.Value.str (PySem.Str.ofString "=FC") 1254 :: PySem.Value.str (PySem.Str.ofString "=FD") 1258 :: PySem.Value.str (PySem.Str.ofString "=FE") 1262 :: PySem.Value.str (PySem.Str.ofString "=FF") 1266 :: [])) 256) #[]) :: (nat_lit 54, PySem.Obj.mk (PySem.Value.type "list") Option.none (PySem.Data.seq (List.toArray (PySem.Value.str (PySem.Str.ofString "=00") 246 :: PySem.Value.str (PySem.Str.ofString "=01") 250 :: PySem.Value.str (PySem.Str.ofString "=02") 254 :: PySem.Value.str (PySem.Str.ofString "=03") 258 :: PySem.Value.str (PySem.Str.ofString "=04") 262 :: PySem.Value.str (PySem.Str.ofString "=05") 266 :: PySem.Value.str (PySem.Str.ofString "=06") 270 :: PySem.Value.str (PySem.Str.ofString "=07") 274 :: PySem.Value.str (PySem.Str.ofString "=08") 278 :: PySem.Value.str (PySem.Str.ofString "=09") 282 :: PySem.Value.str (PySem.Str.ofString "=0A") 286 :: PySem.Value.str (PySem.Str.ofString "=0B") 290 :: PySem.Value.str (PySem.Str.ofString "=0C") 294 :: PySem.Value.str (PySem.Str.ofString "=0D") 298 :: PySem.Value.str (PySem.Str.ofString "=0E") 302 :: PySem.Value.str (PySem.Str.ofString "=0F") 306 :: PySem.Value.str (PySem.Str.ofString "=10") 310 :: PySem.Value.str (PySem.Str.ofString "=11") 314 :: PySem.Value.str (PySem.Str.ofString "=12") 318 :: PySem.Value.str (PySem.Str.ofString "=13") 322 :: PySem.Value.str (PySem.Str.ofString "=14") 326 :: PySem.Value.str (PySem.Str.ofString "=15") 330 :: PySem.Value.str (PySem.Str.ofString "=16") 334 :: PySem.Value.str (PySem.Str.ofString "=17") 338 :: PySem.Value.str (PySem.Str.ofString "=18") 342 :: PySem.Value.str (PySem.Str.ofString "=19") 346 :: PySem.Value.str (PySem.Str.ofString "=1A") 350 :: PySem.Value.str (PySem.Str.ofString "=1B") 354 :: PySem.Value.str (PySem.Str.ofString "=1C") 358 :: PySem.Value.str (PySem.Str.ofString "=1D") 362 :: PySem.Value.str (PySem.Str.ofString "=1E") 366 :: PySem.Value.str (PySem.Str.ofString "=1F") 370 :: PySem.Value.str (PySem.Str.ofString "_") 1488 :: PySem.Value.str (PySem.Str.ofString "!") 1292 :: PySem.Value.str (PySem.Str.ofString "=22") 382 :: PySem.Value.str (PySem.Str.ofString "=23") 386 :: PySem.Value.str (PySem.Str.ofString "=24") 390 :: PySem.Value.str (PySem.Str.ofString "=25") 394 :: PySem.Value.str (PySem.Str.ofString "=26") 398 :: PySem.Value.str (PySem.Str.ofString "=27") 402 :: PySem.Value.str (PySem.Str.ofString "=28") 406 :: PySem.Value.str (PySem.Str.ofString "=29") 410 :: PySem.Value.str (PySem.Str.ofString "*") 1295 :: PySem.Value.str (PySem.Str.ofString "+") 1298 :: PySem.Value.str (PySem.Str.ofString "=2C") 422 :: PySem.Value.str (PySem.Str.ofString "-") 1289 :: PySem.Value.str (PySem.Str.ofString "=2E") 430 :: PySem.Value.str (PySem.Str.ofString "/") 1301 :: PySem.Value.str (PySem.Str.ofString "0") 1460 :: PySem.Value.str (PySem.Str.ofString "1") 1463 :: PySem.Value.str (PySem.Str.ofString "2") 1466 :: PySem.Value.str (PySem.Str.ofString "3") 1469 :: PySem.Value.str (PySem.Str.ofString "4") 1472 :: PySem.Value.str (PySem.Str.ofString "5") 1475 :: PySem.Value.str (PySem.Str.ofString "6") 1478 :: PySem.Value.str (PySem.Str.ofString "7") 1481 :: PySem.Value.str (PySem.Str.ofString "8") 1484 :: PySem.Value.str (PySem.Str.ofString "9") 1487 :: PySem.Value.str (PySem.Str.ofString "=3A") 478 :: PySem.Value.str (PySem.Str.ofString "=3B") 482 :: PySem.Value.str (PySem.Str.ofString "=3C") 486 :: PySem.Value.str (PySem.Str.ofString "=3D") 490 :: PySem.Value.str (PySem.Str.ofString "=3E") 494 :: PySem.Value.str (PySem.Str.ofString "=3F") 498 :: PySem.Value.str (PySem.Str.ofString "=40") 502 :: PySem.Value.str (PySem.Str.ofString "A") 1382 :: PySem.Value.str (PySem.Str.ofString "B") 1385 :: PySem.Value.str (PySem.Str.ofString "C") 1388 :: PySem.Value.str (PySem.Str.ofString "D") 1391 :: PySem.Value.str (PySem.Str.ofString "E") 1394 :: PySem.Value.str (PySem.Str.ofString "F") 1397 :: PySem.Value.str (PySem.Str.ofString "G") 1400 :: PySem.Value.str (PySem.Str.ofString "H") 1403 :: PySem.Value.str (PySem.Str.ofString "I") 1406 :: PySem.Value.str (PySem.Str.ofString "J") 1409 :: PySem.Value.str (PySem.Str.ofString "K") 1412 :: PySem.Value.str (PySem.Str.ofString "L") 1415 :: PySem.Value.str (PySem.Str.ofString "M") 1418 :: PySem.Value.str (PySem.Str.ofString "N") 1421 :: PySem.Value.str (PySem.Str.ofString "O") 1424 :: PySem.Value.str (PySem.Str.ofString "P") 1427 :: PySem.Value.str (PySem.Str.ofString "Q") 1430 :: PySem.Value.str (PySem.Str.ofString "R") 1433 :: PySem.Value.str (PySem.Str.ofString "S") 1436 :: PySem.Value.str (PySem.Str.ofString "T") 1439 :: PySem.Value.str (PySem.Str.ofString "U") 1442 :: PySem.Value.str (PySem.Str.ofString "V") 1445 :: PySem.Value.str (PySem.Str.ofString "W") 1448 :: PySem.Value.str (PySem.Str.ofString "X") 1451 :: PySem.Value.str (PySem.Str.ofString "Y") 1454 :: PySem.Value.str (PySem.Str.ofString "Z") 1457 :: PySem.Value.str (PySem.Str.ofString "=5B") 610 :: PySem.Value.str (PySem.Str.ofString "=5C") 614 :: PySem.Value.str (PySem.Str.ofString "=5D") 618 :: PySem.Value.str (PySem.Str.ofString "=5E") 622 :: PySem.Value.str (PySem.Str.ofString "=5F") 626 :: PySem.Value.str (PySem.Str.ofString "=60") 630 :: PySem.Value.str (PySem.Str.ofString "a") 1304 :: PySem.Value.str (PySem.Str.ofString "b") 1307 :: PySem.Value.str (PySem.Str.ofString "c") 1310 :: PySem.Value.str (PySem.Str.ofString "d") 1313 :: PySem.Value.str (PySem.Str.ofString "e") 1316 :: PySem.Value.str (PySem.Str.ofString "f") 1319 :: PySem.Value.str (PySem.Str.ofString "g") 1322 :: PySem.Value.str (PySem.Str.ofString "h") 1325 :: PySem.Value.str (PySem.Str.ofString "i") 1328 :: PySem.Value.str (PySem.Str.ofString "j") 1331 :: PySem.Value.str (PySem.Str.ofString "k") 1334 :: PySem.Value.str (PySem.Str.ofString "l") 1337 :: PySem.Value.str (PySem.Str.ofString "m") 1340 :: PySem.Value.str (PySem.Str.ofString "n") 1343 :: PySem.Value.str (PySem.Str.ofString "o") 1346 :: PySem.Value.str (PySem.Str.ofString "p") 1349 :: PySem.Value.str (PySem.Str.ofString "q") 1352 :: PySem.Value.str (PySem.Str.ofString "r") 1355 :: PySem.Value.str (PySem.Str.ofString "s") 1358 :: PySem.Value.str (PySem.Str.ofString "t") 1361 :: PySem.Value.str (PySem.Str.ofString "u") 1364 :: PySem.Value.str (PySem.Str.ofString "v") 1367 :: PySem.Value.str (PySem.Str.ofString "w") 1370 :: PySem.Value.str (PySem.Str.ofString "x") 1373 :: PySem.Value.str (PySem.Str.ofString "y") 1376 :: PySem.Value.str (PySem.Str.ofString "z") 1379 :: PySem.Value.str (PySem.Str.ofString "=7B") 738 :: PySem.Value.str (PySem.Str.ofString "=7C") 742 :: PySem.Value.str (PySem.Str.ofString "=7D") 746 :: PySem.Value.str (PySem.Str.ofString "=7E") 750 :: PySem.Value.str (PySem.Str.ofString "=7F") 754 :: PySem.Value.str (PySem.Str.ofString "=80") 758 :: PySem.Value.str (PySem.Str.ofString "=81") 762 :: PySem.Value.str (PySem.Str.ofString "=82") 766 :: PySem.Value.str (PySem.Str.ofString "=83") 770 :: PySem.Value.str (PySem.Str.ofString "=84") 774 :: PySem.Value.str (PySem.Str.ofString "=85") 778 :: PySem.Value.str (PySem.Str.ofString "=86") 782 :: PySem.Value.str (PySem.Str.ofString "=87") 786 :: PySem.Value.str (PySem.Str.ofString "=88") 790 :: PySem.Value.str (PySem.Str.ofString "=89") 794 :: PySem.Value.str (PySem.Str.ofString "=8A") 798 :: PySem.Value.str (PySem.Str.ofString "=8B") 802 :: PySem.Value.str (PySem.Str.ofString "=8C") 806 :: PySem.Value.str (PySem.Str.ofString "=8D") 810 :: PySem.Value.str (PySem.Str.ofString "=8E") 814 :: PySem.Value.str (PySem.Str.ofString "=8F") 818 :: PySem.Value.str (PySem.Str.ofString "=90") 822 :: PySem.Value.str (PySem.Str.ofString "=91") 826 :: PySem.Value.str (PySem.Str.ofString "=92") 830 :: PySem.Value.str (PySem.Str.ofString "=93") 834 :: PySem.Value.str (PySem.Str.ofString "=94") 838 :: PySem.Value.str (PySem.Str.ofString "=95") 842 :: PySem.Value.str (PySem.Str.ofString "=96") 846 :: PySem.Value.str (PySem.Str.ofString "=97") 850 :: PySem.Value.str (PySem.Str.ofString "=98") 854 :: PySem.Value.str (PySem.Str.ofString "=99") 858 :: PySem.Value.str (PySem.Str.ofString "=9A") 862 :: PySem.Value.str (PySem.Str.ofString "=9B") 866 :: PySem.Value.str (PySem.Str.ofString "=9C") 870 :: PySem.Value.str (PySem.Str.ofString "=9D") 874 :: PySem.Value.str (PySem.Str.ofString "=9E") 878 :: PySem.Value.str (PySem.Str.ofString "=9F") 882 :: PySem.Value.str (PySem.Str.ofString "=A0") 886 :: PySem.Value.str (PySem.Str.ofString "=A1") 890 :: PySem.Value.str (PySem.Str.ofString "=A2") 894 :: PySem.Value.str (PySem.Str.ofString "=A3") 898 :: PySem.Value.str (PySem.Str.ofString "=A4") 902 :: PySem.Value.str (PySem.Str.ofString "=A5") 906 :: PySem.Value.str (PySem.Str.ofString "=A6") 910 :: PySem.Value.str (PySem.Str.ofString "=A7") 914 :: PySem.Value.str (PySem.Str.ofString "=A8") 918 :: PySem.Value.str (PySem.Str.ofString "=A9") 922 :: PySem.Value.str (PySem.Str.ofString "=AA") 926 :: PySem.Value.str (PySem.Str.ofString "=AB") 930 :: PySem.Value.str (PySem.Str.ofString "=AC") 934 :: PySem.Value.str (PySem.Str.ofString "=AD") 938 :: PySem.Value.str (PySem.Str.ofString "=AE") 942 :: PySem.Value.str (PySem.Str.ofString "=AF") 946 :: PySem.Value.str (PySem.Str.ofString "=B0") 950 :: PySem.Value.str (PySem.Str.ofString "=B1") 954 :: PySem.Value.str (PySem.Str.ofString "=B2") 958 :: PySem.Value.str (PySem.Str.ofString "=B3") 962 :: PySem.Value.str (PySem.Str.ofString "=B4") 966 :: PySem.Value.str (PySem.Str.ofString "=B5") 970 :: PySem.Value.str (PySem.Str.ofString "=B6") 974 :: PySem.Value.str (PySem.Str.ofString "=B7") 978 :: PySem.Value.str (PySem.Str.ofString "=B8") 982 :: PySem.Value.str (PySem.Str.ofString "=B9") 986 :: PySem.Value.str (PySem.Str.ofString "=BA") 990 :: PySem.Value.str (PySem.Str.ofString "=BB") 994 :: PySem.Value.str (PySem.Str.ofString "=BC") 998 :: PySem.Value.str (PySem.Str.ofString "=BD") 1002 :: PySem.Value.str (PySem.Str.ofString "=BE") 1006 :: PySem.Value.str (PySem.Str.ofString "=BF") 1010 :: PySem.Value.str (PySem.Str.ofString "=C0") 1014 :: PySem.Value.str (PySem.Str.ofString "=C1") 1018 :: PySem.Value.str (PySem.Str.ofString "=C2") 1022 :: PySem.Value.str (PySem.Str.ofString "=C3") 1026 :: PySem.Value.str (PySem.Str.ofString "=C4") 1030 :: PySem.Value.str (PySem.Str.ofString "=C5") 1034 :: PySem.Value.str (PySem.Str.ofString "=C6") 1038 :: PySem.Value.str (PySem.Str.ofString "=C7") 1042 :: PySem.Value.str (PySem.Str.ofString "=C8") 1046 :: PySem.Value.str (PySem.Str.ofString "=C9") 1050 :: PySem.Value.str (PySem.Str.ofString "=CA") 1054 :: PySem.Value.str (PySem.Str.ofString "=CB") 1058 :: PySem.Value.str (PySem.Str.ofString "=CC") 1062 :: PySem.Value.str (PySem.Str.ofString "=CD") 1066 :: PySem.Value.str (PySem.Str.ofString "=CE") 1070 :: PySem.Value.str (PySem.Str.ofString "=CF") 1074 :: PySem.Value.str (PySem.Str.ofString "=D0") 1078 :: PySem.Value.str (PySem.Str.ofString "=D1") 1082 :: PySem.Value.str (PySem.Str.ofString "=D2") 1086 :: PySem.Value.str (PySem.Str.ofString "=D3") 1090 :: PySem.Value.str (PySem.Str.ofString "=D4") 1094 :: PySem.Value.str (PySem.Str.ofString "=D5") 1098 :: PySem.Value.str (PySem.Str.ofString "=D6") 1102 :: PySem.Value.str (PySem.Str.ofString "=D7") 1106 :: PySem.Value.str (PySem.Str.ofString "=D8") 1110 :: PySem.Value.str (PySem.Str.ofString "=D9") 1114 :: PySem.Value.str (PySem.Str.ofString "=DA") 1118 :: PySem.Value.str (PySem.Str.ofString "=DB") 1122 :: PySem.Value.str (PySem.Str.ofString "=DC") 1126 :: PySem.Value.str (PySem.Str.ofString "=DD") 1130 :: PySem.Value.str (PySem.Str.ofString "=DE") 1134 :: PySem.Value.str (PySem.Str.ofString "=DF") 1138 :: PySem.Value.str (PySem.Str.ofString "=E0") 1142 :: PySem.Value.str (PySem.Str.ofString "=E1") 1146 :: PySem.Value.str (PySem.Str.ofString "=E2") 1150 :: PySem.Value.str (PySem.Str.ofString "=E3") 1154 :: PySem.Value.str (PySem.Str.ofString "=E4") 1158 :: PySem.Value.str (PySem.Str.ofString "=E5") 1162 :: PySem.Value.str (PySem.Str.ofString "=E6") 1166 :: PySem.Value.str (PySem.Str.ofString "=E7") 1170 :: PySem.Value.str (PySem.Str.ofString "=E8") 1174 :: PySem.Value.str (PySem.Str.ofString "=E9") 1178 :: PySem.Value.str (PySem.Str.ofString "=EA") 1182 :: PySem.Value.str (PySem.Str.ofString "=EB") 1186 :: PySem.Value.str (PySem.Str.ofString "=EC") 1190 :: PySem.Value.str (PySem.Str.ofString "=ED") 1194 :: PySem.Value.str (PySem.Str.ofString "=EE") 1198 :: PySem.Value.str (PySem.Str.ofString "=EF") 1202 :: PySem.Value.str (PySem.Str.ofString "=F0") 1206 :: PySem.Value.str (PySem.Str.ofString "=F1") 1210 :: PySem.Value.str (PySem.Str.ofString "=F2") 1214 :: PySem.Value.str (PySem.Str.ofString "=F3") 1218 :: PySem.Value.str (PySem.Str.ofString "=F4") 1222 :: PySem.Value.str (PySem.Str.ofString "=F5") 1226 :: PySem.Value.str (PySem.Str.ofString "=F6") 1230 :: PySem.Value.str (PySem.Str.ofString "=F7") 1234 :: PySem.Value.str (PySem.Str.ofString "=F8") 1238 :: PySem.Value.str (PySem.Str.ofString "=F9") 1242 :: PySem.Value.str (PySem.Str.ofString "=FA") 1246 :: PySem.Value.str (PySem.Str.ofString "=FB") 1250 :: PySem.Value.str (PySem.Str.ofString "=FC") 1254 :: PySem.Value.str (PySem.Str.ofString "=FD") 1258 :: PySem.Value.str (PySem.Str.ofString "=FE") 1262 :: PySem.Value.str (PySem.Str.ofString "=FF") 1266 :: []))) #[]) :: (nat_lit 56, PySem.Obj.mk (PySem.Value.type "list") Option.none (PySem.Data.seq (List.toArray (PySem.Value.str (PySem.Str.ofString "=00") 246 :: PySem.Value.str (PySem.Str.ofString "=01") 250 :: PySem.Value.str (PySem.Str.ofString "=02") 254 :: PySem.Value.str (PySem.Str.ofString "=03") 258 :: PySem.Value.str (PySem.Str.ofString "=04") 262 :: PySem.Value.str (PySem.Str.ofString "=05") 266 :: PySem.Value.str (PySem.Str.ofString "=06") 270 :: PySem.Value.str (PySem.Str.ofString "=07") 274 :: PySem.Value.str (PySem.Str.ofString "=08") 278 :: PySem.Value.str (PySem.Str.ofString "\t") 1776 :: PySem.Value.str (PySem.Str.ofString "=0A") 286 :: PySem.Value.str (PySem.Str.ofString "=0B") 290 :: PySem.Value.str (PySem.Str.ofString "=0C") 294 :: PySem.Value.str (PySem.Str.ofString "=0D") 298 :: PySem.Value.str (PySem.Str.ofString "=0E") 302 :: PySem.Value.str (PySem.Str.ofString "=0F") 306 :: PySem.Value.str (PySem.Str.ofString "=10") 310 :: PySem.Value.str (PySem.Str.ofString "=11") 314 :: PySem.Value.str (PySem.Str.ofString "=12") 318 :: PySem.Value.str (PySem.Str.ofString "=13") 322 :: PySem.Value.str (PySem.Str.ofString "=14") 326 :: PySem.Value.str (PySem.Str.ofString "=15") 330 :: PySem.Value.str (PySem.Str.ofString "=16") 334 :: PySem.Value.str (PySem.Str.ofString "=17") 338 :: PySem.Value.str (PySem.Str.ofString "=18") 342 :: PySem.Value.str (PySem.Str.ofString "=19") 346 :: PySem.Value.str (PySem.Str.ofString "=1A") 350 :: PySem.Value.str (PySem.Str.ofString "=1B") 354 :: PySem.Value.str (PySem.Str.ofString "=1C") 358 :: PySem.Value.str (PySem.Str.ofString "=1D") 362 :: PySem.Value.str (PySem.Str.ofString "=1E") 366 :: PySem.Value.str (PySem.Str.ofString "=1F") 370 :: PySem.Value.str (PySem.Str.ofString " ") 1494 :: PySem.Value.str (PySem.Str.ofString "!") 1497 :: PySem.Value.str (PySem.Str.ofString "\"") 1500 :: PySem.Value.str (PySem.Str.ofString "#") 1503 :: PySem.Value.str (PySem.Str.ofString "$") 1506 :: PySem.Value.str (PySem.Str.ofString "%") 1509 :: PySem.Value.str (PySem.Str.ofString "&") 1512 :: PySem.Value.str (PySem.Str.ofString "'") 1515 :: PySem.Value.str (PySem.Str.ofString "(") 1518 :: PySem.Value.str (PySem.Str.ofString ")") 1521 :: PySem.Value.str (PySem.Str.ofString "*") 1524 :: PySem.Value.str (PySem.Str.ofString "+") 1527 :: PySem.Value.str (PySem.Str.ofString ",") 1530 :: PySem.Value.str (PySem.Str.ofString "-") 1533 :: PySem.Value.str (PySem.Str.ofString ".") 1536 :: PySem.Value.str (PySem.Str.ofString "/") 1539 :: PySem.Value.str (PySem.Str.ofString "0") 1542 :: PySem.Value.str (PySem.Str.ofString "1") 1545 :: PySem.Value.str (PySem.Str.ofString "2") 1548 :: PySem.Value.str (PySem.Str.ofString "3") 1551 :: PySem.Value.str (PySem.Str.ofString "4") 1554 :: PySem.Value.str (PySem.Str.ofString "5") 1557 :: PySem.Value.str (PySem.Str.ofString "6") 1560 :: PySem.Value.str (PySem.Str.ofString "7") 1563 :: PySem.Value.str (PySem.Str.ofString "8") 1566 :: PySem.Value.str (PySem.Str.ofString "9") 1569 :: PySem.Value.str (PySem.Str.ofString ":") 1572 :: PySem.Value.str (PySem.Str.ofString ";") 1575 :: PySem.Value.str (PySem.Str.ofString "<") 1578 :: PySem.Value.str (PySem.Str.ofString "=3D") 490 :: PySem.Value.str (PySem.Str.ofString ">") 1581 :: PySem.Value.str (PySem.Str.ofString "?") 1584 :: PySem.Value.str (PySem.Str.ofString "@") 1587 :: PySem.Value.str (PySem.Str.ofString "A") 1590 :: PySem.Value.str (PySem.Str.ofString "B") 1593 :: PySem.Value.str (PySem.Str.ofString "C") 1596 :: PySem.Value.str (PySem.Str.ofString "D") 1599 :: PySem.Value.str (PySem.Str.ofString "E") 1602 :: PySem.Value.str (PySem.Str.ofString "F") 1605 :: PySem.Value.str (PySem.Str.ofString "G") 1608 :: PySem.Value.str (PySem.Str.ofString "H") 1611 :: PySem.Value.str (PySem.Str.ofString "I") 1614 :: PySem.Value.str (PySem.Str.ofString "J") 1617 :: PySem.Value.str (PySem.Str.ofString "K") 1620 :: PySem.Value.str (PySem.Str.ofString "L") 1623 :: PySem.Value.str (PySem.Str.ofString "M") 1626 :: PySem.Value.str (PySem.Str.ofString "N") 1629 :: PySem.Value.str (PySem.Str.ofString "O") 1632 :: PySem.Value.str (PySem.Str.ofString "P") 1635 :: PySem.Value.str (PySem.Str.ofString "Q") 1638 :: PySem.Value.str (PySem.Str.ofString "R") 1641 :: PySem.Value.str (PySem.Str.ofString "S") 1644 :: PySem.Value.str (PySem.Str.ofString "T") 1647 :: PySem.Value.str (PySem.Str.ofString "U") 1650 :: PySem.Value.str (PySem.Str.ofString "V") 1653 :: PySem.Value.str (PySem.Str.ofString "W") 1656 :: PySem.Value.str (PySem.Str.ofString "X") 1659 :: PySem.Value.str (PySem.Str.ofString "Y") 1662 :: PySem.Value.str (PySem.Str.ofString "Z") 1665 :: PySem.Value.str (PySem.Str.ofString "[") 1668 :: PySem.Value.str (PySem.Str.ofString "\\") 1671 :: PySem.Value.str (PySem.Str.ofString "]") 1674 :: PySem.Value.str (PySem.Str.ofString "^") 1677 :: PySem.Value.str (PySem.Str.ofString "_") 1680 :: PySem.Value.str (PySem.Str.ofString "`") 1683 :: PySem.Value.str (PySem.Str.ofString "a") 1686 :: PySem.Value.str (PySem.Str.ofString "b") 1689 :: PySem.Value.str (PySem.Str.ofString "c") 1692 :: PySem.Value.str (PySem.Str.ofString "d") 1695 :: PySem.Value.str (PySem.Str.ofString "e") 1698 :: PySem.Value.str (PySem.Str.ofString "f") 1701 :: PySem.Value.str (PySem.Str.ofString "g") 1704 :: PySem.Value.str (PySem.Str.ofString "h") 1707 :: PySem.Value.str (PySem.Str.ofString "i") 1710 :: PySem.Value.str (PySem.Str.ofString "j") 1713 :: PySem.Value.str (PySem.Str.ofString "k") 1716 :: PySem.Value.str (PySem.Str.ofString "l") 1719 :: PySem.Value.str (PySem.Str.ofString "m") 1722 :: PySem.Value.str (PySem.Str.ofString "n") 1725 :: PySem.Value.str (PySem.Str.ofString "o") 1728 :: PySem.Value.str (PySem.Str.ofString "p") 1731 :: PySem.Value.str (PySem.Str.ofString "q") 1734 :: PySem.Value.str (PySem.Str.ofString "r") 1737 :: PySem.Value.str (PySem.Str.ofString "s") 1740 :: PySem.Value.str (PySem.Str.ofString "t") 1743 :: PySem.Value.str (PySem.Str.ofString "u") 1746 :: PySem.Value.str (PySem.Str.ofString "v") 1749 :: PySem.Value.str (PySem.Str.ofString "w") 1752 :: PySem.Value.str (PySem.Str.ofString "x") 1755 :: PySem.Value.str (PySem.Str.ofString "y") 1758 :: PySem.Value.str (PySem.Str.ofString "z") 1761 :: PySem.Value.str (PySem.Str.ofString "{") 1764 :: PySem.Value.str (PySem.Str.ofString "|") 1767 :: PySem.Value.str (PySem.Str.ofString "}") 1770 :: PySem.Value.str (PySem.Str.ofString "~") 1773 :: PySem.Value.str (PySem.Str.ofString "=7F") 754 :: PySem.Value.str (PySem.Str.ofString "=80") 758 :: PySem.Value.str (PySem.Str.ofString "=81") 762 :: PySem.Value.str (PySem.Str.ofString "=82") 766 :: PySem.Value.str (PySem.Str.ofString "=83") 770 :: PySem.Value.str (PySem.Str.ofString "=84") 774 :: PySem.Value.str (PySem.Str.ofString "=85") 778 :: PySem.Value.str (PySem.Str.ofString "=86") 782 :: PySem.Value.str (PySem.Str.ofString "=87") 786 :: PySem.Value.str (PySem.Str.ofString "=88") 790 :: PySem.Value.str (PySem.Str.ofString "=89") 794 :: PySem.Value.str (PySem.Str.ofString "=8A") 798 :: PySem.Value.str (PySem.Str.ofString "=8B") 802 :: PySem.Value.str (PySem.Str.ofString "=8C") 806 :: PySem.Value.str (PySem.Str.ofString "=8D") 810 :: PySem.Value.str (PySem.Str.ofString "=8E") 814 :: PySem.Value.str (PySem.Str.ofString "=8F") 818 :: PySem.Value.str (PySem.Str.ofString "=90") 822 :: PySem.Value.str (PySem.Str.ofString "=91") 826 :: PySem.Value.str (PySem.Str.ofString "=92") 830 :: PySem.Value.str (PySem.Str.ofString "=93") 834 :: PySem.Value.str (PySem.Str.ofString "=94") 838 :: PySem.Value.str (PySem.Str.ofString "=95") 842 :: PySem.Value.str (PySem.Str.ofString "=96") 846 :: PySem.Value.str (PySem.Str.ofString "=97") 850 :: PySem.Value.str (PySem.Str.ofString "=98") 854 :: PySem.Value.str (PySem.Str.ofString "=99") 858 :: PySem.Value.str (PySem.Str.ofString "=9A") 862 :: PySem.Value.str (PySem.Str.ofString "=9B") 866 :: PySem.Value.str (PySem.Str.ofString "=9C") 870 :: PySem.Value.str (PySem.Str.ofString "=9D") 874 :: PySem.Value.str (PySem.Str.ofString "=9E") 878 :: PySem.Value.str (PySem.Str.ofString "=9F") 882 :: PySem.Value.str (PySem.Str.ofString "=A0") 886 :: PySem.Value.str (PySem.Str.ofString "=A1") 890 :: PySem.Value.str (PySem.Str.ofString "=A2") 894 :: PySem.Value.str (PySem.Str.ofString "=A3") 898 :: PySem.Value.str (PySem.Str.ofString "=A4") 902 :: PySem.Value.str (PySem.Str.ofString "=A5") 906 :: PySem.Value.str (PySem.Str.ofString "=A6") 910 :: PySem.Value.str (PySem.Str.ofString "=A7") 914 :: PySem.Value.str (PySem.Str.ofString "=A8") 918 :: PySem.Value.str (PySem.Str.ofString "=A9") 922 :: PySem.Value.str (PySem.Str.ofString "=AA") 926 :: PySem.Value.str (PySem.Str.ofString "=AB") 930 :: PySem.Value.str (PySem.Str.ofString "=AC") 934 :: PySem.Value.str (PySem.Str.ofString "=AD") 938 :: PySem.Value.str (PySem.Str.ofString "=AE") 942 :: PySem.Value.str (PySem.Str.ofString "=AF") 946 :: PySem.Value.str (PySem.Str.ofString "=B0") 950 :: PySem.Value.str (PySem.Str.ofString "=B1") 954 :: PySem.Value.str (PySem.Str.ofString "=B2") 958 :: PySem.Value.str (PySem.Str.ofString "=B3") 962 :: PySem.Value.str (PySem.Str.ofString "=B4") 966 :: PySem.Value.str (PySem.Str.ofString "=B5") 970 :: PySem.Value.str (PySem.Str.ofString "=B6") 974 :: PySem.Value.str (PySem.Str.ofString "=B7") 978 :: PySem.Value.str (PySem.Str.ofString "=B8") 982 :: PySem.Value.str (PySem.Str.ofString "=B9") 986 :: PySem.Value.str (PySem.Str.ofString "=BA") 990 :: PySem.Value.str (PySem.Str.ofString "=BB") 994 :: PySem.Value.str (PySem.Str.ofString "=BC") 998 :: PySem.Value.str (PySem.Str.ofString "=BD") 1002 :: PySem.Value.str (PySem.Str.ofString "=BE") 1006 :: PySem.Value.str (PySem.Str.ofString "=BF") 1010 :: PySem.Value.str (PySem.Str.ofString "=C0") 1014 :: PySem.Value.str (PySem.Str.ofString "=C1") 1018 :: PySem.Value.str (PySem.Str.ofString "=C2") 1022 :: PySem.Value.str (PySem.Str.ofString "=C3") 1026 :: PySem.Value.str (PySem.Str.ofString "=C4") 1030 :: PySem.Value.str (PySem.Str.ofString "=C5") 1034 :: PySem.Value.str (PySem.Str.ofString "=C6") 1038 :: PySem.Value.str (PySem.Str.ofString "=C7") 1042 :: PySem.Value.str (PySem.Str.ofString "=C8") 1046 :: PySem.Value.str (PySem.Str.ofString "=C9") 1050 :: PySem.Value.str (PySem.Str.ofString "=CA") 1054 :: PySem.Value.str (PySem.Str.ofString "=CB") 1058 :: PySem.Value.str (PySem.Str.ofString "=CC") 1062 :: PySem.Value.str (PySem.Str.ofString "=CD") 1066 :: PySem.Value.str (PySem.Str.ofString "=CE") 1070 :: PySem.Value.str (PySem.Str.ofString "=CF") 1074 :: PySem.Value.str (PySem.Str.ofString "=D0") 1078 :: PySem.Value.str (PySem.Str.ofString "=D1") 1082 :: PySem.Value.str (PySem.Str.ofString "=D2") 1086 :: PySem.Value.str (PySem.Str.ofString "=D3") 1090 :: PySem.Value.str (PySem.Str.ofString "=D4") 1094 :: PySem.Value.str (PySem.Str.ofString "=D5") 1098 :: PySem.Value.str (PySem.Str.ofString "=D6") 1102 :: PySem.Value.str (PySem.Str.ofString "=D7") 1106 :: PySem.Value.str (PySem.Str.ofString "=D8") 1110 :: PySem.Value.str (PySem.Str.ofString "=D9") 1114 :: PySem.Value.str (PySem.Str.ofString "=DA") 1118 :: PySem.Value.str (PySem.Str.ofString "=DB") 1122 :: PySem.Value.str (PySem.Str.ofString "=DC") 1126 :: PySem.Value.str (PySem.Str.ofString "=DD") 1130 :: PySem.Value.str (PySem.Str.ofString "=DE") 1134 :: PySem.Value.str (PySem.Str.ofString "=DF") 1138 :: PySem.Value.str (PySem.Str.ofString "=E0") 1142 :: PySem.Value.str (PySem.Str.ofString "=E1") 1146 :: PySem.Value.str (PySem.Str.ofString "=E2") 1150 :: PySem.Value.str (PySem.Str.ofString "=E3") 1154 :: PySem.Value.str (PySem.Str.ofString "=E4") 1158 :: PySem.Value.str (PySem.Str.ofString "=E5") 1162 :: PySem.Value.str (PySem.Str.ofString "=E6") 1166 :: PySem.Value.str (PySem.Str.ofString "=E7") 1170 :: PySem.Value.str (PySem.Str.ofString "=E8") 1174 :: PySem.Value.str (PySem.Str.ofString "=E9") 1178 :: PySem.Value.str (PySem.Str.ofString "=EA") 1182 :: PySem.Value.str (PySem.Str.ofString "=EB") 1186 :: PySem.Value.str (PySem.Str.ofString "=EC") 1190 :: PySem.Value.str (PySem.Str.ofString "=ED") 1194 :: PySem.Value.str (PySem.Str.ofString "=EE") 1198 :: PySem.Value.str (PySem.Str.ofString "=EF") 1202 :: PySem.Value.str (PySem.Str.ofString "=F0") 1206 :: PySem.Value.str (PySem.Str.ofString "=F1") 1210 :: PySem.Value.str (PySem.Str.ofString "=F2") 1214 :: PySem.Value.str (PySem.Str.ofString "=F3") 1218 :: PySem.Value.str (PySem.Str.ofString "=F4") 1222 :: PySem.Value.str (PySem.Str.ofString "=F5") 1226 :: PySem.Value.str (PySem.Str.ofString "=F6") 1230 :: PySem.Value.str (PySem.Str.ofString "=F7") 1234 :: PySem.Value.str (PySem.Str.ofString "=F8") 1238 :: PySem.Value.str (PySem.Str.ofString "=F9") 1242 :: PySem.Value.str (PySem.Str.ofString "=FA") 1246 :: PySem.Value.str (PySem.Str.ofString "=FB") 1250 :: PySem.Value.str (PySem.Str.ofString "=FC") 1254 :: PySem.Value.str (PySem.Str.ofString "=FD") 1258 :: PySem.Value.str (PySem.Str.ofString "=FE") 1262 :: PySem.Value.str (PySem.Str.ofString "=FF") 1266 :: []))) #[]) :: (nat_lit 63, PySem.Obj.mk (PySem.Value.type "tuple") Option.none (PySem.Data.seq #[]) #[]) :: (nat_lit 65, PySem.Obj.mk (PySem.Value.type "tuple") Option.none (PySem.Data.seq (List.toArray (PySem.Value.str (PySem.Str.ofString "c") 1780 :: []))) #[]) :: (nat_lit 66, PySem.Obj.mk (PySem.Value.type "tuple") Option.none (PySem.Data.seq #[]) #[]) :: (nat_lit 68, PySem.Obj.mk (PySem.Value.type "code") Option.none (PySem.Data.fields (List.toArray (PySem.Value.str (PySem.Str.ofString "quote") 1777 :: PySem.Value.str (PySem.Str.ofString "quote") 1778 :: PySem.Value.str (PySem.Str.ofString "/claim/cut.py") 1779 :: PySem.Value.int 38 0 :: PySem.Value.int 1 0 :: PySem.Value.int 0 0 :: PySem.Value.int 0 0 :: PySem.Value.int 3 0 :: PySem.Value.ref 63 :: PySem.Value.bool Bool.true :: PySem.Value.int 181 0 :: PySem.Value.ref 64 :: PySem.Value.none :: PySem.Value.ref 65 :: PySem.Value.ref 66 :: PySem.Value.ref 67 :: PySem.Value.int 1781 0 :: PySem.Value.int 38 0 :: PySem.Value.str (PySem.Str.ofString "/claim/cut.py") 1782 :: []))) #[]) :: (nat_lit 69, PySem.Obj.mk (PySem.Value.type "function") Option.none (PySem.Data.func (PySem.FuncData.mk (PySem.Str.ofString "quote") (PySem.Str.ofString "quote") fa_17 (PySem.FuncBody.stmts fb_17) fs_17 3 [] PySem.Value.none PySem.Value.none PySem.Value.none (PySem.Value.str (PySem.Str.ofString "cpy313.email.quoprimime") 1278) Option.none (PySem.Value.ref 68) PySem.Value.none 0)) #[]) :: (nat_lit 71, PySem.Obj.mk (PySem.Value.type "list") Option.none (PySem.Data.seq (List.toArray (PySem.Value.str (PySem.Str.ofString "=00") 246 :: PySem.Value.str (PySem.Str.ofString "=01") 250 :: PySem.Value.str (PySem.Str.ofString "=02") 254 :: PySem.Value.str (PySem.Str.ofString "=03") 258 :: PySem.Value.str (PySem.Str.ofString "=04") 262 :: PySem.Value.str (PySem.Str.ofString "=05") 266 :: PySem.Value.str (PySem.Str.ofString "=06") 270 :: PySem.Value.str (PySem.Str.ofString "=07") 274 :: PySem.Value.str (PySem.Str.ofString "=08") 278 :: PySem.Value.str (PySem.Str.ofString "\t") 1776 :: PySem.Value.str (PySem.Str.ofString "\n") 1791 :: PySem.Value.str (PySem.Str.ofString "=0B") 290 :: PySem.Value.str (PySem.Str.ofString "=0C") 294 :: PySem.Value.str (PySem.Str.ofString "\x0d") 1788 :: PySem.Value.str (PySem.Str.ofString "=0E") 302 :: PySem.Value.str (PySem.Str.ofString "=0F") 306 :: PySem.Value.str (PySem.Str.ofString "=10") 310 :: PySem.Value.str (PySem.Str.ofString "=11") 314 :: PySem.Value.str (PySem.Str.ofString "=12") 318 :: PySem.Value.str (PySem.Str.ofString "=13") 322 :: PySem.Value.str (PySem.Str.ofString "=14") 326 :: PySem.Value.str (PySem.Str.ofString "=15") 330 :: PySem.Value.str (PySem.Str.ofString "=16") 334 :: PySem.Value.str (PySem.Str.ofString "=17") 338 :: PySem.Value.str (PySem.Str.ofString "=18") 342 :: PySem.Value.str (PySem.Str.ofString "=19") 346 :: PySem.Value.str (PySem.Str.ofString "=1A") 350 :: PySem.Value.str (PySem.Str.ofString "=1B") 354 :: PySem.Value.str (PySem.Str.ofString "=1C") 358 :: PySem.Value.str (PySem.Str.ofString "=1D") 362 :: PySem.Value.str (PySem.Str.ofString "=1E") 366 :: PySem.Value.str (PySem.Str.ofString "=1F") 370 :: PySem.Value.str (PySem.Str.ofString " ") 1494 :: PySem.Value.str (PySem.Str.ofString "!") 1497 :: PySem.Value.str (PySem.Str.ofString "\"") 1500 :: PySem.Value.str (PySem.Str.ofString "#") 1503 :: PySem.Value.str (PySem.Str.ofString "$") 1506 :: PySem.Value.str (PySem.Str.ofString "%") 1509 :: PySem.Value.str (PySem.Str.ofString "&") 1512 :: PySem.Value.str (PySem.Str.ofString "'") 1515 :: PySem.Value.str (PySem.Str.ofString "(") 1518 :: PySem.Value.str (PySem.Str.ofString ")") 1521 :: PySem.Value.str (PySem.Str.ofString "*") 1524 :: PySem.Value.str (PySem.Str.ofString "+") 1527 :: PySem.Value.str (PySem.Str.ofString ",") 1530 :: PySem.Value.str (PySem.Str.ofString "-") 1533 :: PySem.Value.str (PySem.Str.ofString ".") 1536 :: PySem.Value.str (PySem.Str.ofString "/") 1539 :: PySem.Value.str (PySem.Str.ofString "0") 1542 :: PySem.Value.str (PySem.Str.ofString "1") 1545 :: PySem.Value.str (PySem.Str.ofString "2") 1548 :: PySem.Value.str (PySem.Str.ofString "3") 1551 :: PySem.Value.str (PySem.Str.ofString "4") 1554 :: PySem.Value.str (PySem.Str.ofString "5") 1557 :: PySem.Value.str (PySem.Str.ofString "6") 1560 :: PySem.Value.str (PySem.Str.ofString "7") 1563 :: PySem.Value.str (PySem.Str.ofString "8") 1566 :: PySem.Value.str (PySem.Str.ofString "9") 1569 :: PySem.Value.str (PySem.Str.ofString ":") 1572 :: PySem.Value.str (PySem.Str.ofString ";") 1575 :: PySem.Value.str (PySem.Str.ofString "<") 1578 :: PySem.Value.str (PySem.Str.ofString "=3D") 490 :: PySem.Value.str (PySem.Str.ofString ">") 1581 :: PySem.Value.str (PySem.Str.ofString "?") 1584 :: PySem.Value.str (PySem.Str.ofString "@") 1587 :: PySem.Value.str (PySem.Str.ofString "A") 1590 :: PySem.Value.str (PySem.Str.ofString "B") 1593 :: PySem.Value.str (PySem.Str.ofString "C") 1596 :: PySem.Value.str (PySem.Str.ofString "D") 1599 :: PySem.Value.str (PySem.Str.ofString "E") 1602 :: PySem.Value.str (PySem.Str.ofString "F") 1605 :: PySem.Value.str (PySem.Str.ofString "G") 1608 :: PySem.Value.str (PySem.Str.ofString "H") 1611 :: PySem.Value.str (PySem.Str.ofString "I") 1614 :: PySem.Value.str (PySem.Str.ofString "J") 1617 :: PySem.Value.str (PySem.Str.ofString "K") 1620 :: PySem.Value.str (PySem.Str.ofString "L") 1623 :: PySem.Value.str (PySem.Str.ofString "M") 1626 :: PySem.Value.str (PySem.Str.ofString "N") 1629 :: PySem.Value.str (PySem.Str.ofString "O") 1632 :: PySem.Value.str (PySem.Str.ofString "P") 1635 :: PySem.Value.str (PySem.Str.ofString "Q") 1638 :: PySem.Value.str (PySem.Str.ofString "R") 1641 :: PySem.Value.str (PySem.Str.ofString "S") 1644 :: PySem.Value.str (PySem.Str.ofString "T") 1647 :: PySem.Value.str (PySem.Str.ofString "U") 1650 :: PySem.Value.str (PySem.Str.ofString "V") 1653 :: PySem.Value.str (PySem.Str.ofString "W") 1656 :: PySem.Value.str (PySem.Str.ofString "X") 1659 :: PySem.Value.str (PySem.Str.ofString "Y") 1662 :: PySem.Value.str (PySem.Str.ofString "Z") 1665 :: PySem.Value.str (PySem.Str.ofString "[") 1668 :: PySem.Value.str (PySem.Str.ofString "\\") 1671 :: PySem.Value.str (PySem.Str.ofString "]") 1674 :: PySem.Value.str (PySem.Str.ofString "^") 1677 :: PySem.Value.str (PySem.Str.ofString "_") 1680 :: PySem.Value.str (PySem.Str.ofString "`") 1683 :: PySem.Value.str (PySem.Str.ofString "a") 1686 :: PySem.Value.str (PySem.Str.ofString "b") 1689 :: PySem.Value.str (PySem.Str.ofString "c") 1692 :: PySem.Value.str (PySem.Str.ofString "d") 1695 :: PySem.Value.str (PySem.Str.ofString "e") 1698 :: PySem.Value.str (PySem.Str.ofString "f") 1701 :: PySem.Value.str (PySem.Str.ofString "g") 1704 :: PySem.Value.str (PySem.Str.ofString "h") 1707 :: PySem.Value.str (PySem.Str.ofString "i") 1710 :: PySem.Value.str (PySem.Str.ofString "j") 1713 :: PySem.Value.str (PySem.Str.ofString "k") 1716 :: PySem.Value.str (PySem.Str.ofString "l") 1719 :: PySem.Value.str (PySem.Str.ofString "m") 1722 :: PySem.Value.str (PySem.Str.ofString "n") 1725 :: PySem.Value.str (PySem.Str.ofString "o") 1728 :: PySem.Value.str (PySem.Str.ofString "p") 1731 :: PySem.Value.str (PySem.Str.ofString "q") 1734 :: PySem.Value.str (PySem.Str.ofString "r") 1737 :: PySem.Value.str (PySem.Str.ofString "s") 1740 :: PySem.Value.str (PySem.Str.ofString "t") 1743 :: PySem.Value.str (PySem.Str.ofString "u") 1746 :: PySem.Value.str (PySem.Str.ofString "v") 1749 :: PySem.Value.str (PySem.Str.ofString "w") 1752 :: PySem.Value.str (PySem.Str.ofString "x") 1755 :: PySem.Value.str (PySem.Str.ofString "y") 1758 :: PySem.Value.str (PySem.Str.ofString "z") 1761 :: PySem.Value.str (PySem.Str.ofString "{") 1764 :: PySem.Value.str (PySem.Str.ofString "|") 1767 :: PySem.Value.str (PySem.Str.ofString "}") 1770 :: PySem.Value.str (PySem.Str.ofString "~") 1773 :: PySem.Value.str (PySem.Str.ofString "=7F") 754 :: PySem.Value.str (PySem.Str.ofString "=80") 758 :: PySem.Value.str (PySem.Str.ofString "=81") 762 :: PySem.Value.str (PySem.Str.ofString "=82") 766 :: PySem.Value.str (PySem.Str.ofString "=83") 770 :: PySem.Value.str (PySem.Str.ofString "=84") 774 :: PySem.Value.str (PySem.Str.ofString "=85") 778 :: PySem.Value.str (PySem.Str.ofString "=86") 782 :: PySem.Value.str (PySem.Str.ofString "=87") 786 :: PySem.Value.str (PySem.Str.ofString "=88") 790 :: PySem.Value.str (PySem.Str.ofString "=89") 794 :: PySem.Value.str (PySem.Str.ofString "=8A") 798 :: PySem.Value.str (PySem.Str.ofString "=8B") 802 :: PySem.Value.str (PySem.Str.ofString "=8C") 806 :: PySem.Value.str (PySem.Str.ofString "=8D") 810 :: PySem.Value.str (PySem.Str.ofString "=8E") 814 :: PySem.Value.str (PySem.Str.ofString "=8F") 818 :: PySem.Value.str (PySem.Str.ofString "=90") 822 :: PySem.Value.str (PySem.Str.ofString "=91") 826 :: PySem.Value.str (PySem.Str.ofString "=92") 830 :: PySem.Value.str (PySem.Str.ofString "=93") 834 :: PySem.Value.str (PySem.Str.ofString "=94") 838 :: PySem.Value.str (PySem.Str.ofString "=95") 842 :: PySem.Value.str (PySem.Str.ofString "=96") 846 :: PySem.Value.str (PySem.Str.ofString "=97") 850 :: PySem.Value.str (PySem.Str.ofString "=98") 854 :: PySem.Value.str (PySem.Str.ofString "=99") 858 :: PySem.Value.str (PySem.Str.ofString "=9A") 862 :: PySem.Value.str (PySem.Str.ofString "=9B") 866 :: PySem.Value.str (PySem.Str.ofString "=9C") 870 :: PySem.Value.str (PySem.Str.ofString "=9D") 874 :: PySem.Value.str (PySem.Str.ofString "=9E") 878 :: PySem.Value.str (PySem.Str.ofString "=9F") 882 :: PySem.Value.str (PySem.Str.ofString "=A0") 886 :: PySem.Value.str (PySem.Str.ofString "=A1") 890 :: PySem.Value.str (PySem.Str.ofString "=A2") 894 :: PySem.Value.str (PySem.Str.ofString "=A3") 898 :: PySem.Value.str (PySem.Str.ofString "=A4") 902 :: PySem.Value.str (PySem.Str.ofString "=A5") 906 :: PySem.Value.str (PySem.Str.ofString "=A6") 910 :: PySem.Value.str (PySem.Str.ofString "=A7") 914 :: PySem.Value.str (PySem.Str.ofString "=A8") 918 :: PySem.Value.str (PySem.Str.ofString "=A9") 922 :: PySem.Value.str (PySem.Str.ofString "=AA") 926 :: PySem.Value.str (PySem.Str.ofString "=AB") 930 :: PySem.Value.str (PySem.Str.ofString "=AC") 934 :: PySem.Value.str (PySem.Str.ofString "=AD") 938 :: PySem.Value.str (PySem.Str.ofString "=AE") 942 :: PySem.Value.str (PySem.Str.ofString "=AF") 946 :: PySem.Value.str (PySem.Str.ofString "=B0") 950 :: PySem.Value.str (PySem.Str.ofString "=B1") 954 :: PySem.Value.str (PySem.Str.ofString "=B2") 958 :: PySem.Value.str (PySem.Str.ofString "=B3") 962 :: PySem.Value.str (PySem.Str.ofString "=B4") 966 :: PySem.Value.str (PySem.Str.ofString "=B5") 970 :: PySem.Value.str (PySem.Str.ofString "=B6") 974 :: PySem.Value.str (PySem.Str.ofString "=B7") 978 :: PySem.Value.str (PySem.Str.ofString "=B8") 982 :: PySem.Value.str (PySem.Str.ofString "=B9") 986 :: PySem.Value.str (PySem.Str.ofString "=BA") 990 :: PySem.Value.str (PySem.Str.ofString "=BB") 994 :: PySem.Value.str (PySem.Str.ofString "=BC") 998 :: PySem.Value.str (PySem.Str.ofString "=BD") 1002 :: PySem.Value.str (PySem.Str.ofString "=BE") 1006 :: PySem.Value.str (PySem.Str.ofString "=BF") 1010 :: PySem.Value.str (PySem.Str.ofString "=C0") 1014 :: PySem.Value.str (PySem.Str.ofString "=C1") 1018 :: PySem.Value.str (PySem.Str.ofString "=C2") 1022 :: PySem.Value.str (PySem.Str.ofString "=C3") 1026 :: PySem.Value.str (PySem.Str.ofString "=C4") 1030 :: PySem.Value.str (PySem.Str.ofString "=C5") 1034 :: PySem.Value.str (PySem.Str.ofString "=C6") 1038 :: PySem.Value.str (PySem.Str.ofString "=C7") 1042 :: PySem.Value.str (PySem.Str.ofString "=C8") 1046 :: PySem.Value.str (PySem.Str.ofString "=C9") 1050 :: PySem.Value.str (PySem.Str.ofString "=CA") 1054 :: PySem.Value.str (PySem.Str.ofString "=CB") 1058 :: PySem.Value.str (PySem.Str.ofString "=CC") 1062 :: PySem.Value.str (PySem.Str.ofString "=CD") 1066 :: PySem.Value.str (PySem.Str.ofString "=CE") 1070 :: PySem.Value.str (PySem.Str.ofString "=CF") 1074 :: PySem.Value.str (PySem.Str.ofString "=D0") 1078 :: PySem.Value.str (PySem.Str.ofString "=D1") 1082 :: PySem.Value.str (PySem.Str.ofString "=D2") 1086 :: PySem.Value.str (PySem.Str.ofString "=D3") 1090 :: PySem.Value.str (PySem.Str.ofString "=D4") 1094 :: PySem.Value.str (PySem.Str.ofString "=D5") 1098 :: PySem.Value.str (PySem.Str.ofString "=D6") 1102 :: PySem.Value.str (PySem.Str.ofString "=D7") 1106 :: PySem.Value.str (PySem.Str.ofString "=D8") 1110 :: PySem.Value.str (PySem.Str.ofString "=D9") 1114 :: PySem.Value.str (PySem.Str.ofString "=DA") 1118 :: PySem.Value.str (PySem.Str.ofString "=DB") 1122 :: PySem.Value.str (PySem.Str.ofString "=DC") 1126 :: PySem.Value.str (PySem.Str.ofString "=DD") 1130 :: PySem.Value.str (PySem.Str.ofString "=DE") 1134 :: PySem.Value.str (PySem.Str.ofString "=DF") 1138 :: PySem.Value.str (PySem.Str.ofString "=E0") 1142 :: PySem.Value.str (PySem.Str.ofString "=E1") 1146 :: PySem.Value.str (PySem.Str.ofString "=E2") 1150 :: PySem.Value.str (PySem.Str.ofString "=E3") 1154 :: PySem.Value.str (PySem.Str.ofString "=E4") 1158 :: PySem.Value.str (PySem.Str.ofString "=E5") 1162 :: PySem.Value.str (PySem.Str.ofString "=E6") 1166 :: PySem.Value.str (PySem.Str.ofString "=E7") 1170 :: PySem.Value.str (PySem.Str.ofString "=E8") 1174 :: PySem.Value.str (PySem.Str.ofString "=E9") 1178 :: PySem.Value.str (PySem.Str.ofString "=EA") 1182 :: PySem.Value.str (PySem.Str.ofString "=EB") 1186 :: PySem.Value.str (PySem.Str.ofString "=EC") 1190 :: PySem.Value.str (PySem.Str.ofString "=ED") 1194 :: PySem.Value.str (PySem.Str.ofString "=EE") 1198 :: PySem.Value.str (PySem.Str.ofString "=EF") 1202 :: PySem.Value.str (PySem.Str.ofString "=F0") 1206 :: PySem.Value.str (PySem.Str.ofString "=F1") 1210 :: PySem.Value.str (PySem.Str.ofString "=F2") 1214 :: PySem.Value.str (PySem.Str.ofString "=F3") 1218 :: PySem.Value.str (PySem.Str.ofString "=F4") 1222 :: PySem.Value.str (PySem.Str.ofString "=F5") 1226 :: PySem.Value.str (PySem.Str.ofString "=F6") 1230 :: PySem.Value.str (PySem.Str.ofString "=F7") 1234 :: PySem.Value.str (PySem.Str.ofString "=F8") 1238 :: PySem.Value.str (PySem.Str.ofString "=F9") 1242 :: PySem.Value.str (PySem.Str.ofString "=FA") 1246 :: PySem.Value.str (PySem.Str.ofString "=FB") 1250 :: PySem.Value.str (PySem.Str.ofString "=FC") 1254 :: PySem.Value.str (PySem.Str.ofString "=FD") 1258 :: PySem.Value.str (PySem.Str.ofString "=FE") 1262 :: PySem.Value.str (PySem.Str.ofString "=FF") 1266 :: []))) #[]) :: (nat_lit 75, PySem.Obj.mk (PySem.Value.type "tuple") Option.none (PySem.Data.seq (List.toArray (PySem.Value.int 76 1792 :: PySem.Value.str (PySem.Str.ofString "\n") 238 :: []))) #[]) :: (nat_lit 76, PySem.Obj.mk (PySem.Value.type "tuple") Option.none (PySem.Data.seq #[]) #[]) :: (nat_lit 78, PySem.Obj.mk (PySem.Value.type "tuple") Option.none (PySem.Data.seq (List.toArray (PySem.Value.str (PySem.Str.ofString "body") 1796 :: PySem.Value.str (PySem.Str.ofString "maxlinelen") 1797 :: PySem.Value.str (PySem.Str.ofString "eol") 1798 :: PySem.Value.str (PySem.Str.ofString "soft_break") 1799 :: PySem.Value.str (PySem.Str.ofString "maxlinelen1") 1800 :: PySem.Value.str (PySem.Str.ofString "encoded_body") 1801 :: PySem.Value.str (PySem.Str.ofString "append") 1802 :: PySem.Value.str (PySem.Str.ofString "line") 1803 :: PySem.Value.str (PySem.Str.ofString "start") 1804 :: PySem.Value.str (PySem.Str.ofString "laststart") 1805 :: PySem.Value.str (PySem.Str.ofString "stop") 1806 :: PySem.Value.str (PySem.Str.ofString "room") 1807 :: PySem.Value.str (PySem.Str.ofString "q") 1808 :: []))) #[]) :: (nat_lit 79, PySem.Obj.mk (PySem.Value.type "tuple") Option.none (PySem.Data.seq #[]) #[]) :: (nat_lit 81, PySem.Obj.mk (PySem.Value.type "code") Option.none (PySem.Data.fields (List.toArray (PySem.Value.str (PySem.Str.ofString "body_encode") 1793 :: PySem.Value.str (PySem.Str.ofString "body_encode") 1794 :: PySem.Value.str (PySem.Str.ofString "/claim/cut.py") 1795 :: PySem.Value.int 44 0 :: PySem.Value.int 3 0 :: PySem.Value.int 0 0 :: PySem.Value.int 0 0 :: PySem.Value.int 3 0 :: PySem.Value.ref 76 :: PySem.Value.bool Bool.true :: PySem.Value.int 181 0 :: PySem.Value.ref 77 :: PySem.Value.none :: PySem.Value.ref 78 :: PySem.Value.ref 79 :: PySem.Value.ref 80 :: PySem.Value.int 1809 0 :: PySem.Value.int 44 0 :: PySem.Value.str (PySem.Str.ofString "/claim/cut.py") 1810 :: []))) #[]) :: (nat_lit 82, PySem.Obj.mk (PySem.Value.type "function") Option.none (PySem.Data.func (PySem.FuncData.mk (PySem.Str.ofString "body_encode") (PySem.Str.ofString "body_encode") fa_21 (PySem.FuncBody.stmts fb_21) fs_21 3 [] (PySem.Value.ref 75) PySem.Value.none PySem.Value.none (PySem.Value.str (PySem.Str.ofString "cpy313.email.quoprimime") 1278) Option.none (PySem.Value.ref 81) PySem.Value.none 0)) #[]) :: (nat_lit 83, PySem.Obj.mk (PySem.Value.type "tuple") Option.none (PySem.Data.seq #[]) #[]) :: (nat_lit 85, PySem.Obj.mk (PySem.Value.type "tuple") Option.none (PySem.Data.seq (List.toArray (PySem.Value.str (PySem.Str.ofString "line") 1817 :: PySem.Value.str (PySem.Str.ofString "width") 1818 :: PySem.Value.str (PySem.Str.ofString "end") 1819 :: PySem.Value.str (PySem.Str.ofString "items") 1820 :: PySem.Value.str (PySem.Str.ofString "used") 1821 :: PySem.Value.str (PySem.Str.ofString "left") 1822 :: PySem.Value.str (PySem.Str.ofString "sign") 1823 :: PySem.Value.str (PySem.Str.ofString "size") 1824 :: []))) #[]) :: (nat_lit 86, PySem.Obj.mk (PySem.Value.type "tuple") Option.none (PySem.Data.seq #[]) #[]) :: (nat_lit 88, PySem.Obj.mk (PySem.Value.type "code") Option.none (PySem.Data.fields (List.toArray (PySem.Value.str (PySem.Str.ofString "_law_written") 1814 :: PySem.Value.str (PySem.Str.ofString "_law_written") 1815 :: PySem.Value.str (PySem.Str.ofString "/claim/cut.py") 1816 :: PySem.Value.int 83 0 :: PySem.Value.int 3 0 :: PySem.Value.int 0 0 :: PySem.Value.int 0 0 :: PySem.Value.int 3 0 :: PySem.Value.ref 83 :: PySem.Value.bool Bool.true :: PySem.Value.int 181 0 :: PySem.Value.ref 84 :: PySem.Value.none :: PySem.Value.ref 85 :: PySem.Value.ref 86 :: PySem.Value.ref 87 :: PySem.Value.int 1825 0 :: PySem.Value.int 83 0 :: PySem.Value.str (PySem.Str.ofString "/claim/cut.py") 1826 :: []))) #[]) :: (nat_lit 89, PySem.Obj.mk (PySem.Value.type "function") Option.none (PySem.Data.func (PySem.FuncData.mk (PySem.Str.ofString "_law_written") (PySem.Str.ofString "_law_written") fa_23 (PySem.FuncBody.stmts fb_23) fs_23 3 [] PySem.Value.none PySem.Value.none PySem.Value.none (PySem.Value.str (PySem.Str.ofString "law_rw0036_01") 1812) Option.none (PySem.Value.ref 88) PySem.Value.none 0)) #[]) :: (nat_lit 90, PySem.Obj.mk (PySem.Value.type "tuple") Option.none (PySem.Data.seq #[]) #[]) :: (nat_lit 93, PySem.Obj.mk (PySem.Value.type "code") Option.none (PySem.Data.fields (List.toArray (PySem.Value.str (PySem.Str.ofString "_law_due") 1828 :: PySem.Value.str (PySem.Str.ofString "_law_due") 1829 :: PySem.Value.str (PySem.Str.ofString "/claim/cut.py") 1830 :: PySem.Value.int 103 0 :: PySem.Value.int 4 0 :: PySem.Value.int 0 0 :: PySem.Value.int 0 0 :: PySem.Value.int 3 0 :: PySem.Value.ref 90 :: PySem.Value.bool Bool.true :: PySem.Value.int 181 0 :: PySem.Value.ref 91 :: PySem.Value.none :: PySem.Value.none :: PySem.Value.none :: PySem.Value.ref 92 :: PySem.Value.int 1831 0 :: PySem.Value.int 103 0 :: PySem.Value.str (PySem.Str.ofString "/claim/cut.py") 1832 :: []))) #[]) :: (nat_lit 94, PySem.Obj.mk (PySem.Value.type "function") Option.none (PySem.Data.func (PySem.FuncData.mk (PySem.Str.ofString "_law_due") (PySem.Str.ofString "_law_due") fa_24 (PySem.FuncBody.stmts fb_24) fs_24 3 [] PySem.Value.none PySem.Value.none PySem.Value.none (PySem.Value.str (PySem.Str.ofString "law_rw0036_01") 1812) Option.none (PySem.Value.ref 93) PySem.Value.none 0)) #[]) :: (nat_lit 95, PySem.Obj.mk (PySem.Value.type "tuple") Option.none (PySem.Data.seq #[]) #[]) :: (nat_lit 97, PySem.Obj.mk (PySem.Value.type "tuple") Option.none (PySem.Data.seq (List.toArray (PySem.Value.str (PySem.Str.ofString "ahead") 1837 :: PySem.Value.str (PySem.Str.ofString "body") 1838 :: PySem.Value.str (PySem.Str.ofString "width") 1839 :: PySem.Value.str (PySem.Str.ofString "end") 1840 :: []))) #[]) :: (nat_lit 98, PySem.Obj.mk (PySem.Value.type "tuple") Option.none (PySem.Data.seq #[]) #[]) :: (nat_lit 100, PySem.Obj.mk (PySem.Value.type "code") Option.none (PySem.Data.fields (List.toArray (PySem.Value.str (PySem.Str.ofString "_law_heard") 1834 :: PySem.Value.str (PySem.Str.ofString "_law_heard") 1835 :: PySem.Value.str (PySem.Str.ofString "/claim/cut.py") 1836 :: PySem.Value.int 126 0 :: PySem.Value.int 4 0 :: PySem.Value.int 0 0 :: PySem.Value.int 0 0 :: PySem.Value.int 3 0 :: PySem.Value.ref 95 :: PySem.Value.bool Bool.true :: PySem.Value.int 181 0 :: PySem.Value.ref 96 :: PySem.Value.none :: PySem.Value.ref 97 :: PySem.Value.ref 98 :: PySem.Value.ref 99 :: PySem.Value.int 1841 0 :: PySem.Value.int 126 0 :: PySem.Value.str (PySem.Str.ofString "/claim/cut.py") 1842 :: []))) #[]) :: (nat_lit 101, PySem.Obj.mk (PySem.Value.type "function") Option.none (PySem.Data.func (PySem.FuncData.mk (PySem.Str.ofString "_law_heard") (PySem.Str.ofString "_law_heard") fa_25 (PySem.FuncBody.stmts fb_25) fs_25 3 [] PySem.Value.none PySem.Value.none PySem.Value.none (PySem.Value.str (PySem.Str.ofString "law_rw0036_01") 1812) Option.none (PySem.Value.ref 100) PySem.Value.none 0)) #[]) :: (nat_lit 102, PySem.Obj.mk (PySem.Value.type "tuple") Option.none (PySem.Data.seq #[]) #[]) :: (nat_lit 105, PySem.Obj.mk (PySem.Value.type "code") Option.none (PySem.Data.fields (List.toArray (PySem.Value.str (PySem.Str.ofString "law") 1844 :: PySem.Value.str (PySem.Str.ofString "law") 1845 :: PySem.Value.str (PySem.Str.ofString "/claim/cut.py") 1846 :: PySem.Value.int 133 0 :: PySem.Value.int 1 0 :: PySem.Value.int 0 0 :: PySem.Value.int 0 0 :: PySem.Value.int 3 0 :: PySem.Value.ref 102 :: PySem.Value.bool Bool.true :: PySem.Value.int 181 0 :: PySem.Value.ref 103 :: PySem.Value.none :: PySem.Value.none :: PySem.Value.none :: PySem.Value.ref 104 :: PySem.Value.int 1847 0 :: PySem.Value.int 133 0 :: PySem.Value.str (PySem.Str.ofString "/claim/cut.py") 1848 :: []))) #[]) :: (nat_lit 106, PySem.Obj.mk (PySem.Value.type "function") Option.none (PySem.Data.func (PySem.FuncData.mk (PySem.Str.ofString "law") (PySem.Str.ofString "law") fa_26 (PySem.FuncBody.stmts fb_26) fs_26 3 [] PySem.Value.none PySem.Value.none PySem.Value.none (PySem.Value.str (PySem.Str.ofString "law_rw0036_01") 1812) Option.none (PySem.Value.ref 105) PySem.Value.none 0)) #[]) :: [])
end Mine
end THeadA
section TPlain
/-! The plain law: body_encode and parse257 against the law's own reading, over lists of sign codes.
'"' 34, '=' 61, ' ' 32, tab 9, LF 10, CR 13 -/
namespace Mine

/-- one sign, encoded -/
def tok (c : Nat) : List Nat := if c = 61 then [61, 51, 68] else [c]
def tr (l : List Nat) : List Nat := l.flatMap tok

theorem tr_nil : tr [] = [] := rfl
theorem tr_cons (c : Nat) (l : List Nat) : tr (c :: l) = tok c ++ tr l := rfl
theorem tr_append (a b : List Nat) : tr (a ++ b) = tr a ++ tr b := by simp [tr]
theorem tr_one (c : Nat) : tr [c] = tok c := by rw [tr_cons, tr_nil, List.append_nil]

def quoteL (c : Nat) : List Nat := if c = 32 then [61, 50, 48] else [61, 48, 57]

/-- how far one chunk reaches -/
def adv (w : Nat) (R : List Nat) : Nat :=
  if R[w - 3]? = some 61 then w - 3 else if R[w - 2]? = some 61 then w - 2 else w - 1

theorem adv_pos {w : Nat} (hw : 4 ≤ w) (R : List Nat) : 1 ≤ adv w R := by
  unfold adv; split
  · omega
  · split <;> omega
theorem adv_le {w : Nat} (hw : 4 ≤ w) (R : List Nat) : adv w R ≤ w - 1 := by
  unfold adv; split
  · omega
  · split <;> omega

def isBlank (c : Nat) : Bool := c == 32 || c == 9

/-- the last chunk of a line -/
def tailR (w : Nat) (eol R : List Nat) : List Nat :=
  match R.getLast? with
  | some c => if isBlank c then
      (if R.length + 2 ≤ w then R.dropLast ++ quoteL c
       else if R.length + 1 = w then R.dropLast ++ ([c] ++ ([61] ++ eol))
       else R.dropLast ++ (([61] ++ eol) ++ quoteL c))
    else R
  | none => R

/-- the chunks of one encoded line (or of what is left of it) -/
def encR (w : Nat) (eol : List Nat) (R : List Nat) : List (List Nat) :=
  if h : 4 ≤ w ∧ w < R.length then (R.take (adv w R) ++ [61]) :: encR w eol (R.drop (adv w R)) else [tailR w eol R]
termination_by R.length
decreasing_by
  have := adv_pos h.1 R
  simp only [List.length_drop]
  omega

theorem encR_more {w : Nat} {eol R : List Nat} (hw : 4 ≤ w) (h : w < R.length) :
    encR w eol R = (R.take (adv w R) ++ [61]) :: encR w eol (R.drop (adv w R)) := by
  rw [encR, dif_pos ⟨hw, h⟩]
theorem encR_last {w : Nat} {eol R : List Nat} (h : ¬ w < R.length) : encR w eol R = [tailR w eol R] := by
  rw [encR, dif_neg fun x => h x.2]
theorem encR_nil (w : Nat) (eol : List Nat) : encR w eol [] = [[]] := by rw [encR_last (by simp)]; rfl
theorem encR_ne (w : Nat) (eol R : List Nat) : encR w eol R ≠ [] := by
  rw [encR]; split <;> simp

def joinL (eol : List Nat) : List (List Nat) → List Nat
  | [] => []
  | [x] => x
  | x :: r => x ++ eol ++ joinL eol r
theorem joinL_cons (eol x : List Nat) {r : List (List Nat)} (h : r ≠ []) : joinL eol (x :: r) = x ++ eol ++ joinL eol r := by
  cases r with
  | nil => exact absurd rfl h
  | cons y r => rfl
theorem joinL_append (eol : List Nat) : ∀ (a b : List (List Nat)), a ≠ [] → b ≠ [] → joinL eol (a ++ b) = joinL eol a ++ eol ++ joinL eol b
  | [], _, h, _ => absurd rfl h
  | [x], b, _, hb => by rw [List.singleton_append, joinL_cons eol x hb]; rfl
  | x :: y :: r, b, _, hb => by
    have ih := joinL_append eol (y :: r) b (by simp) hb
    rw [List.cons_append, joinL_cons eol x (by simp), ih, joinL_cons eol x (by simp)]
    simp only [List.append_assoc]

/-! the law's own lines -/
def wSize (c : Nat) : Int := if c = 61 then 3 else 1
def wStep (w : Int) (e : List (List Nat)) (st : List (List Nat) × Int × Int) (c : Nat) : List (List Nat) × Int × Int :=
  if st.2.2 > w ∧ st.2.1 + wSize c ≥ w then (st.1 ++ ([[61]] ++ e) ++ [tok c], 0 + wSize c, st.2.2 - st.2.1)
  else (st.1 ++ [tok c], st.2.1 + wSize c, st.2.2)
def wLoop (w : Int) (e : List (List Nat)) (line : List Nat) : List (List Nat) × Int × Int :=
  line.foldl (wStep w e) ([], 0, (line.length : Int) + 2 * (line.count 61 : Int))
def wFin (w : Int) (e : List (List Nat)) (last : Option Nat) (items : List (List Nat)) (used : Int) : List (List Nat) :=
  match last with
  | some c => if isBlank c then
      (if used = w - 1 then items ++ ([[61]] ++ e)
       else (if used = w then items.dropLast ++ ([[61]] ++ e) else items.dropLast) ++ [quoteL c])
    else items
  | none => items
def written (w : Int) (e : List (List Nat)) (line : List Nat) : List (List Nat) :=
  wFin w e line.getLast? (wLoop w e line).1 (wLoop w e line).2.1

theorem tok_len (c : Nat) : ((tok c).length : Int) = wSize c := by unfold tok wSize; split <;> rfl
theorem tr_len (l : List Nat) : ((tr l).length : Int) = (l.length : Int) + 2 * (l.count 61 : Int) := by
  induction l with
  | nil => rfl
  | cons c l ih =>
    rw [tr_cons, List.length_append, List.length_cons, List.count_cons]
    have := tok_len c
    unfold wSize at this
    by_cases h : c = 61
    · simp only [h, beq_self_eq_true, if_true] at this ⊢; omega
    · have h' : (c == 61) = false := by simpa using h
      simp only [h, if_false, h', Bool.false_eq_true] at this ⊢; omega

theorem eq_pos : ∀ (p : List Nat) (i : Nat), (tr p)[i]? = some 61 → i + 3 ≤ (tr p).length
  | [], i, h => by simp [tr] at h
  | c :: p, i, h => by
    rw [tr_cons] at h ⊢
    rw [List.length_append]
    by_cases hc : c = 61
    · have ht : tok c = [61, 51, 68] := by simp [tok, hc]
      rw [ht] at h ⊢
      simp only [List.length_cons, List.length_nil]
      match i, h with
      | 0, _ => omega
      | 1, h => simp at h
      | 2, h => simp at h
      | i + 3, h =>
        have h' : (tr p)[i]? = some 61 := by simpa using h
        have := eq_pos p i h'
        omega
    · have ht : tok c = [c] := by simp [tok, hc]
      rw [ht] at h ⊢
      simp only [List.length_cons, List.length_nil]
      match i, h with
      | 0, h => simp at h; exact absurd h hc
      | i + 1, h =>
        have h' : (tr p)[i]? = some 61 := by simpa using h
        have := eq_pos p i h'
        omega

theorem adv_break {w : Nat} (hw : 4 ≤ w) {p r : List Nat} {c : Nat} (h1 : (tr p).length ≤ w - 1) (h2 : w ≤ (tr p).length + (tok c).length) :
    adv w (tr p ++ (tok c ++ tr r)) = (tr p).length := by
  have inside : ∀ i, i < (tr p).length → (tr p ++ (tok c ++ tr r))[i]? = some 61 → i + 3 ≤ (tr p).length := fun i hi h => by
    rw [List.getElem?_append_left hi] at h
    exact eq_pos p i h
  unfold adv
  by_cases hc : c = 61
  · have ht : tok c = [61, 51, 68] := by simp [tok, hc]
    rw [ht] at h2
    simp only [List.length_cons, List.length_nil] at h2
    have at0 : (tr p ++ (tok c ++ tr r))[(tr p).length]? = some 61 := by
      rw [List.getElem?_append_right (Nat.le_refl _), Nat.sub_self, ht]; rfl
    by_cases e1 : (tr p).length = w - 3
    · rw [← e1, if_pos at0]
    · rw [if_neg fun h => by have := inside (w - 3) (by omega) h; omega]
      by_cases e2 : (tr p).length = w - 2
      · rw [← e2, if_pos at0]
      · rw [if_neg fun h => by have := inside (w - 2) (by omega) h; omega]
        omega
  · have ht : tok c = [c] := by simp [tok, hc]
    rw [ht] at h2
    simp only [List.length_cons, List.length_nil] at h2
    rw [if_neg fun h => by have := inside (w - 3) (by omega) h; omega, if_neg fun h => by have := inside (w - 2) (by omega) h; omega]
    omega

theorem isBlank_tok {c : Nat} (h : isBlank c = true) : tok c = [c] := by
  unfold isBlank at h
  simp only [Bool.or_eq_true, beq_iff_eq] at h
  unfold tok
  rw [if_neg (by omega)]

theorem flatten_map_tok (p : List Nat) : (p.map tok).flatten = tr p := by rw [tr, List.flatMap]

theorem getLast_append_ne {α : Type} (a : List α) {b : List α} (h : b ≠ []) : (a ++ b).getLast? = b.getLast? := by
  rw [List.getLast?_append]
  cases hb : b.getLast? with
  | none => exact absurd (List.getLast?_eq_none_iff.mp hb) h
  | some x => rfl

/-- the last sign of an encoded text -/
theorem last_tr_blank {p : List Nat} {c : Nat} (h : p.getLast? = some c) : (tr p).getLast? = some (if c = 61 then 68 else c) := by
  obtain ⟨q, rfl⟩ : ∃ q, p = q ++ [c] := by
    rw [List.getLast?_eq_some_iff] at h; exact h
  rw [tr_append, tr_one, getLast_append_ne _ (by unfold tok; split <;> simp)]
  unfold tok
  by_cases hc : c = 61
  · rw [if_pos hc, if_pos hc]; rfl
  · rw [if_neg hc, if_neg hc]; rfl

theorem fin_tail {w : Nat} (_hw : 4 ≤ w) {e : List (List Nat)} {eol : List Nat} (he : e.flatten = eol) {items : List (List Nat)} {p : List Nat} (h : (tr p).length ≤ w) :
    (wFin (w : Int) e p.getLast? (items ++ p.map tok) ((tr p).length : Int)).flatten = items.flatten ++ tailR w eol (tr p) := by
  cases hl : p.getLast? with
  | none =>
    have : p = [] := List.getLast?_eq_none_iff.mp hl
    subst this
    simp [wFin, tailR, tr]
  | some c =>
    have hlast := last_tr_blank hl
    obtain ⟨q, rfl⟩ : ∃ q, p = q ++ [c] := by rw [List.getLast?_eq_some_iff] at hl; exact hl
    unfold wFin tailR
    rw [hlast]
    dsimp only
    by_cases hb : isBlank c = true
    · have ht := isBlank_tok hb
      have hc : ¬ c = 61 := by intro e; rw [e] at hb; simp [isBlank] at hb
      rw [if_neg hc, if_pos hb, if_pos hb]
      have e1 : tr (q ++ [c]) = tr q ++ [c] := by rw [tr_append, tr_one, ht]
      have e2 : (items ++ (q ++ [c]).map tok) = (items ++ q.map tok) ++ [[c]] := by simp [ht]
      clear hlast hl
      rw [e1] at h ⊢
      rw [e2]
      simp only [List.length_append, List.length_cons, List.length_nil] at h ⊢
      by_cases h1 : (tr q).length + (0 + 1) = w - 1
      · rw [if_pos (by omega), if_neg (by omega), if_pos (by omega)]
        simp [he, flatten_map_tok]
      · rw [if_neg (by omega)]
        by_cases h2 : (tr q).length + (0 + 1) = w
        · rw [if_pos (by omega), if_neg (by omega), if_neg (by omega)]
          simp [he, flatten_map_tok]
        · rw [if_neg (by omega), if_pos (by omega)]
          simp [flatten_map_tok]
    · have hb' : ¬ isBlank (if c = 61 then 68 else c) = true := by
        by_cases hc : c = 61
        · rw [if_pos hc]; decide
        · rw [if_neg hc]; exact hb
      rw [if_neg hb, if_neg hb', List.flatten_append, flatten_map_tok]

theorem tok_len_le (c : Nat) : (tok c).length ≤ 3 := by unfold tok; split <;> simp
theorem tok_len_pos (c : Nat) : 1 ≤ (tok c).length := by unfold tok; split <;> simp

theorem fold_enc {w : Nat} (hw : 4 ≤ w) {e : List (List Nat)} {eol : List Nat} (he : e.flatten = eol) : ∀ (r p : List Nat) (items : List (List Nat)),
    ((tr p).length ≤ w - 1 ∨ (tr p ++ tr r).length ≤ w) →
    (let st := r.foldl (wStep (w : Int) e) (items ++ p.map tok, ((tr p).length : Int), ((tr p ++ tr r).length : Int))
     (wFin (w : Int) e (p ++ r).getLast? st.1 st.2.1).flatten) = items.flatten ++ joinL eol (encR w eol (tr p ++ tr r))
  | [], p, items, h => by
    simp only [List.foldl_nil, List.append_nil, tr_nil] at h ⊢
    have hl : (tr p).length ≤ w := by omega
    rw [encR_last (by omega)]
    exact fin_tail hw he hl
  | c :: r, p, items, h => by
    have eR : tr p ++ tr (c :: r) = tr p ++ (tok c ++ tr r) := by rw [tr_cons]
    have ts := tok_len c
    have tl := tok_len_le c
    have tp := tok_len_pos c
    rw [List.foldl_cons]
    by_cases hb : ((tr p ++ tr (c :: r)).length : Int) > (w : Int) ∧ ((tr p).length : Int) + wSize c ≥ (w : Int)
    · have hst : wStep (w : Int) e (items ++ p.map tok, ((tr p).length : Int), ((tr p ++ tr (c :: r)).length : Int)) c =
          ((items ++ p.map tok ++ ([[61]] ++ e)) ++ [c].map tok, ((tr [c]).length : Int), ((tr [c] ++ tr r).length : Int)) := by
        unfold wStep
        rw [if_pos hb, tr_one, ← ts]
        simp only [tr_cons, List.length_append, List.map_cons, List.map_nil]
        refine Prod.ext ?_ (Prod.ext ?_ ?_)
        · simp
        · simp
        · simp; omega
      rw [hst]
      have hw1 : (tr p).length ≤ w - 1 := h.elim id fun h => by omega
      have ih := fold_enc hw he r [c] (items ++ p.map tok ++ ([[61]] ++ e)) (.inl (by rw [tr_one]; omega))
      have hl : (p ++ c :: r).getLast? = ([c] ++ r).getLast? := getLast_append_ne p (by simp)
      rw [hl]
      refine ih.trans ?_
      have hlt : w < (tr p ++ tr (c :: r)).length := by omega
      rw [encR_more hw hlt]
      have ha : adv w (tr p ++ tr (c :: r)) = (tr p).length := by rw [eR]; exact adv_break hw hw1 (by omega)
      rw [ha, joinL_cons _ _ (encR_ne _ _ _), List.take_left' rfl, List.drop_left' rfl, tr_cons c r, tr_one]
      simp [flatten_map_tok, he]
    · have hst : wStep (w : Int) e (items ++ p.map tok, ((tr p).length : Int), ((tr p ++ tr (c :: r)).length : Int)) c =
          (items ++ (p ++ [c]).map tok, ((tr (p ++ [c])).length : Int), ((tr (p ++ [c]) ++ tr r).length : Int)) := by
        unfold wStep
        rw [if_neg hb, ← ts]
        refine Prod.ext ?_ (Prod.ext ?_ ?_)
        · simp
        · simp [tr_append, tr_one]
        · simp [tr_append, tr_cons, tr_nil]
      rw [hst]
      have e2 : tr p ++ tr (c :: r) = tr (p ++ [c]) ++ tr r := by rw [tr_append, tr_one, tr_cons, List.append_assoc]
      have ih := fold_enc hw he r (p ++ [c]) items (by
        by_cases h3 : (tr p ++ tr (c :: r)).length ≤ w
        · right; rw [← e2]; exact h3
        · left
          rw [tr_append, tr_one, List.length_append]
          have : ¬ ((tr p).length : Int) + wSize c ≥ (w : Int) := fun x => hb ⟨by omega, x⟩
          omega)
      have hl : (p ++ c :: r) = (p ++ [c]) ++ r := by simp
      rw [hl, e2]
      exact ih

theorem written_enc {w : Nat} (hw : 4 ≤ w) {e : List (List Nat)} {eol : List Nat} (he : e.flatten = eol) (line : List Nat) :
    (written (w : Int) e line).flatten = joinL eol (encR w eol (tr line)) := by
  have h := fold_enc hw he line [] [] (.inl (by simp [tr]))
  simp only [List.map_nil, List.append_nil, tr_nil, List.nil_append, List.flatten_nil, List.length_nil] at h
  unfold written wLoop
  rw [← tr_len line]
  exact h

/-! lines -/
def lns : List Nat → List (List Nat)
  | [] => [[]]
  | 13 :: 10 :: r => [] :: lns r
  | c :: r => if c = 13 ∨ c = 10 then [] :: lns r else match lns r with
    | [] => [[c]]
    | h :: t => (c :: h) :: t
theorem lns_ne : ∀ l : List Nat, lns l ≠ [] := by
  intro l
  unfold lns
  split
  · simp
  · simp
  · split
    · simp
    · split <;> simp

/-- the items of a text, as the law writes them -/
def itemsAfter (w : Int) (e : List (List Nat)) : List (List Nat) → List (List Nat)
  | [] => []
  | l :: r => e ++ written w e l ++ itemsAfter w e r
def itemsOf (w : Int) (e : List (List Nat)) : List (List Nat) → List (List Nat)
  | [] => []
  | l :: r => written w e l ++ itemsAfter w e r

def encAll (w : Nat) (eol : List Nat) (ls : List (List Nat)) : List Nat := joinL eol (ls.flatMap fun l => encR w eol (tr l))

theorem flatMap_enc_ne (w : Nat) (eol : List Nat) {ls : List (List Nat)} (h : ls ≠ []) : (ls.flatMap fun l => encR w eol (tr l)) ≠ [] := by
  cases ls with
  | nil => exact absurd rfl h
  | cons l r =>
    rw [List.flatMap_cons]
    intro x
    exact encR_ne w eol (tr l) (List.append_eq_nil_iff.mp x).1

theorem after_enc {w : Nat} (hw : 4 ≤ w) {e : List (List Nat)} {eol : List Nat} (he : e.flatten = eol) : ∀ ls : List (List Nat), ls ≠ [] →
    (itemsAfter (w : Int) e ls).flatten = eol ++ encAll w eol ls
  | [], h => absurd rfl h
  | [l], _ => by
    simp only [itemsAfter, encAll, List.flatten_append, he, written_enc hw he, List.flatMap_cons, List.flatMap_nil, List.append_nil, List.flatten_nil]
  | l :: k :: r, _ => by
    have ih := after_enc hw he (k :: r) (by simp)
    have e1 : encAll w eol (l :: k :: r) = joinL eol (encR w eol (tr l)) ++ eol ++ encAll w eol (k :: r) := by
      unfold encAll
      rw [List.flatMap_cons]
      exact joinL_append eol _ _ (encR_ne _ _ _) (flatMap_enc_ne w eol (by simp))
    rw [itemsAfter, List.flatten_append, List.flatten_append, he, written_enc hw he, ih, e1]
    simp only [List.append_assoc]

theorem items_enc {w : Nat} (hw : 4 ≤ w) {e : List (List Nat)} {eol : List Nat} (he : e.flatten = eol) : ∀ ls : List (List Nat), ls ≠ [] →
    (itemsOf (w : Int) e ls).flatten = encAll w eol ls
  | [], h => absurd rfl h
  | [l], _ => by
    simp only [itemsOf, itemsAfter, encAll, written_enc hw he, List.flatMap_cons, List.flatMap_nil, List.append_nil]
  | l :: k :: r, _ => by
    have ih := after_enc hw he (k :: r) (by simp)
    have e1 : encAll w eol (l :: k :: r) = joinL eol (encR w eol (tr l)) ++ eol ++ encAll w eol (k :: r) := by
      unfold encAll
      rw [List.flatMap_cons]
      exact joinL_append eol _ _ (encR_ne _ _ _) (flatMap_enc_ne w eol (by simp))
    rw [itemsOf, List.flatten_append, written_enc hw he, ih, e1]
    simp only [List.append_assoc]

end Mine
end TPlain
section TPlain2
namespace Mine

/-- what parse257 tells from behind the opening on -/
def pgo : List Nat → List Nat
  | [] => []
  | 34 :: 34 :: r => 34 :: pgo r
  | c :: r => if c = 34 then [] else c :: pgo r
theorem pgo_nil : pgo [] = [] := rfl
theorem pgo_two (r : List Nat) : pgo (34 :: 34 :: r) = 34 :: pgo r := rfl
theorem pgo_other {c : Nat} (h : c ≠ 34) (r : List Nat) : pgo (c :: r) = c :: pgo r := by
  conv => lhs; unfold pgo
  split
  · rename_i e; cases e
  · rename_i e; cases e; exact absurd rfl h
  · rename_i e; cases e; rw [if_neg h]
theorem pgo_end {c : Nat} (h : c ≠ 34) (r : List Nat) : pgo (34 :: c :: r) = [] := by
  unfold pgo
  split
  · rename_i e; cases e
  · rename_i e; cases e; exact absurd rfl h
  · rename_i e; cases e; rfl
theorem pgo_one : pgo [34] = [] := rfl

def parseL (r : List Nat) : List Nat := if (r.drop 3).take 2 = [32, 34] then pgo (r.drop 5) else []

/-- the law's own reading of the items -/
def tl : List (List Nat) → Nat → List Nat → List Nat
  | [], _, told => told
  | x :: r, marks, told => if x = [34] then tl r (marks + 1) (if (marks + 1) % 2 = 0 then told ++ [34] else told) else if marks % 2 = 1 then told else tl r 0 (told ++ x)
def tells (items : List (List Nat)) : List Nat := if (items.drop 3).take 2 = [[32], [34]] then tl (items.drop 5) 0 [] else []

def Good (x : List Nat) : Prop := (∃ c, x = [c]) ∨ (∃ a b, x = [61, a, b] ∧ a ≠ 34 ∧ b ≠ 34)

theorem pgo_append {x : List Nat} (h : ∀ c ∈ x, c ≠ 34) (r : List Nat) : pgo (x ++ r) = x ++ pgo r := by
  induction x with
  | nil => rfl
  | cons c x ih =>
    rw [List.cons_append, pgo_other (h c (List.mem_cons_self ..)), ih fun d hd => h d (List.mem_cons_of_mem _ hd), List.cons_append]

theorem Good.other {x : List Nat} (g : Good x) (h : x ≠ [34]) : (∀ c ∈ x, c ≠ 34) ∧ ∃ c r, x = c :: r := by
  rcases g with ⟨c, rfl⟩ | ⟨a, b, rfl, ha, hb⟩
  · refine ⟨fun d hd => ?_, c, [], rfl⟩
    rw [List.mem_singleton] at hd
    subst hd
    exact fun e => h (by rw [e])
  · refine ⟨fun d hd => ?_, 61, _, rfl⟩
    simp only [List.mem_cons, List.not_mem_nil, or_false] at hd
    rcases hd with rfl | rfl | rfl
    · decide
    · exact ha
    · exact hb

theorem tl_pgo : ∀ (items : List (List Nat)) (marks : Nat) (told : List Nat), (∀ x ∈ items, Good x) →
    tl items marks told = told ++ pgo (if marks % 2 = 0 then items.flatten else 34 :: items.flatten)
  | [], marks, told, _ => by
    unfold tl
    split <;> simp [pgo]
  | x :: r, marks, told, h => by
    have hr : ∀ y ∈ r, Good y := fun y hy => h y (List.mem_cons_of_mem _ hy)
    unfold tl
    by_cases hx : x = [34]
    · rw [if_pos hx, tl_pgo r _ _ hr, hx]
      by_cases hm : marks % 2 = 0
      · have h1 : ¬ (marks + 1) % 2 = 0 := by omega
        rw [if_neg h1, if_neg h1, if_pos hm]; rfl
      · have h1 : (marks + 1) % 2 = 0 := by omega
        rw [if_pos h1, if_pos h1, if_neg hm, List.flatten_cons]
        show _ = told ++ pgo (34 :: 34 :: r.flatten)
        rw [pgo_two]; simp
    · rw [if_neg hx]
      obtain ⟨h1, c, y, rfl⟩ := (h x (List.mem_cons_self ..)).other hx
      have hc : c ≠ 34 := h1 c (List.mem_cons_self ..)
      by_cases hm : marks % 2 = 1
      · have h0 : ¬ marks % 2 = 0 := by omega
        rw [if_pos hm, if_neg h0, List.flatten_cons, List.cons_append, pgo_end hc]; simp
      · have h0 : marks % 2 = 0 := by omega
        rw [if_neg hm, if_pos h0, tl_pgo r _ _ hr, List.flatten_cons, pgo_append h1]; simp

theorem tells_parse {a b c : Nat} {X : List (List Nat)} (h : ∀ x ∈ X, Good x) : tells ([a] :: [b] :: [c] :: X) = parseL ([a] :: [b] :: [c] :: X).flatten := by
  have e0 : ([a] :: [b] :: [c] :: X).flatten = a :: b :: c :: X.flatten := by simp
  rw [e0]
  unfold tells parseL
  show (if X.take 2 = [[32], [34]] then tl (X.drop 2) 0 [] else []) = if X.flatten.take 2 = [32, 34] then pgo (X.flatten.drop 2) else []
  match X, h with
  | [], _ => rfl
  | [x], h =>
    rcases h x (List.mem_singleton.mpr rfl) with ⟨d, rfl⟩ | ⟨d, k, rfl, _, _⟩
    · simp
    · simp
  | x :: y :: Z, h =>
    have hZ : ∀ z ∈ Z, Good z := fun z hz => h z (List.mem_cons_of_mem _ (List.mem_cons_of_mem _ hz))
    rcases h x (List.mem_cons_self ..) with ⟨d, rfl⟩ | ⟨d, k, rfl, _, _⟩
    · rcases h y (List.mem_cons_of_mem _ (List.mem_cons_self ..)) with ⟨u, rfl⟩ | ⟨u, v, rfl, _, _⟩
      · simp only [List.take_succ_cons, List.take_zero, List.drop_succ_cons, List.drop_zero, List.flatten_cons, List.singleton_append, List.cons.injEq, and_true]
        by_cases e : d = 32 ∧ u = 34
        · rw [if_pos e, if_pos e, tl_pgo Z 0 [] hZ]; simp
        · rw [if_neg e, if_neg e]
      · simp
    · simp

/-! all items are good -/
theorem good_tok (c : Nat) : Good (tok c) := by
  unfold tok
  split
  · exact .inr ⟨51, 68, rfl, by decide, by decide⟩
  · exact .inl ⟨c, rfl⟩
theorem good_quote (c : Nat) : Good (quoteL c) := by
  unfold quoteL
  split
  · exact .inr ⟨50, 48, rfl, by decide, by decide⟩
  · exact .inr ⟨48, 57, rfl, by decide, by decide⟩
theorem good_one (c : Nat) : Good [c] := .inl ⟨c, rfl⟩

section
variable {w : Int} {e : List (List Nat)}
theorem wStep_good (he : ∀ x ∈ e, Good x) {st : List (List Nat) × Int × Int} (h : ∀ x ∈ st.1, Good x) (c : Nat) : ∀ x ∈ (wStep w e st c).1, Good x := by
  unfold wStep
  split
  · intro x hx
    simp only [List.mem_append, List.mem_singleton] at hx
    rcases hx with (hx | rfl | hx) | rfl
    · exact h x hx
    · exact good_one _
    · exact he x hx
    · exact good_tok c
  · intro x hx
    simp only [List.mem_append, List.mem_singleton] at hx
    rcases hx with hx | rfl
    · exact h x hx
    · exact good_tok c
theorem fold_good (he : ∀ x ∈ e, Good x) : ∀ (r : List Nat) (st : List (List Nat) × Int × Int), (∀ x ∈ st.1, Good x) → ∀ x ∈ (r.foldl (wStep w e) st).1, Good x
  | [], _, h => h
  | c :: r, st, h => fold_good he r _ (wStep_good he h c)
theorem wFin_good (he : ∀ x ∈ e, Good x) {last : Option Nat} {items : List (List Nat)} {used : Int} (h : ∀ x ∈ items, Good x) : ∀ x ∈ wFin w e last items used, Good x := by
  have hd : ∀ x ∈ items.dropLast, Good x := fun x hx => h x (List.dropLast_sublist items |>.subset hx)
  unfold wFin
  split
  · split
    · split
      · intro x hx
        simp only [List.mem_append, List.mem_singleton] at hx
        rcases hx with hx | rfl | hx
        · exact h x hx
        · exact good_one _
        · exact he x hx
      · intro x hx
        simp only [List.mem_append, List.mem_singleton] at hx
        rcases hx with hx | rfl
        · split at hx
          · simp only [List.mem_append, List.mem_singleton] at hx
            rcases hx with hx | rfl | hx
            · exact hd x hx
            · exact good_one _
            · exact he x hx
          · exact hd x hx
        · exact good_quote _
    · exact h
  · exact h
theorem written_good (he : ∀ x ∈ e, Good x) (line : List Nat) : ∀ x ∈ written w e line, Good x :=
  wFin_good he (fold_good he line _ (by simp))
theorem after_good (he : ∀ x ∈ e, Good x) : ∀ ls : List (List Nat), ∀ x ∈ itemsAfter w e ls, Good x
  | [], x, h => by simp [itemsAfter] at h
  | l :: r, x, h => by
    simp only [itemsAfter, List.mem_append] at h
    rcases h with (h | h) | h
    · exact he x h
    · exact written_good he l x h
    · exact after_good he r x h
theorem items_good (he : ∀ x ∈ e, Good x) : ∀ ls : List (List Nat), ∀ x ∈ itemsOf w e ls, Good x
  | [], x, h => by simp [itemsOf] at h
  | l :: r, x, h => by
    simp only [itemsOf, List.mem_append] at h
    rcases h with h | h
    · exact written_good he l x h
    · exact after_good he r x h

/-- the first three items of a line that opens with three plain signs -/
theorem fold_prefix : ∀ (r : List Nat) (P Y : List (List Nat)) (u k : Int), ∃ Y' u' k', r.foldl (wStep w e) (P ++ Y, u, k) = (P ++ Y', u', k') ∧ (Y ≠ [] ∨ r ≠ [] → Y' ≠ [])
  | [], P, Y, u, k => ⟨Y, u, k, rfl, fun h => h.elim id fun h => absurd rfl h⟩
  | c :: r, P, Y, u, k => by
    rw [List.foldl_cons]
    by_cases h : k > w ∧ u + wSize c ≥ w
    · rw [show wStep w e (P ++ Y, u, k) c = (P ++ Y ++ ([[61]] ++ e) ++ [tok c], 0 + wSize c, k - u) from if_pos h]
      obtain ⟨Y', u', k', e1, e2⟩ := fold_prefix r P (Y ++ ([[61]] ++ e) ++ [tok c]) (0 + wSize c) (k - u)
      refine ⟨Y', u', k', ?_, fun _ => e2 (.inl (by simp))⟩
      rw [← e1]; simp only [List.append_assoc]
    · rw [show wStep w e (P ++ Y, u, k) c = (P ++ Y ++ [tok c], u + wSize c, k) from if_neg h]
      obtain ⟨Y', u', k', e1, e2⟩ := fold_prefix r P (Y ++ [tok c]) (u + wSize c) k
      refine ⟨Y', u', k', ?_, fun _ => e2 (.inl (by simp))⟩
      rw [← e1]; simp only [List.append_assoc]
theorem wFin_prefix {last : Option Nat} {P Y : List (List Nat)} {used : Int} (hY : Y ≠ []) : ∃ Z, wFin w e last (P ++ Y) used = P ++ Z := by
  have hd : (P ++ Y).dropLast = P ++ Y.dropLast := List.dropLast_append_of_ne_nil hY
  unfold wFin
  rw [hd]
  split
  · split
    · split
      · exact ⟨_, List.append_assoc ..⟩
      · split
        · exact ⟨Y.dropLast ++ ([[61]] ++ e) ++ [quoteL _], by simp only [List.append_assoc]; rfl⟩
        · exact ⟨Y.dropLast ++ [quoteL _], by simp only [List.append_assoc]; rfl⟩
    · exact ⟨Y, rfl⟩
  · exact ⟨Y, rfl⟩
theorem written_prefix (hw : 4 ≤ w) {a b c d : Nat} (ha : a ≠ 61) (hb : b ≠ 61) (hc : c ≠ 61) (r : List Nat) :
    ∃ Z, written w e (a :: b :: c :: d :: r) = [a] :: [b] :: [c] :: Z := by
  unfold written wLoop
  generalize (((a :: b :: c :: d :: r).length : Int) + 2 * ((a :: b :: c :: d :: r).count 61 : Int)) = k
  have s1 : ∀ (P : List (List Nat)) (u : Int) (x : Nat), x ≠ 61 → u + 1 < w → wStep w e (P, u, k) x = (P ++ [[x]], u + 1, k) := fun P u x hx hu => by
    unfold wStep wSize tok
    rw [if_neg hx, if_neg hx, if_neg (by dsimp only; omega)]
  rw [List.foldl_cons, s1 [] 0 a ha (by omega), List.foldl_cons, s1 _ _ b hb (by omega), List.foldl_cons, s1 _ _ c hc (by omega)]
  obtain ⟨Y', u', k', e1, e2⟩ := fold_prefix (w := w) (e := e) (d :: r) ([] ++ [[a]] ++ [[b]] ++ [[c]]) [] (0 + 1 + 1 + 1) k
  rw [List.append_nil] at e1
  rw [e1]
  obtain ⟨Z, hZ⟩ := wFin_prefix (w := w) (e := e) (last := (a :: b :: c :: d :: r).getLast?) (P := [] ++ [[a]] ++ [[b]] ++ [[c]]) (used := u') (e2 (.inr (by simp)))
  exact ⟨Z, hZ⟩
end

/-! the two readings -/
inductive Res where
  | i (n : Int)
  | s (x : List Nat)

def code257 : List Nat := [50, 53, 55]
def marksL (q : Nat) : List Nat := List.replicate q 34
def marksI (q : Nat) : List (List Nat) := List.replicate q [34]

/-- body_encode -/
def encT (w : Nat) (eol body : List Nat) : List Nat := encAll w eol (lns body)

def heardL (front text : List Nat) (w q : Nat) : Res :=
  if w < 4 then .i 0 else if (front ++ encT w (marksL q) text).take 3 ≠ code257 then .i 1 else .s (parseL (front ++ encT w (marksL q) text))

def singles (l : List Nat) : List (List Nat) := l.map fun c => [c]
def allItems (front text : List Nat) (w q : Nat) : List (List Nat) := singles front ++ itemsOf (w : Int) (marksI q) (lns text)
def dueL (front text : List Nat) (w q : Nat) : Res :=
  if w < 4 then .i 0 else if (front ++ text).take 3 ≠ code257 then .i 1 else .s (tells (allItems front text w q))

theorem marks_flat (q : Nat) : (marksI q).flatten = marksL q := by
  unfold marksI marksL
  induction q with
  | zero => rfl
  | succ q ih => rw [List.replicate_succ, List.flatten_cons, ih, List.replicate_succ]; rfl
theorem marks_good (q : Nat) : ∀ x ∈ marksI q, Good x := fun x h => by
  rw [(List.mem_replicate.mp h).2]; exact good_one _
theorem singles_flat (l : List Nat) : (singles l).flatten = l := by
  induction l with
  | nil => rfl
  | cons c l ih => show [c] ++ (singles l).flatten = _; rw [ih]; rfl
theorem singles_good (l : List Nat) : ∀ x ∈ singles l, Good x := fun x h => by
  obtain ⟨c, _, rfl⟩ := List.mem_map.mp h; exact good_one _

theorem all_flat {w : Nat} (hw : 4 ≤ w) (front text : List Nat) (q : Nat) : (allItems front text w q).flatten = front ++ encT w (marksL q) text := by
  unfold allItems encT
  rw [List.flatten_append, singles_flat, items_enc hw (marks_flat q) _ (lns_ne text)]

/-- an opening: three signs, a blank, a mark, in front or in the text -/
def Opens (front text : List Nat) : Prop :=
  (∃ a b c r, front = a :: b :: c :: r) ∨ (front = [] ∧ ∃ a b c d r, text = a :: b :: c :: d :: r ∧ (∀ x ∈ [a, b, c, d], x ≠ 61 ∧ x ≠ 13 ∧ x ≠ 10))

theorem lns_cons {c : Nat} (h1 : c ≠ 13) (h2 : c ≠ 10) (r : List Nat) : ∃ l t, lns r = l :: t ∧ lns (c :: r) = (c :: l) :: t := by
  cases h : lns r with
  | nil => exact absurd h (lns_ne r)
  | cons l t =>
    refine ⟨l, t, rfl, ?_⟩
    unfold lns
    split
    · rename_i e; cases e
    · rename_i e; cases e; exact absurd rfl h1
    · rename_i e; cases e
      rw [if_neg (by omega), h]

theorem both {front text : List Nat} {w q : Nat} (h : Opens front text) : heardL front text w q = dueL front text w q := by
  unfold heardL dueL
  by_cases hw : w < 4
  · rw [if_pos hw, if_pos hw]
  · rw [if_neg hw, if_neg hw]
    have hw' : 4 ≤ w := by omega
    have key : ∃ a b c X, allItems front text w q = [a] :: [b] :: [c] :: X ∧ (∀ x ∈ X, Good x) ∧ (front ++ text).take 3 = [a, b, c] := by
      rcases h with ⟨a, b, c, r, rfl⟩ | ⟨rfl, a, b, c, d, r, rfl, hx⟩
      · refine ⟨a, b, c, singles r ++ itemsOf (w : Int) (marksI q) (lns text), rfl, fun x hx => ?_, rfl⟩
        rcases List.mem_append.mp hx with hx | hx
        · exact singles_good r x hx
        · exact items_good (marks_good q) _ x hx
      · have ha := hx a (by simp)
        have hb := hx b (by simp)
        have hc := hx c (by simp)
        have hd := hx d (by simp)
        obtain ⟨l4, t4, _, f4⟩ := lns_cons hd.2.1 hd.2.2 r
        obtain ⟨l3, t3, e3, f3⟩ := lns_cons hc.2.1 hc.2.2 (d :: r)
        obtain ⟨l2, t2, e2, f2⟩ := lns_cons hb.2.1 hb.2.2 (c :: d :: r)
        obtain ⟨l1, t1, e1, f1⟩ := lns_cons ha.2.1 ha.2.2 (b :: c :: d :: r)
        rw [f4] at e3; cases e3
        rw [f3] at e2; cases e2
        rw [f2] at e1; cases e1
        obtain ⟨Z, hZ⟩ := written_prefix (w := (w : Int)) (e := marksI q) (by omega) (d := d) ha.1 hb.1 hc.1 l4
        refine ⟨a, b, c, Z ++ itemsAfter (w : Int) (marksI q) t4, ?_, ?_, rfl⟩
        · unfold allItems
          rw [f1]
          show [] ++ (written _ _ _ ++ _) = _
          rw [hZ]; rfl
        · intro x hx
          rcases List.mem_append.mp hx with hx | hx
          · exact written_good (marks_good q) (a :: b :: c :: d :: l4) x (by rw [hZ]; simp [hx])
          · exact after_good (marks_good q) _ x hx
    obtain ⟨a, b, c, X, e1, hX, e2⟩ := key
    have ef := all_flat hw' front text q
    rw [← ef, e1, e2, tells_parse hX]
    have e3 : (([a] :: [b] :: [c] :: X).flatten).take 3 = [a, b, c] := by simp
    rw [e3]
end Mine
end TPlain2
section TPlain3
open PySem PySem.Builtin PySem.Builtin.Str PySem.StrLaws
namespace Mine

def toL (x : Str) : List Nat := x.cps.toList
def ofL (l : List Nat) : Str := ⟨l.toArray⟩
theorem toL_ofL (l : List Nat) : toL (ofL l) = l := rfl
theorem ofL_toL (x : Str) : ofL (toL x) = x := by
  cases x with | mk c => unfold ofL toL; simp
theorem toL_inj {x y : Str} (h : toL x = toL y) : x = y := by rw [← ofL_toL x, h, ofL_toL]
theorem toL_length (x : Str) : (toL x).length = x.length := by simp [toL, Str.length]
theorem toL_append (x y : Str) : toL (x ++ y) = toL x ++ toL y := by
  unfold toL; rw [Str.cps_append, Array.toList_append]
theorem ofL_append (a b : List Nat) : ofL (a ++ b) = ofL a ++ ofL b := toL_inj (by rw [toL_append]; rfl)
theorem ofL_length (l : List Nat) : (ofL l).length = l.length := by simp [ofL, Str.length]
theorem toL_sub (x : Str) (i j : Nat) : toL (strSub x i j) = ((toL x).drop i).take (j - i) := strSub_toList x i j

theorem toL_join (sep : Str) : ∀ xs : List Str, toL (Str.join sep xs) = joinL (toL sep) (xs.map toL)
  | [] => rfl
  | [x] => rfl
  | x :: y :: r => by
    have ih := toL_join sep (y :: r)
    rw [List.map_cons, joinL_cons _ _ (by simp), ← ih]
    show toL (x ++ sep ++ Str.join sep (y :: r)) = _
    rw [toL_append, toL_append]

/-! one sign -/
def cut1 (c : Nat) : List Nat → List (List Nat)
  | [] => [[]]
  | k :: r => if k = c then [] :: cut1 c r else match cut1 c r with
    | [] => [[k]]
    | h :: t => (k :: h) :: t
theorem cut1_ne (c : Nat) : ∀ l, cut1 c l ≠ []
  | [] => by simp [cut1]
  | k :: r => by
    unfold cut1
    split
    · simp
    · split <;> simp
theorem cut1_free (c : Nat) : ∀ l : List Nat, c ∉ l → cut1 c l = [l]
  | [], _ => rfl
  | k :: r, h => by
    have h1 : ¬ k = c := fun e => h (e ▸ List.mem_cons_self ..)
    unfold cut1
    rw [if_neg h1, cut1_free c r fun m => h (List.mem_cons_of_mem _ m)]
theorem cut1_app (c : Nat) : ∀ (l r : List Nat), c ∉ l → cut1 c (l ++ c :: r) = l :: cut1 c r
  | [], r, _ => by
    rw [List.nil_append, cut1, if_pos rfl]
  | k :: l, r, h => by
    have h1 : ¬ k = c := fun e => h (e ▸ List.mem_cons_self ..)
    rw [List.cons_append, cut1, if_neg h1, cut1_app c l r fun m => h (List.mem_cons_of_mem _ m)]
theorem cut1_join (c : Nat) : ∀ parts : List (List Nat), parts ≠ [] → (∀ p ∈ parts, c ∉ p) → cut1 c (joinL [c] parts) = parts
  | [], h, _ => absurd rfl h
  | [p], _, h => cut1_free c p (h p (List.mem_singleton.mpr rfl))
  | p :: q :: r, _, h => by
    have ih := cut1_join c (q :: r) (by simp) fun a ha => h a (List.mem_cons_of_mem _ ha)
    rw [joinL_cons _ _ (by simp), List.append_assoc, List.singleton_append, cut1_app c p _ (h p (List.mem_cons_self ..)), ih]
theorem split_ne (x y : Str) : Txt.split x y ≠ [] := by
  unfold Txt.split
  split
  · simp
  · split
    · simp
    · rw [partsBetween_eq]
      obtain ⟨p, r, e⟩ := partsFrom_ne x y.length 0 (occurrences x y 0 x.length (x.length + 1))
      rw [e]; simp
theorem split_one (x : Str) (c : Nat) : (Txt.split x ⟨#[c]⟩).map toL = cut1 c (toL x) := by
  have h := cut1_join c ((Txt.split x ⟨#[c]⟩).map toL) (by simpa using split_ne x ⟨#[c]⟩) (fun p hp => by
    obtain ⟨q, hq, rfl⟩ := List.mem_map.mp hp
    exact split_free x c q hq)
  have j := toL_join ⟨#[c]⟩ (Txt.split x ⟨#[c]⟩)
  rw [join_split] at j
  rw [j]
  exact h.symm
theorem replace_1 (x : Str) (c d : Nat) : toL (Txt.replace x ⟨#[c]⟩ ⟨#[d]⟩) = joinL [d] (cut1 c (toL x)) := by
  rw [replace_one, toL_join, split_one]; rfl
theorem joinL_cut1 (c d : Nat) : ∀ l : List Nat, joinL [d] (cut1 c l) = l.map fun k => if k = c then d else k
  | [] => rfl
  | k :: r => by
    have ih := joinL_cut1 c d r
    have hn := cut1_ne c r
    unfold cut1
    by_cases h : k = c
    · rw [if_pos h, joinL_cons _ _ hn, ih]
      simp [h]
    · rw [if_neg h]
      cases hr : cut1 c r with
      | nil => exact absurd hr hn
      | cons a t =>
        rw [hr] at ih
        simp only [List.map_cons, if_neg h]
        rw [← ih]
        cases t with
        | nil => rfl
        | cons b t => rfl

/-! return and line feed -/
def cut2 : List Nat → List (List Nat)
  | [] => [[]]
  | 13 :: 10 :: r => [] :: cut2 r
  | c :: r => match cut2 r with
    | [] => [[c]]
    | h :: t => (c :: h) :: t
theorem cut2_two (r : List Nat) : cut2 (13 :: 10 :: r) = [] :: cut2 r := rfl
theorem cut2_other {c : Nat} {r : List Nat} (h : ¬ (c = 13 ∧ r.head? = some 10)) : cut2 (c :: r) = (match cut2 r with
    | [] => [[c]]
    | h :: t => (c :: h) :: t) := by
  conv => lhs; unfold cut2
  split
  · rename_i e; cases e
  · rename_i e; cases e; exact absurd ⟨rfl, rfl⟩ h
  · rename_i e; cases e; rfl
def crlf : Str := ⟨#[13, 10]⟩
theorem at_crlf (x : Str) (i : Nat) : At x crlf x.length i ↔ (toL x)[i]? = some 13 ∧ (toL x)[i + 1]? = some 10 := by
  have hl : x.length = (toL x).length := (toL_length x).symm
  unfold At
  rw [subAt_eq]
  show (i + 2 ≤ x.length ∧ (((toL x).drop i).take 2 == [13, 10]) = true) ↔ _
  rw [hl, beq_iff_eq]
  generalize toL x = L
  constructor
  · rintro ⟨h1, h2⟩
    have a : ((L.drop i).take 2)[0]? = some 13 := by rw [h2]; rfl
    have b : ((L.drop i).take 2)[1]? = some 10 := by rw [h2]; rfl
    rw [List.getElem?_take_of_lt (by omega), List.getElem?_drop] at a b
    exact ⟨by simpa using a, b⟩
  · rintro ⟨h1, h2⟩
    obtain ⟨l1, e1⟩ := List.getElem?_eq_some_iff.mp h1
    obtain ⟨l2, e2⟩ := List.getElem?_eq_some_iff.mp h2
    refine ⟨by omega, ?_⟩
    rw [List.drop_eq_getElem_cons l1, List.drop_eq_getElem_cons l2, e1, e2]
    rfl

theorem cut2_tail (x : Str) : ∀ (m a : Nat), a + m = (toL x).length → (∀ k, a ≤ k → ¬ At x crlf x.length k) → cut2 ((toL x).drop a) = [(toL x).drop a]
  | 0, a, h, _ => by
    rw [List.drop_eq_nil_of_le (by omega)]; rfl
  | m + 1, a, h, hn => by
    have hlt : a < (toL x).length := by omega
    have ih := cut2_tail x m (a + 1) (by omega) fun k hk => hn k (by omega)
    have h0 := hn a (Nat.le_refl _)
    rw [at_crlf] at h0
    rw [List.drop_eq_getElem_cons hlt, cut2_other (fun hc => h0 ⟨by rw [List.getElem?_eq_getElem hlt, hc.1], by rw [← hc.2, List.head?_drop]⟩), ih]

theorem cut2_head (x : Str) (c : Nat) (hc : At x crlf x.length c) : ∀ (m a : Nat), a + m = c → (∀ k, a ≤ k → k < c → ¬ At x crlf x.length k) →
    cut2 ((toL x).drop a) = ((toL x).drop a).take (c - a) :: cut2 ((toL x).drop (c + 2))
  | 0, a, h, _ => by
    have ea : a = c := by omega
    subst ea
    obtain ⟨h1, h2⟩ := (at_crlf x a).mp hc
    obtain ⟨l1, e1⟩ := List.getElem?_eq_some_iff.mp h1
    obtain ⟨l2, e2⟩ := List.getElem?_eq_some_iff.mp h2
    rw [List.drop_eq_getElem_cons l1, List.drop_eq_getElem_cons l2, e1, e2, cut2_two, Nat.sub_self]
    rfl
  | m + 1, a, h, hn => by
    have hcl := ((at_crlf x c).mp hc).1
    obtain ⟨l1, _⟩ := List.getElem?_eq_some_iff.mp hcl
    have hlt : a < (toL x).length := by omega
    have ih := cut2_head x c hc m (a + 1) (by omega) fun k hk => hn k (by omega)
    have h0 := hn a (Nat.le_refl _) (by omega)
    rw [at_crlf] at h0
    rw [List.drop_eq_getElem_cons hlt, cut2_other (fun hx => h0 ⟨by rw [List.getElem?_eq_getElem hlt, hx.1], by rw [← hx.2, List.head?_drop]⟩), ih]
    show (_ :: _) :: _ = _
    have e : c - a = (c - (a + 1)) + 1 := by omega
    rw [e, List.take_succ_cons]

theorem parts_cut2 (x : Str) : ∀ (cuts : List Nat) (a f : Nat), a ≤ x.length → ChainG x crlf x.length a cuts f → (∀ k, f ≤ k → ¬ At x crlf x.length k) →
    (partsFrom x crlf.length a cuts).map toL = cut2 ((toL x).drop a)
  | [], a, f, ha, h, hn => by
    have e : f = a := h
    subst e
    have hl := toL_length x
    rw [cut2_tail x ((toL x).length - f) f (by omega) hn]
    show [toL (strSub x f x.length)] = _
    rw [toL_sub, List.take_of_length_le (by simp; omega)]
  | c :: r, a, f, ha, h, hn => by
    have hb := h.2.1.1
    have ih := parts_cut2 x r (c + crlf.length) f hb h.2.2.2 hn
    have hh := cut2_head x c h.2.1 (c - a) a (by have := h.1; omega) h.2.2.1
    rw [hh]
    show toL (strSub x a c) :: (partsFrom x crlf.length (c + crlf.length) r).map toL = _
    rw [ih, toL_sub]
    rfl

/-- x.replace('\r\n', '\n') -/
def rep2 : List Nat → List Nat
  | [] => []
  | 13 :: 10 :: r => 10 :: rep2 r
  | c :: r => c :: rep2 r
theorem rep2_two (r : List Nat) : rep2 (13 :: 10 :: r) = 10 :: rep2 r := rfl
theorem rep2_other {c : Nat} {r : List Nat} (h : ¬ (c = 13 ∧ r.head? = some 10)) : rep2 (c :: r) = c :: rep2 r := by
  conv => lhs; unfold rep2
  split
  · rename_i e; cases e
  · rename_i e; cases e; exact absurd ⟨rfl, rfl⟩ h
  · rename_i e; cases e; rfl
theorem cut2_ne : ∀ l, cut2 l ≠ [] := by
  intro l
  unfold cut2
  split
  · simp
  · simp
  · split <;> simp

theorem two_cases (P : List Nat → Prop) (h0 : P []) (h2 : ∀ r, P r → P (13 :: 10 :: r)) (h1 : ∀ c r, ¬ (c = 13 ∧ r.head? = some 10) → P r → P (c :: r)) : ∀ l, P l := by
  have : ∀ n, ∀ l : List Nat, l.length ≤ n → P l := by
    intro n
    induction n with
    | zero => intro l hl; cases l with
      | nil => exact h0
      | cons c r => simp at hl
    | succ n ih =>
      intro l hl
      match l, hl with
      | [], _ => exact h0
      | c :: r, hl =>
        by_cases h : c = 13 ∧ r.head? = some 10
        · obtain ⟨rfl, hr⟩ := h
          cases r with
          | nil => cases hr
          | cons d r =>
            cases hr
            exact h2 r (ih r (by simp at hl; omega))
        · exact h1 c r h (ih r (by simp at hl; omega))
  exact fun l => this l.length l (Nat.le_refl _)

theorem join_cut2 (l : List Nat) : joinL [10] (cut2 l) = rep2 l := by
  refine two_cases (fun l => joinL [10] (cut2 l) = rep2 l) rfl (fun r ih => ?_) (fun c r h ih => ?_) l
  · rw [cut2_two, rep2_two, joinL_cons _ _ (cut2_ne r), ih]; rfl
  · rw [cut2_other h, rep2_other h, ← ih]
    cases hr : cut2 r with
    | nil => exact absurd hr (cut2_ne r)
    | cons a t =>
      cases t with
      | nil => rfl
      | cons b t => rfl

theorem join_cut2' (l : List Nat) : joinL [13, 10] (cut2 l) = l := by
  refine two_cases (fun l => joinL [13, 10] (cut2 l) = l) rfl (fun r ih => ?_) (fun c r h ih => ?_) l
  · rw [cut2_two, joinL_cons _ _ (cut2_ne r), ih]; rfl
  · rw [cut2_other h]
    conv => rhs; rw [← ih]
    cases hr : cut2 r with
    | nil => exact absurd hr (cut2_ne r)
    | cons a t =>
      cases t with
      | nil => rfl
      | cons b t => rfl

theorem rep2_free {l : List Nat} (h : cut2 l = [l]) : rep2 l = l := by rw [← join_cut2, h]; rfl

theorem replace_2 (x : Str) : toL (Txt.replace x crlf ⟨#[10]⟩) = rep2 (toL x) := by
  obtain ⟨f, hG, hn⟩ := occ_tight x crlf (by decide)
  have hp := parts_cut2 x _ 0 f (Nat.zero_le _) hG hn
  rw [List.drop_zero] at hp
  unfold Txt.replace
  have h2 : (crlf.length == 0) = false := rfl
  rw [h2, Bool.false_and, Bool.or_false]
  cases he : (occurrences x crlf 0 x.length (x.length + 1)).isEmpty
  · rw [if_neg Bool.false_ne_true, glued_eq_join, toL_join, partsBetween_eq, hp]
    exact join_cut2 _
  · rw [if_pos rfl]
    have e0 : occurrences x crlf 0 x.length (x.length + 1) = [] := List.isEmpty_iff.mp he
    rw [e0] at hp
    have e1 : [toL (strSub x 0 x.length)] = cut2 (toL x) := hp
    rw [sub_whole] at e1
    exact (rep2_free e1.symm).symm

theorem cut1_10_13 (l : List Nat) : cut1 10 ((rep2 l).map fun k => if k = 13 then 10 else k) = lns l := by
  refine two_cases (fun l => cut1 10 ((rep2 l).map fun k => if k = 13 then 10 else k) = lns l) rfl (fun r ih => ?_) (fun c r h ih => ?_) l
  · rw [rep2_two, List.map_cons]
    show cut1 10 (10 :: _) = _
    rw [cut1, if_pos rfl, ih]; rfl
  · rw [rep2_other h, List.map_cons]
    have el : lns (c :: r) = if c = 13 ∨ c = 10 then [] :: lns r else match lns r with
      | [] => [[c]]
      | h :: t => (c :: h) :: t := by
      conv => lhs; unfold lns
      split
      · rename_i e; cases e
      · rename_i e; cases e; exact absurd ⟨rfl, rfl⟩ h
      · rename_i e; cases e; rfl
    rw [el, ← ih]
    by_cases h13 : c = 13
    · rw [if_pos h13, if_pos (.inl h13), cut1, if_pos rfl]
    · rw [if_neg h13]
      by_cases h10 : c = 10
      · rw [if_pos (.inr h10), cut1, if_pos h10]
      · rw [if_neg (by omega), cut1, if_neg h10]

/-- the law's lines -/
theorem law_lines (x : Str) : (Txt.split (Txt.replace (Txt.replace x crlf ⟨#[10]⟩) ⟨#[13]⟩ ⟨#[10]⟩) ⟨#[10]⟩).map toL = lns (toL x) := by
  rw [split_one, replace_1, joinL_cut1, replace_2, cut1_10_13]

end Mine
end TPlain3
section TPlain4
open PySem PySem.Builtin PySem.Builtin.Str PySem.StrLaws
namespace Mine

/-- splitlines, over texts whose line breaks are 13 and 10 -/
def pl : List Nat → List (List Nat)
  | [] => []
  | 13 :: 10 :: r => [] :: pl r
  | c :: r => if c = 13 ∨ c = 10 then [] :: pl r else match pl r with
    | [] => [[c]]
    | h :: t => (c :: h) :: t
theorem pl_two (r : List Nat) : pl (13 :: 10 :: r) = [] :: pl r := rfl
theorem pl_other {c : Nat} {r : List Nat} (h : ¬ (c = 13 ∧ r.head? = some 10)) : pl (c :: r) = if c = 13 ∨ c = 10 then [] :: pl r else match pl r with
    | [] => [[c]]
    | h :: t => (c :: h) :: t := by
  conv => lhs; unfold pl
  split
  · rename_i e; cases e
  · rename_i e; cases e; exact absurd ⟨rfl, rfl⟩ h
  · rename_i e; cases e; rfl
theorem lns_two (r : List Nat) : lns (13 :: 10 :: r) = [] :: lns r := rfl
theorem lns_other {c : Nat} {r : List Nat} (h : ¬ (c = 13 ∧ r.head? = some 10)) : lns (c :: r) = if c = 13 ∨ c = 10 then [] :: lns r else match lns r with
    | [] => [[c]]
    | h :: t => (c :: h) :: t := by
  conv => lhs; unfold lns
  split
  · rename_i e; cases e
  · rename_i e; cases e; exact absurd ⟨rfl, rfl⟩ h
  · rename_i e; cases e; rfl

def endsOpen (l : List Nat) : Bool := match l.getLast? with
  | some c => c == 13 || c == 10
  | none => true
theorem endsOpen_cons (c d : Nat) (r : List Nat) : endsOpen (c :: d :: r) = endsOpen (d :: r) := by
  unfold endsOpen; rw [List.getLast?_cons_cons]

theorem pl_ne : ∀ l : List Nat, l ≠ [] → pl l ≠ [] := by
  intro l hl
  unfold pl
  split
  · exact absurd rfl hl
  · simp
  · split
    · simp
    · split <;> simp

theorem lns_pl (l : List Nat) : lns l = pl l ++ (if endsOpen l then [[]] else []) := by
  refine two_cases (fun l => lns l = pl l ++ (if endsOpen l then [[]] else [])) rfl (fun r ih => ?_) (fun c r h ih => ?_) l
  · rw [lns_two, pl_two, ih]
    have : endsOpen (13 :: 10 :: r) = endsOpen r := by
      cases r with
      | nil => rfl
      | cons d r => rw [endsOpen_cons, endsOpen_cons]
    rw [this]; rfl
  · rw [lns_other h, pl_other h]
    cases r with
    | nil =>
      by_cases hb : c = 13 ∨ c = 10
      · rw [if_pos hb, if_pos hb]
        have : endsOpen [c] = true := by
          show (c == 13 || c == 10) = true
          simpa using hb
        rw [this]; rfl
      · rw [if_neg hb, if_neg hb]
        have : endsOpen [c] = false := by
          show (c == 13 || c == 10) = false
          simpa using hb
        rw [this]; rfl
    | cons d r =>
      rw [endsOpen_cons]
      by_cases hb : c = 13 ∨ c = 10
      · rw [if_pos hb, if_pos hb, ih]; rfl
      · rw [if_neg hb, if_neg hb, ih]
        cases hp : pl (d :: r) with
        | nil => exact absurd hp (pl_ne _ (by simp))
        | cons a t => rfl

def glue (p : List Nat) : List (List Nat) → List (List Nat)
  | [] => if p = [] then [] else [p]
  | h :: t => (p ++ h) :: t
theorem glue_nil (l : List (List Nat)) : glue [] l = l := by cases l <;> rfl

def Breaks (l : List Nat) : Prop := ∀ c ∈ l, Unicode.isLineBreak c = (c == 13 || c == 10)

theorem ls_pl (x : Str) (hb : Breaks (toL x)) : ∀ (m cur : Nat) (lines : Array (Nat × Nat × Nat)) (start : Nat), cur + m = (toL x).length → start ≤ cur + 1 → start ≤ (toL x).length →
    (lsEnd x (Id.run (forIn (m := Id) (List.range' cur m) (lines, start) (lsBody x)))).map (fun p => toL (strSub x p.1 p.2.1)) =
      lines.toList.map (fun p => toL (strSub x p.1 p.2.1)) ++ (if start ≤ cur then glue (((toL x).drop start).take (cur - start)) (pl ((toL x).drop cur)) else pl ((toL x).drop start))
  | 0, cur, lines, start, hm, hs, hs' => by
    have hl := toL_length x
    have hc : cur = (toL x).length := by omega
    subst hc
    rw [if_pos hs', List.drop_length]
    show List.map _ (lsEnd x (lines, start)) = _ ++ glue _ []
    unfold lsEnd glue
    dsimp only
    by_cases h : start < x.length
    · rw [if_pos h, Array.toList_push, List.map_append]
      have hne : ¬ (((toL x).drop start).take ((toL x).length - start) = []) := fun e => by
        have := congrArg List.length e
        simp at this; omega
      rw [if_neg hne]
      simp only [List.map_cons, List.map_nil]
      rw [toL_sub, ← hl]
    · rw [if_neg h]
      have he : (((toL x).drop start).take ((toL x).length - start) = []) := by
        rw [List.drop_eq_nil_of_le (by omega), List.take_nil]
      rw [if_pos he, List.append_nil]
  | m + 1, cur, lines, start, hm, hs, hs' => by
    have hl := toL_length x
    have hlt : cur < (toL x).length := by omega
    have hcur : x.cps.getD cur 0 = (toL x)[cur] := by
      have : cur < x.cps.size := by unfold toL at hlt; simpa using hlt
      simp [Array.getD, this, toL]
    have hnx : x.cps[cur + 1]? = (toL x)[cur + 1]? := by simp [toL]
    have hbr : Unicode.isLineBreak (x.cps.getD cur 0) = ((toL x)[cur] == 13 || (toL x)[cur] == 10) := by
      rw [hcur]; exact hb _ (List.getElem_mem hlt)
    rw [List.range'_succ, List.forIn_cons]
    have ed : (toL x).drop cur = (toL x)[cur] :: (toL x).drop (cur + 1) := List.drop_eq_getElem_cons hlt
    by_cases h1 : start ≤ cur
    · rw [if_pos h1]
      by_cases h2 : ((toL x)[cur] = 13 ∨ (toL x)[cur] = 10)
      · have hcond : (decide ((lines, start).snd ≤ cur) && Unicode.isLineBreak (x.cps.getD cur 0)) = true := by
          rw [hbr]; simp [h1, h2]
        have hbody : lsBody x cur (lines, start) = (pure (ForInStep.yield (lines.push (start, cur, lsNext x cur), lsNext x cur)) : Id _) := by
          unfold lsBody; rw [if_pos hcond]
        rw [hbody]
        show List.map _ (lsEnd x (Id.run (forIn (m := Id) (List.range' (cur + 1) m) (lines.push (start, cur, lsNext x cur), lsNext x cur) (lsBody x)))) = _
        have hpush : (lines.push (start, cur, lsNext x cur)).toList.map (fun p => toL (strSub x p.1 p.2.1)) = lines.toList.map (fun p => toL (strSub x p.1 p.2.1)) ++ [((toL x).drop start).take (cur - start)] := by
          rw [Array.toList_push, List.map_append]
          simp only [List.map_cons, List.map_nil]
          rw [toL_sub]
        by_cases h3 : (toL x)[cur] = 13 ∧ (toL x)[cur + 1]? = some 10
        · have hn : lsNext x cur = cur + 2 := by
            unfold lsNext; rw [hcur, hnx, h3.1, h3.2]; rfl
          obtain ⟨l2, e2⟩ := List.getElem?_eq_some_iff.mp h3.2
          rw [hn] at hpush ⊢
          rw [ls_pl x hb m (cur + 1) _ (cur + 2) (by omega) (by omega) (by omega), hpush, if_neg (by omega), ed, List.drop_eq_getElem_cons l2, h3.1, e2, pl_two]
          show _ ++ [_] ++ pl _ = _ ++ (_ ++ []) :: _
          simp
        · have hn : lsNext x cur = cur + 1 := by
            unfold lsNext
            rw [hcur, hnx]
            have : ¬ ((toL x)[cur] == 13 && (toL x)[cur + 1]? == some 10) = true := by
              rw [Bool.and_eq_true, beq_iff_eq, beq_iff_eq]; exact h3
            rw [if_neg this]
          rw [hn] at hpush ⊢
          rw [ls_pl x hb m (cur + 1) _ (cur + 1) (by omega) (by omega) (by omega), hpush, if_pos (Nat.le_refl _), Nat.sub_self, List.take_zero, glue_nil, ed,
            pl_other (fun hx => h3 ⟨hx.1, by rw [← hx.2, List.head?_drop]⟩), if_pos h2]
          show _ ++ [_] ++ pl _ = _ ++ (_ ++ []) :: _
          simp
      · have hcond : ¬ (decide ((lines, start).snd ≤ cur) && Unicode.isLineBreak (x.cps.getD cur 0)) = true := by
          rw [hbr]; simp; intro _; omega
        have hbody : lsBody x cur (lines, start) = (pure (ForInStep.yield (lines, start)) : Id _) := by
          unfold lsBody; rw [if_neg hcond]
        rw [hbody]
        show List.map _ (lsEnd x (Id.run (forIn (m := Id) (List.range' (cur + 1) m) (lines, start) (lsBody x)))) = _
        rw [ls_pl x hb m (cur + 1) _ start (by omega) (by omega) hs', if_pos (by omega), ed, pl_other (fun hx => h2 (.inl hx.1)), if_neg h2]
        have et : ((toL x).drop start).take (cur + 1 - start) = ((toL x).drop start).take (cur - start) ++ [(toL x)[cur]] := by
          have e1 : cur + 1 - start = (cur - start) + 1 := by omega
          have e2 : ((toL x).drop start)[cur - start]? = some (toL x)[cur] := by
            rw [List.getElem?_drop]
            have : start + (cur - start) = cur := by omega
            rw [this, List.getElem?_eq_getElem hlt]
          rw [e1, List.take_add_one, e2]; rfl
        rw [et]
        cases hp : pl ((toL x).drop (cur + 1)) with
        | nil => simp [glue]
        | cons a t => simp [glue]
    · have es : start = cur + 1 := by omega
      subst es
      have hcond : ¬ (decide ((lines, cur + 1).snd ≤ cur) && Unicode.isLineBreak (x.cps.getD cur 0)) = true := by
        rw [Bool.and_eq_true, decide_eq_true_eq]; exact fun hx => absurd hx.1 (Nat.not_succ_le_self cur)
      have hbody : lsBody x cur (lines, cur + 1) = (pure (ForInStep.yield (lines, cur + 1)) : Id _) := by
        unfold lsBody; rw [if_neg hcond]
      rw [hbody, if_neg h1]
      show List.map _ (lsEnd x (Id.run (forIn (m := Id) (List.range' (cur + 1) m) (lines, cur + 1) (lsBody x)))) = _
      rw [ls_pl x hb m (cur + 1) _ (cur + 1) (by omega) (by omega) hs', if_pos (Nat.le_refl _), Nat.sub_self, List.take_zero, glue_nil]

theorem linesOf_pl (x : Str) (hb : Breaks (toL x)) : (linesOf x).map toL = pl (toL x) := by
  have e : linesOf x = (lineSpans x).map fun (p : Nat × Nat × Nat) => strSub x p.1 p.2.1 := by
    unfold linesOf lineCuts
    rw [List.map_map]
    apply List.map_congr_left
    intro ⟨i, j, k⟩ _
    rfl
  have h := ls_pl x hb (toL x).length 0 #[] 0 (by omega) (by omega) (by omega)
  rw [e, List.map_map, ls_eq, ← toL_length x]
  rw [if_pos (Nat.le_refl _)] at h
  simp only [List.drop_zero, Nat.sub_self, List.take_zero, glue_nil] at h
  exact h

theorem lines_pl (x : Str) (hb : Breaks (toL x)) : (Txt.lines x).map toL = pl (toL x) := by
  unfold Txt.lines
  split
  · rename_i h
    rw [← linesOf_pl x hb]
    unfold linesOf
    rw [beq_iff_eq] at h
    rw [h]
    simp [sub_whole]
  · exact linesOf_pl x hb

/-! encoded lines are the lines, encoded -/
def Signs (l : List Nat) : Prop := ∀ c ∈ l, c ∈ [97, 34, 98, 61, 32, 9, 10, 13, 48, 49, 50, 51, 52, 53, 54, 55, 56, 57, 68]
theorem Signs.breaks {l : List Nat} (h : Signs l) : Breaks l := fun c hc => by
  have : ∀ c ∈ [97, 34, 98, 61, 32, 9, 10, 13, 48, 49, 50, 51, 52, 53, 54, 55, 56, 57, 68], Unicode.isLineBreak c = (c == 13 || c == 10) := by decide +kernel
  exact this c (h c hc)
theorem Signs.tr {l : List Nat} (h : Signs l) : Signs (tr l) := fun c hc => by
  obtain ⟨d, hd, hm⟩ := List.mem_flatMap.mp hc
  unfold tok at hm
  split at hm
  · have h3 : ∀ c ∈ [61, 51, 68], c ∈ [97, 34, 98, 61, 32, 9, 10, 13, 48, 49, 50, 51, 52, 53, 54, 55, 56, 57, 68] := by decide
    exact h3 c hm
  · rw [List.mem_singleton] at hm
    exact hm ▸ h d hd

theorem tok_break {c : Nat} (h : c = 13 ∨ c = 10) : tok c = [c] := by unfold tok; rw [if_neg (by omega)]

/-- text without a break ahead of the rest -/
theorem pl_app : ∀ (p r : List Nat), (∀ c ∈ p, ¬ (c = 13 ∨ c = 10)) → pl (p ++ r) = glue p (pl r)
  | [], r, _ => by rw [List.nil_append, glue_nil]
  | c :: p, r, h => by
    have hc := h c (List.mem_cons_self ..)
    have ih := pl_app p r fun d hd => h d (List.mem_cons_of_mem _ hd)
    rw [List.cons_append, pl_other (fun hx => hc (.inl hx.1)), if_neg hc, ih]
    cases hr : pl r with
    | nil =>
      unfold glue
      by_cases hp : p = []
      · rw [if_pos hp]; simp [hp]
      · rw [if_neg hp]; simp
    | cons a t => rfl

theorem tr_head10 {r : List Nat} : (tr r).head? = some 10 ↔ r.head? = some 10 := by
  cases r with
  | nil => simp [tr]
  | cons c r =>
    rw [tr_cons]
    unfold tok
    by_cases h : c = 61
    · rw [if_pos h, h]; simp
    · rw [if_neg h]; simp

theorem pl_tr (l : List Nat) : pl (tr l) = (pl l).map tr := by
  refine two_cases (fun l => pl (tr l) = (pl l).map tr) rfl (fun r ih => ?_) (fun c r h ih => ?_) l
  · have e : tr (13 :: 10 :: r) = 13 :: 10 :: tr r := rfl
    rw [e, pl_two, pl_two, ih]; rfl
  · rw [pl_other h, tr_cons]
    by_cases hb : c = 13 ∨ c = 10
    · rw [if_pos hb, tok_break hb, List.singleton_append, pl_other (fun hx => h ⟨hx.1, tr_head10.mp hx.2⟩), if_pos hb, ih]; rfl
    · rw [if_neg hb, pl_app _ _ (fun d hd => by
        unfold tok at hd
        split at hd
        · simp at hd; omega
        · rw [List.mem_singleton] at hd; rw [hd]; exact hb), ih]
      cases hr : pl r with
      | nil =>
        have : ¬ tok c = [] := by unfold tok; split <;> simp
        simp only [List.map_nil, glue, if_neg this, List.map_cons, tr_one]
      | cons a t => simp only [List.map_cons, glue, tr_cons]

theorem endsOpen_tr {l : List Nat} : endsOpen (tr l) = endsOpen l := by
  cases hl : l.getLast? with
  | none =>
    have : l = [] := List.getLast?_eq_none_iff.mp hl
    subst this; rfl
  | some c =>
    unfold endsOpen
    rw [last_tr_blank hl, hl]
    dsimp only
    by_cases hc : c = 61
    · rw [if_pos hc, hc]; decide
    · rw [if_neg hc]

/-- what body_encode joins: the chunks of all lines, and one more where the text ends at a break -/
theorem chunks_lns {w : Nat} {eol l : List Nat} : ((pl (tr l)).flatMap (encR w eol)) ++ (if endsOpen (tr l) then [[]] else []) = (lns l).flatMap fun x => encR w eol (tr x) := by
  rw [lns_pl, List.flatMap_append, pl_tr, endsOpen_tr, List.flatMap_map]
  congr 1
  cases endsOpen l with
  | false => simp
  | true =>
    simp only [if_true, List.flatMap_cons, List.flatMap_nil, List.append_nil, tr_nil]
    rw [encR_nil]
end Mine
end TPlain4
section TPlain5
open PySem PySem.Builtin PySem.Builtin.Str PySem.StrLaws
namespace Mine

theorem clip_idx (a b len : Nat) : strSliceIndices (some (a : Int)) (some (b : Int)) 1 len = strSliceIndices (some ((min a len : Nat) : Int)) (some ((min b len : Nat) : Int)) 1 len := by
  have h1 : ¬ ((a : Int) < 0) := by omega
  have h2 : ¬ ((b : Int) < 0) := by omega
  have h3 : ¬ (((min a len : Nat) : Int) < 0) := by omega
  have h4 : ¬ (((min b len : Nat) : Int) < 0) := by omega
  have e1 : max (0 : Int) (min (a : Int) (len : Int)) = ((min a len : Nat) : Int) := by omega
  have e2 : max (0 : Int) (min (b : Int) (len : Int)) = ((min b len : Nat) : Int) := by omega
  have e3 : max (0 : Int) (min ((min a len : Nat) : Int) (len : Int)) = ((min a len : Nat) : Int) := by omega
  have e4 : max (0 : Int) (min ((min b len : Nat) : Int) (len : Int)) = ((min b len : Nat) : Int) := by omega
  simp only [strSliceIndices, h1, h2, h3, h4, if_false, e1, e2, e3, e4, show ((1 : Int) > 0) = True from by simp, if_true]

theorem sliceText_toL (x : Str) (a b : Nat) : toL (sliceText x (some (a : Int)) (some (b : Int))) = ((toL x).drop a).take (b - a) := by
  have hl := toL_length x
  have e : sliceText x (some (a : Int)) (some (b : Int)) = sliceText x (some ((min a x.length : Nat) : Int)) (some ((min b x.length : Nat) : Int)) := by
    unfold sliceText; rw [clip_idx]
  rw [e]
  by_cases h : min a x.length ≤ min b x.length
  · rw [sliceText_nat x h (Nat.min_le_right ..)]
    show ((toL x).drop _).take _ = _
    by_cases ha : x.length ≤ a
    · rw [List.drop_eq_nil_of_le (by omega), List.drop_eq_nil_of_le (by omega), List.take_nil, List.take_nil]
    · have e1 : min a x.length = a := by omega
      rw [e1]
      by_cases hb : b ≤ x.length
      · rw [show min b x.length = b from by omega]
      · rw [List.take_of_length_le (by simp; omega), List.take_of_length_le (by simp; omega)]
  · have h1 : ¬ (((min a x.length : Nat) : Int) < 0) := by omega
    have h2 : ¬ (((min b x.length : Nat) : Int) < 0) := by omega
    have e3 : max (0 : Int) (min ((min a x.length : Nat) : Int) (x.length : Int)) = ((min a x.length : Nat) : Int) := by omega
    have e4 : max (0 : Int) (min ((min b x.length : Nat) : Int) (x.length : Int)) = ((min b x.length : Nat) : Int) := by omega
    have ei : strSliceIndices (some ((min a x.length : Nat) : Int)) (some ((min b x.length : Nat) : Int)) 1 x.length = [] := by
      simp only [strSliceIndices, sliceRange, h1, h2, if_false, e3, e4, show ((1 : Int) > 0) = True from by simp, if_true]
      rw [if_neg (by omega)]
      simp
    unfold sliceText
    rw [ei]
    have hx : 0 < x.length := by omega
    rw [if_neg (by simp; omega)]
    rw [show b - a = 0 from by omega, List.take_zero]
    rfl

theorem slice_ij {x : Str} {i j : Int} (h0 : 0 ≤ i) (h1 : 0 ≤ j) : toL (Txt.slice x (some i) (some j)) = ((toL x).drop i.toNat).take (j.toNat - i.toNat) := by
  obtain ⟨a, rfl⟩ := Int.eq_ofNat_of_zero_le h0
  obtain ⟨b, rfl⟩ := Int.eq_ofNat_of_zero_le h1
  exact sliceText_toL x a b
theorem slice_to {x : Str} {j : Int} (h1 : 0 ≤ j) : toL (Txt.slice x none (some j)) = (toL x).take j.toNat := by
  have e : Txt.slice x none (some j) = Txt.slice x (some 0) (some j) := by
    show sliceText x none (some j) = sliceText x (some 0) (some j)
    unfold sliceText; rw [sliceIdx_none_lo]
  rw [e, slice_ij (Int.le_refl 0) h1]
  simp
theorem slice_from {x : Str} {i : Int} (h0 : 0 ≤ i) : toL (Txt.slice x (some i) none) = (toL x).drop i.toNat := by
  have e : Txt.slice x (some i) none = Txt.slice x (some i) (some (x.length : Int)) := by
    show sliceText x (some i) none = sliceText x (some i) (some (x.length : Int))
    unfold sliceText; rw [sliceIdx_none_hi]
  rw [e, slice_ij h0 (by omega)]
  refine List.take_of_length_le ?_
  rw [List.length_drop, toL_length]; omega
theorem slice_to_last {x : Str} {i : Int} (h0 : 0 ≤ i) (hx : 1 ≤ x.length) : toL (Txt.slice x (some i) (some (-1))) = ((toL x).drop i.toNat).take (x.length - 1 - i.toNat) := by
  have e : Txt.slice x (some i) (some (-1)) = Txt.slice x (some i) (some (-1 + (x.length : Int))) := sliceText_neg_hi x (some i) (by decide) (by omega)
  rw [e, slice_ij h0 (by omega)]
  congr 1; omega
theorem slice_last {x : Str} (hx : 1 ≤ x.length) : toL (Txt.slice x (some (-1)) none) = (toL x).drop (x.length - 1) := by
  have e : Txt.slice x (some (-1)) none = Txt.slice x (some (-1 + (x.length : Int))) none := sliceText_neg_lo x none (by decide) (by omega)
  rw [e, slice_from (by omega)]
  congr 1; omega
theorem slice_last_nil {x : Str} (hx : x.length = 0) : toL (Txt.slice x (some (-1)) none) = [] := by
  have : x = ⟨#[]⟩ := toL_inj (List.length_eq_zero_iff.mp (by rw [toL_length]; exact hx))
  subst this
  decide +kernel
theorem item_toL {x : Str} {i : Int} (h0 : 0 ≤ i) {c : Nat} (hc : (toL x)[i.toNat]? = some c) : toL (Txt.item x i) = [c] := by
  obtain ⟨a, rfl⟩ := Int.eq_ofNat_of_zero_le h0
  have hlt : a < x.length := by
    obtain ⟨h, _⟩ := List.getElem?_eq_some_iff.mp hc
    rw [toL_length] at h; exact h
  have e : x.cps[a]? = some c := by rw [← hc]; simp [toL]
  unfold Txt.item Txt.charAt seqIndex?
  have h1 : ¬ ((a : Int) < 0) := by omega
  simp only [h1, if_false]
  rw [if_pos (by simp; omega)]
  simp [e, toL]
theorem item_last {x : Str} {c : Nat} (hc : (toL x).getLast? = some c) : toL (Txt.item x (-1)) = [c] := by
  have hl := toL_length x
  have hx : 1 ≤ x.length := by
    cases h : toL x with
    | nil => rw [h] at hc; cases hc
    | cons a r => rw [h] at hl; simp at hl; omega
  have e : x.cps[x.length - 1]? = some c := by
    rw [List.getLast?_eq_getElem?, hl] at hc
    rw [← hc]; simp [toL]
  unfold Txt.item Txt.charAt seqIndex?
  simp only [show ((-1 : Int) < 0) = True from by simp, if_true]
  have h2 : ((-1 : Int) + (x.length : Int)).toNat = x.length - 1 := by omega
  rw [if_pos (by simp; omega), h2]
  simp [e, toL]
theorem item_eq_iff {x : Str} {i : Int} (h0 : 0 ≤ i) (h1 : i.toNat < (toL x).length) (c : Nat) (y : Str) (hy : toL y = [c]) : (Txt.item x i == y) = decide ((toL x)[i.toNat]? = some c) := by
  have e := item_toL h0 (List.getElem?_eq_getElem h1)
  by_cases h : (toL x)[i.toNat]? = some c
  · rw [decide_eq_true h, beq_iff_eq]
    refine toL_inj ?_
    rw [e, hy]
    rw [List.getElem?_eq_getElem h1] at h
    exact congrArg (fun z => [z]) (Option.some.inj h)
  · rw [decide_eq_false h, beq_eq_false_iff_ne]
    intro hxy
    refine h ?_
    rw [hxy, hy] at e
    rw [List.getElem?_eq_getElem h1]
    exact congrArg some (List.cons.inj e).1.symm
theorem beq_toL (x y : Str) : (x == y) = decide (toL x = toL y) := by
  by_cases h : toL x = toL y
  · rw [decide_eq_true h, toL_inj h]; exact beq_self_eq_true y
  · rw [decide_eq_false h, beq_eq_false_iff_ne]; exact fun e => h (by rw [e])
end Mine
end TPlain5
section TTok
open PySem
namespace Mine
/-! tokens never fall -/
theorem runs_toks {M : Model} {Γ : Ctx} {p : Pos} {t : Sem Fin} {fs : List Frame} {s : Shared} {e : End} {s' : Shared} (h : Runs M Γ p t fs s e s') : s.toks ≤ s'.toks := by
  induction h <;> (try simp only [Shared.setGen] at *) <;> omega
theorem wakes_toks {M : Model} {Γ : Ctx} {p : Pos} {g : Nat} {r : Resume} {s : Shared} {res : GenResult} {s' : Shared} (h : Wakes M Γ p g r s res s') : s.toks ≤ s'.toks := by
  unfold Wakes at h
  split at h
  · exact h.elim
  · split at h
    · obtain ⟨e₁, s₁, h1, _, _, rfl⟩ := h
      have := runs_toks h1
      exact this
    · rw [h.2]; exact Nat.le_refl _
    · rw [h.2]; exact Nat.le_refl _
  · obtain ⟨e₁, s₁, h1, _, _, rfl⟩ := h
    have := runs_toks h1
    exact this
  · rw [h.2]; exact Nat.le_refl _
  · rw [h.2]; exact Nat.le_refl _
theorem wp_toks {α : Type} {M : Model} {Γ : Ctx} {k : Nat} (t : Sem α) : ∀ {Q : α → Pos → Shared → Prop} {E : Value → Pos → Shared → Prop} {p : Pos} {s : Shared}, k ≤ s.toks → Sem.wp M Γ t Q E p s → Sem.wp M Γ t (fun a p' s' => Q a p' s' ∧ k ≤ s'.toks) (fun e p' s' => E e p' s' ∧ k ≤ s'.toks) p s := by
  induction t with
  | pure a => intro Q E p s hk h; exact ⟨h, hk⟩
  | raise e => intro Q E p s hk h; exact ⟨h, hk⟩
  | unsupported w => intro Q E p s hk h; exact h
  | finish e => intro Q E p s hk h; exact h
  | rule t k ih => intro Q E p s hk h; exact ih () hk h
  | «at» q k ih => intro Q E p s hk h; exact ih () hk h
  | load a part k ih => intro Q E p s hk h; obtain ⟨o, ho, h⟩ := h; exact ⟨o, ho, ih o hk h⟩
  | update a part f k ih => intro Q E p s hk h; exact ⟨h.1, ih () hk h.2⟩
  | alloc o k ih => intro Q E p s hk h; exact ih _ (s := { s with heap := s.heap.push o }) hk h
  | loadIfAlive a k ih => intro Q E p s hk h; exact ih _ hk h
  | point l k ih => intro Q E p s hk h; exact ih () hk h
  | register a k ih => intro Q E p s hk h; exact h
  | fresh k ih => intro Q E p s hk h; exact ih _ (s := { s with toks := s.toks + 1 }) (Nat.le_succ_of_le hk) h
  | ask k ih => intro Q E p s hk h; exact ih _ hk h
  | choose src n k ih => intro Q E p s hk h; exact ⟨h.1, ih _ (s := { s with drawn := s.drawn.bump src }) hk h.2⟩
  | os q l k ih => intro Q E p s hk h; exact ih _ (s := { s with os := (Os.step s.os q).1 }) hk h
  | call c hd g l k ih => intro Q E p s hk h; obtain ⟨r, s', hr, h⟩ := h; exact ⟨r, s', hr, ih r (Nat.le_trans hk (runs_toks hr)) h⟩
  | handled own k ih => intro Q E p s hk h; exact ih _ hk h
  | newGen c k ih => intro Q E p s hk h; exact ih _ (s := { s with gens := s.gens.push (.fresh c) }) hk h
  | genState g k ih => intro Q E p s hk h; obtain ⟨st, hs, h⟩ := h; exact ⟨st, hs, ih _ hk h⟩
  | resume g r l k ih => intro Q E p s hk h; obtain ⟨res, s', hw, h⟩ := h; exact ⟨res, s', hw, ih _ (Nat.le_trans hk (wakes_toks hw)) h⟩
  | yield v g l k ih => intro Q E p s hk h; exact h
  | stack k ih => intro Q E p s hk h; exact ih _ hk h
  | fork c k ih => intro Q E p s hk h; exact h
  | thread k ih => intro Q E p s hk h; exact ih _ hk h
  | await a f d l k ih => intro Q E p s hk h; exact h
theorem wpAny_toks {α : Type} {M : Model} {A : Around} {t : Sem α} {Q : α → Shared → Prop} {E : Value → Shared → Prop} {s : Shared} (h : wpAny M A t Q E s) : wpAny M A t (fun a s' => Q a s' ∧ s.toks ≤ s'.toks) (fun e s' => E e s' ∧ s.toks ≤ s'.toks) s :=
  fun Γ p hΓ => wp_toks t (Nat.le_refl _) (h Γ p hΓ)
/-- what comes behind may use that tokens have not fallen -/
theorem wpAny_later {α : Type} {M : Model} {A : Around} {t : Sem α} {Q : α → Shared → Prop} {E : Value → Shared → Prop} {s : Shared} (h : wpAny M A t (fun a s' => s.toks ≤ s'.toks → Q a s') E s) : wpAny M A t Q E s :=
  wpAny_mono (wpAny_toks h) (fun _ _ x => x.1 x.2) fun _ _ x => x.1
end Mine
namespace Mine
theorem gen_toks1 {α : Type} {M : Model} {A : Around} {t : Sem α} {Q : α → Shared → Prop} {E : Value → Shared → Prop} {hp : Heap} {g : Array GenState} {d : Drawn} {n : Nat} {os : OsState} (h : ∀ tk, 1 ≤ tk → wpAny M A t Q E ⟨hp, g, d, tk, os⟩) : wpAny M A t Q E ⟨hp, g, d, n + 1, os⟩ := h _ (Nat.le_add_left 1 n)
end Mine
namespace Mine
theorem wpAny_later1 {α : Type} {M : Model} {A : Around} {t : Sem α} {Q : α → Shared → Prop} {E : Value → Shared → Prop} {s : Shared} (h0 : 1 ≤ s.toks) (h : wpAny M A t (fun a s' => 1 ≤ s'.toks → Q a s') E s) : wpAny M A t Q E s :=
  wpAny_mono (wpAny_toks h) (fun _ _ x => x.1 (Nat.le_trans h0 x.2)) fun _ _ x => x.1
end Mine
end TTok
section TTr
open PySem PySem.Calls PyProof.Rows PySem.Builtin PySem.Builtin.Str
set_option maxRecDepth 100000
namespace Mine
/-- what the table gives for a sign -/
def TabTr (h : Heap) (l : Addr) (vs : List Value) (x : Str) : Prop := h.IsList l vs.toArray ∧ ∀ c ∈ toL x, ∃ t, vs[c]? = some (Value.str (ofL (tok c)) t)

theorem foldl_cps : ∀ (l : List Str) (acc : Array Nat), (l.foldl (fun acc p => acc ++ p.cps) acc).toList = acc.toList ++ (l.map toL).flatten
  | [], acc => by simp
  | p :: r, acc => by
    rw [List.foldl_cons, foldl_cps r, Array.toList_append]
    simp [toL]
abbrev TrSt := List Str × Nat × Bool × List (Nat × Option Nat) × Bool
def TrInv (x : Str) (s : Shared) (rest : List Nat) (st : TrSt) (s' : Shared) : Prop :=
  ∃ done k, toL x = done ++ rest ∧ (st.1.reverse.map toL).flatten = tr done ∧ st.2.1 = (tr done).length ∧ st.2.2.2.2 = false ∧ (∀ q ∈ st.2.2.2.1, ∃ d, q.2 = some d ∧ tok q.1 = [d]) ∧ s' = { s with toks := k }
theorem tr_le (l : List Nat) : (tr l).length ≤ 3 * l.length := by
  induction l with
  | nil => simp [tr]
  | cons c l ih =>
    rw [tr_cons, List.length_append, List.length_cons]
    have := tok_len_le c
    omega
section
variable {prog : Program} {w : World} {A : Around} {E : Value → Shared → Prop} {s : Shared} {x : Str} {t : Tok} {l : Addr} {vs : List Value}
theorem tableLookup_text {c : Nat} {y : Str} {ty : Tok} {Q : Mapped → Shared → Prop} (hl : s.heap.IsList l vs.toArray) (hc : (c : Int) < 2 ^ 63) (hx : vs[c]? = some (Value.str y ty)) (h : ∀ k, Q (.text y) { s with toks := k }) :
    wpAny (model prog w) A (tableLookup (.ref l) c) Q E s := by
  unfold tableLookup
  refine wpAny_bind (wpAny_attempt (wpAny_bind (wpAny_mkInt (wpAny_getItem_list (items := vs.toArray) (x := Value.str y ty) hl (by omega) hc (by simpa using hx) ?_))))
  exact wpAny_bind (wpAny_pure (wpAny_bind (wpAny_pure (wpAny_pure (h _)))))
theorem translate_tree {P : Fin → Shared → Prop}
    (hT : TabTr s.heap l vs x) (hx : x.length ≤ 100) (hlt : ∀ c ∈ toL x, c < 128) (h : ∀ t' k, P (.done (.ret (.str (ofL (tr (toL x))) t'))) { s with toks := k }) :
    wpAny (model prog w) A («str.translate» ⟨[.str x t, .ref l], []⟩) P E s := by
  have hlen := toL_length x
  unfold «str.translate»
  refine wpAny_bind (wpAny_bind (wpAny_pure (wpAny_bind (wpAny_pure (wpAny_pure ?_)))))
  dsimp only
  by_cases h0 : (x.length == 0) = true
  · rw [if_pos h0]
    refine wpAny_bind (wpAny_rule (wpAny_bind (wpAny_pure (wpAny_pure ?_))))
    have e0 : toL x = [] := List.length_eq_zero_iff.mp (by rw [hlen]; simpa using h0)
    have := h t s.toks
    rw [e0] at this
    have ex : x = ofL (tr []) := toL_inj (by rw [e0]; rfl)
    rw [ex]
    exact this
  · rw [if_neg h0]
    refine wpAny_bind (Q := _) ?_
    rw [← Array.forIn_toList]
    refine wpAny_forIn_list _ (TrInv x s) _ ?_ ?_ _ _ ⟨[], s.toks, rfl, rfl, rfl, rfl, (fun q hq => nomatch hq), rfl⟩
    · rintro c rest ⟨pieces, total, fast, known, afterDrop⟩ s' ⟨done, k, e1, e2, e3, e4, e5, rfl⟩
      dsimp only at e2 e3 e4 e5
      subst e4
      have hmem : c ∈ toL x := by rw [e1]; simp
      have hl2 := congrArg List.length e1
      rw [List.length_append, List.length_cons] at hl2
      have hlong : ¬ tooLong total = true := by
        have := tr_le done
        unfold tooLong sizeLine
        simp only [decide_eq_true_eq]
        omega
      obtain ⟨ty, hv⟩ := hT.2 c hmem
      have hc := hlt c hmem
      dsimp only
      rw [if_neg hlong]
      have look : ∀ {Q : Mapped → Shared → Prop} {k : Nat}, (∀ k, Q (.text (ofL (tok c))) { s with toks := k }) → wpAny (model prog w) A (tableLookup (.ref l) c) Q E { s with toks := k } := fun hq =>
        tableLookup_text (s := { s with toks := _ }) (vs := vs) hT.1 (by omega) hv hq
      have ed : toL x = (done ++ [c]) ++ rest := by rw [e1]; simp
      have et : tr (done ++ [c]) = tr done ++ tok c := by rw [tr_append, tr_one]
      have one : ∀ {d : Nat} {fast : Bool} {known : List (Nat × Option Nat)} {k : Nat}, tok c = [d] → (∀ q ∈ known, ∃ d, q.2 = some d ∧ tok q.1 = [d]) → TrInv x s rest ({ cps := #[d] } :: pieces, total + 1, fast, known, false) { s with toks := k } := fun hd hk =>
        ⟨done ++ [c], _, ed, by
          show (({ cps := #[_] } :: pieces).reverse.map toL).flatten = _
          rw [List.reverse_cons, List.map_append, List.flatten_append, e2, et, hd]; rfl, by show total + 1 = _; rw [et, hd, e3, List.length_append]; rfl, rfl, hk, rfl⟩
      have slow : ∀ {fast : Bool} {known : List (Nat × Option Nat)} {k : Nat}, (∀ q ∈ known, ∃ d, q.2 = some d ∧ tok q.1 = [d]) → TrInv x s rest (ofL (tok c) :: pieces, total + (ofL (tok c)).length, fast, known, false) { s with toks := k } := fun hk =>
        ⟨done ++ [c], _, ed, by
          show ((ofL (tok c) :: pieces).reverse.map toL).flatten = _
          rw [List.reverse_cons, List.map_append, List.flatten_append, e2, et]; simp [toL_ofL], by show total + _ = _; rw [et, e3, List.length_append, ofL_length], rfl, hk, rfl⟩
      by_cases hf : fast = true
      · rw [if_pos hf]
        cases hk : List.lookup c known with
        | some a =>
          dsimp only
          refine wpAny_bind (wpAny_pure ?_)
          have hm : ∃ d, a = some d ∧ tok c = [d] := by
            have : ∀ (kn : List (Nat × Option Nat)), (∀ q ∈ kn, ∃ d, q.2 = some d ∧ tok q.1 = [d]) → List.lookup c kn = some a → ∃ d, a = some d ∧ tok c = [d] := by
              intro kn
              induction kn with
              | nil => intro _ h; cases h
              | cons q r ih =>
                intro h1 h2
                rw [List.lookup_cons] at h2
                split at h2
                · rename_i hb
                  have := h1 q (List.mem_cons_self ..)
                  rw [← Option.some.inj h2, beq_iff_eq.mp hb]; exact this
                · exact ih (fun q hq => h1 q (List.mem_cons_of_mem _ hq)) h2
            exact this known e5 hk
          obtain ⟨d, rfl, hd⟩ := hm
          exact wpAny_pure (one hd e5)
        | none =>
          dsimp only
          refine wpAny_bind (look fun k' => ?_)
          dsimp only
          by_cases h61 : c = 61
          · have htok : tok c = [61, 51, 68] := by unfold tok; rw [if_pos h61]
            have hcond : ¬ ((ofL (tok c)).length == 1 && (ofL (tok c)).cps.all fun x => decide (x < 128)) = true := by
              rw [htok]; decide +kernel
            rw [if_neg hcond]
            dsimp only
            refine wpAny_bind (wpAny_pure ?_)
            refine wpAny_bind (wpAny_rule ?_)
            rw [if_neg Bool.false_ne_true]
            exact wpAny_bind (look fun k'' => wpAny_pure (slow e5))
          · have htok : tok c = [c] := by unfold tok; rw [if_neg h61]
            have hcond : ((ofL (tok c)).length == 1 && (ofL (tok c)).cps.all fun x => decide (x < 128)) = true := by
              rw [htok]
              simp [ofL, Str.length, hc]
            rw [if_pos hcond]
            have hat : (ofL (tok c)).cps[0]? = some c := by rw [htok]; rfl
            rw [hat]
            dsimp only
            refine wpAny_bind (wpAny_pure ?_)
            exact wpAny_pure (one htok fun q hq => (List.mem_cons.mp hq).elim (fun e => by rw [e]; exact ⟨c, rfl, htok⟩) (e5 q))
      · rw [if_neg hf]
        rw [if_neg Bool.false_ne_true]
        exact wpAny_bind (look fun k'' => wpAny_pure (slow e5))
    · rintro ⟨pieces, total, fast, known, afterDrop⟩ s' ⟨done, k, e1, e2, e3, _, _, rfl⟩
      dsimp only at e2 e3 ⊢
      rw [List.append_nil] at e1
      have hlong : ¬ tooLong total = true := by
        have := tr_le done
        rw [← e1, hlen] at this
        unfold tooLong sizeLine
        simp only [decide_eq_true_eq]
        rw [e3, ← e1]
        omega
      rw [if_neg hlong]
      have ef : ({ cps := List.foldl (fun acc p => acc ++ p.cps) #[] pieces.reverse } : Str) = ofL (tr (toL x)) := toL_inj (by
        show (List.foldl (fun acc (p : Str) => acc ++ p.cps) (#[] : Array Nat) pieces.reverse).toList = _
        rw [foldl_cps, e2, e1]; rfl)
      rw [ef]
      have hsz : (ofL (tr (toL x))).length ≤ sizeLine := by
        have := tr_le (toL x)
        rw [ofL_length, sizeLine_eq]; omega
      exact wpAny_bind (wpAny_mkStr (wpAny_pure (h _ _)) hsz)
theorem call_translate {Q : Value → Shared → Prop} (hT : TabTr s.heap l vs x) (hx : x.length ≤ 100) (hlt : ∀ c ∈ toL x, c < 128) (h : ∀ t' k, Q (.str (ofL (tr (toL x))) t') { s with toks := k }) :
    wpAny (model prog w) A (call (.builtin "str.translate") [.str x t, .ref l]) Q E s := by
  refine wpAny_call_entry PySem.F.slot_str_translate (typeIs_str _ _ _) PySem.F.entry_str_translate ?_ (PySem.F.args_str_translate_2 _ _)
  exact translate_tree hT hx hlt fun t' k => ⟨_, rfl, h t' k⟩
theorem get_translate {M : Model} {pl : Sem Bool} {Q : Value × List Value → Shared → Prop} (h : Q (.builtin "str.translate", [.str x t]) s) : wpAny M A (getMethod (.str x t) "translate" pl) Q E s := by
  with_reducible exact GM.of (.str x t) (typeIs_str _ _ _) PySem.F.slot_str_translate PySem.F.type_str_translate GM.noRef h
end
end Mine
end TTr
section TKit
open PySem PySem.W PySem.Calls PyProof.Rows
namespace Mine
def KFill (_K : Frag) (_l : OpenLaw) : Prop := True

/-- names that a frame is known to hold -/
def KnownAt (m₀ : Str → Option Value) : List (Str × Value) → Prop
  | [] => True
  | p :: r => m₀ p.1 = some p.2 ∧ KnownAt m₀ r
theorem KnownAt.all {m₀ : Str → Option Value} : ∀ {ps : List (Str × Value)}, KnownAt m₀ ps → ∀ p ∈ ps, m₀ p.1 = some p.2
  | _ :: _, h, _, .head _ => h.1
  | _ :: _, h, _, .tail _ hp => h.2.all _ hp
theorem fr_known {h₀ h : Heap} {L : Addr} {m₀ : Str → Option Value} {ps : List (Str × Value)} (F : Fr h₀ L h m₀) (hk : KnownAt m₀ ps) : Fr h₀ L h (kstB m₀ ps) := by
  have e : kstB m₀ ps = m₀ := by
    funext y
    exact kstB_eq hk.all fun _ => rfl
  rw [e]; exact F

section
variable {prog : Program} {w : World} {A : Around} {E : Value → Shared → Prop} {s : Shared} {h₀ : Heap} {L a b D : Addr} {m : Str → Option Value} {news news' : List (Addr × Obj)} {us vs : List Value} {ws zs : List Str} {n n1 n2 : Nat} {Q : Value → Shared → Prop}

theorem strs_append {us vs : List Value} {ws zs : List Str} (h1 : StrsAre us ws) (h2 : StrsAre vs zs) : StrsAre (us ++ vs) (ws ++ zs) := h1.append' h2
theorem strs_len {us : List Value} {ws : List Str} (h1 : StrsAre us ws) : us.length = ws.length := h1.length

theorem lst_at {h : Heap} {o : Obj} (N : News h₀ L h news) (ha : (a, o) ∈ news) : h.get? a = some o := (N _ ha).1
theorem addS (F : Fr h₀ L s.heap m) (N : News h₀ L s.heap news) (ha : (a, PySem.W.listOf us.toArray n1) ∈ news) (hb : (b, PySem.W.listOf vs.toArray n2) ∈ news) (hi : StrsAre us ws) (hj : StrsAre vs zs)
    (h : ∀ D rs h', Fr h₀ L h' m → News h₀ L h' ((D, PySem.W.listOf (List.toArray rs) 0) :: news) → (∀ p ∈ news, p.1 < D) → StrsAre rs (ws ++ zs) → Q (.ref D) { s with heap := h' })
    (hz : ws.length + zs.length ≤ 100000) : wpAny (model prog w) A (binaryOp .Add (.ref a) (.ref b)) Q E s := by
  have la : s.heap.IsList a us.toArray := ⟨_, (N _ ha).1, rfl, n1, rfl⟩
  have lb : s.heap.IsList b vs.toArray := ⟨_, (N _ hb).1, rfl, n2, rfl⟩
  exact add_lists (hsz := by rw [sizeLine_eq, strs_len hi, strs_len hj]; omega) F N la lb fun h' F' N' => h _ _ h' F' N' (fun p hp => Heap.lt_size (N p hp).1) (strs_append hi hj)

theorem appS {x : Str} {t : Tok} (F : Fr h₀ L s.heap m) (N : News h₀ L s.heap news) (U : Upd D (PySem.W.listOf us.toArray n) (PySem.W.listOf (us ++ [Value.str x t]).toArray (n + 1)) news news') (hi : StrsAre us ws)
    (h : ∀ h', Fr h₀ L h' m → News h₀ L h' news' → StrsAre (us ++ [Value.str x t]) (ws ++ [x]) → Q .none { s with heap := h' }) (hz : ws.length ≤ 100000) :
    wpAny (model prog w) A (call (.builtin "list.append") [.ref D, .str x t]) Q E s := by
  have e : us.toArray.push (Value.str x t) = (us ++ [Value.str x t]).toArray := by simp
  refine append_K (n := n) F N (news' := news') (its := us.toArray) ?_ (fun h' F' N' => h h' F' N' (strs_append hi (.cons _ _ .nil))) (hsz := by rw [List.size_toArray, sizeLine_eq, strs_len hi]; omega)
  rw [e]; exact U

theorem strs_drop {us : List Value} {ws : List Str} (h : StrsAre us ws) : StrsAre us.dropLast ws.dropLast := by
  induction h with
  | nil => exact .nil
  | cons x t r ih =>
    cases r with
    | nil => exact .nil
    | cons x' t' r' => exact .cons x t ih
theorem strs_last {us : List Value} {ws : List Str} (h : StrsAre us ws) (hne : ws ≠ []) : ∃ x t, us = us.dropLast ++ [.str x t] := by
  have hu : us ≠ [] := fun e => by subst e; cases h; exact hne rfl
  have hl := List.dropLast_concat_getLast hu
  have hm : ∀ v ∈ us, ∃ x t, v = Value.str x t := by
    clear hl hu hne
    induction h with
    | nil => intro v hv; cases hv
    | cons x t r ih =>
      intro v hv
      rcases List.mem_cons.mp hv with rfl | hv
      · exact ⟨x, t, rfl⟩
      · exact ih v hv
  obtain ⟨x, t, e⟩ := hm _ (List.getLast_mem hu)
  rw [e] at hl
  exact ⟨x, t, hl.symm⟩
theorem popS (F : Fr h₀ L s.heap m) (N : News h₀ L s.heap news) (U : Upd D (PySem.W.listOf us.toArray n) (PySem.W.listOf us.dropLast.toArray (n + 1)) news news') (hi : StrsAre us ws) (hne : ws ≠ [])
    (h : ∀ h' x t, Fr h₀ L h' m → News h₀ L h' news' → StrsAre us.dropLast ws.dropLast → Q (.str x t) { s with heap := h' }) (hz : ws.length ≤ 100000) :
    wpAny (model prog w) A (call (.builtin "list.pop") [.ref D]) Q E s := by
  obtain ⟨x, t, e⟩ := strs_last hi hne
  refine kl_pop F N (p := us.dropLast) (y := Value.str x t) ?_ U (by show us.length ≤ sizeLine; rw [sizeLine_eq, strs_len hi]; omega) fun h' F' N' => h h' x t F' N' (strs_drop hi)
  have e2 := kpa_last (Value.str x t) us.dropLast
  rw [← e] at e2
  simpa using e2

theorem iaddS {U : Nat → List (Addr × Obj)} (F : Fr h₀ L s.heap m) (N : News h₀ L s.heap news) (hU : ∀ c, Upd a (PySem.W.listOf us.toArray n1) (PySem.W.listOf (us ++ vs).toArray c) news (U c)) (hb : (b, PySem.W.listOf vs.toArray n2) ∈ news) (hi : StrsAre us ws) (hj : StrsAre vs zs)
    (h : ∀ c h', Fr h₀ L h' m → News h₀ L h' (U c) → StrsAre (us ++ vs) (ws ++ zs) → Q (.ref a) { s with heap := h' })
    (hz : ws.length + zs.length ≤ 100000) : wpAny (model prog w) A (inplaceOp .Add (.ref a) (.ref b)) Q E s := by
  obtain ⟨pre, post, e1, _, h1, h2⟩ := (hU 0).split
  have hm := N (a, PySem.W.listOf us.toArray n1) (by rw [e1]; exact List.mem_append.mpr (.inr (.head _)))
  have hb' := (N _ hb).1
  have hsz : us.toArray.size + vs.toArray.size ≤ sizeLine := by rw [List.size_toArray, List.size_toArray, sizeLine_eq, strs_len hi, strs_len hj]; omega
  have ha : s.TypeIs (.ref a) "list" := ⟨_, hm.1, rfl⟩
  have hbt : s.TypeIs (.ref b) "list" := ⟨_, hb', rfl⟩
  have hfi : fillsInplaceSlot (.type "list") "add" (Operator.Add == .Add) = pure false := by
    unfold fillsInplaceSlot
    show (typeLookup (.type "list") (dunderI "add") >>= fun fi => pure (fi.isSome && !isSeqSlot fi)) = pure false
    rw [PySem.F.slot_list_iadd.lookup]
    have : isSeqSlot (some (.builtin "list.__iadd__")) = true := by decide +kernel
    rw [pure_bind, this]; rfl
  have hseq : seqSlot? (.type "list") (dunderI "add") = pure (some (.builtin "list.__iadd__")) := PySem.seqSlot_of PySem.F.slot_list_iadd.lookup (by decide +kernel)
  unfold inplaceOp
  refine wpAny_holding ?_
  refine wpAny_bind (wpAny_typeOf ha (wpAny_bind (wpAny_of_eq hfi ?_)))
  show wpAny (model prog w) A (if false = true then _ else _) Q E s
  rw [if_neg Bool.false_ne_true]
  refine wpAny_bind (wpAny_binaryOp1_none (nm := "add") ha hbt noFill_list_add ?_)
  refine wpAny_bind (wpAny_of_eq hseq ?_)
  refine wpAny_bind (wpAny_rule ?_)
  refine call_meets PySem.F.slot_list_iadd ⟨_, hm.1, rfl⟩ PySem.F.entry_list_iadd (PySem.F.args_list_iadd_2 _ _) (AutoSeq1.list___iadd___list_list_0 a us.toArray n1 b vs.toArray n2 (extend_door hsz) (Nat.le_trans (Nat.le_add_right _ _) hsz) (Nat.le_succ_of_le hsz)) ⟨hm.1, hb', ?_⟩
  have e : us.toArray ++ vs.toArray = (us ++ vs).toArray := by simp
  obtain ⟨c, ho'⟩ : ∃ c, (s.heap.update a (Obj.mapSeq fun x => x ++ vs.toArray)).get? a = some (PySem.W.listOf (us ++ vs).toArray c) := by
    refine ⟨if (us.toArray ++ vs.toArray).size == us.toArray.size then n1 else n1 + 1, ?_⟩
    rw [Heap.get?_update_self _ hm.1 (by rw [mapSeq_app]; rfl), mapSeq_app, e]
  obtain ⟨pre', post', e3, e4, h3, h4⟩ := (hU c).split
  refine h c _ (F.change (Heap.SameBut.update ..) hm.2.1 hm.2.2) ?_ (strs_append hi hj)
  rw [e4]
  exact news_set (e3 ▸ N) h3 h4 (Heap.SameBut.update ..) ho'
end
end Mine
end TKit
section TKit2
open PySem PySem.W PySem.Calls PyProof.Rows PySem.StrLaws PySem.Builtin PySem.Builtin.Str
namespace Mine
theorem codes_nat (x : Str) : (KStt.codes x).map Int.toNat = toL x := by
  unfold KStt.codes toL
  rw [List.map_map]
  exact (List.map_congr_left (g := _root_.id) fun c _ => Int.toNat_natCast c).trans (List.map_id _)

theorem count_chain (x : Str) (c : Nat) : ∀ (cuts : List Nat) (a f : Nat), ChainG x ⟨#[c]⟩ x.length a cuts f → (∀ k, f ≤ k → ¬ At x ⟨#[c]⟩ x.length k) → cuts.length = ((toL x).drop a).count c := by
  have free : ∀ (a b : Nat), (∀ k, a ≤ k → k < b → ¬ At x ⟨#[c]⟩ x.length k) → c ∉ ((toL x).drop a).take (b - a) := by
    intro a b hn hm
    obtain ⟨j, hj⟩ := List.getElem?_of_mem hm
    have hlt : j < b - a := by
      have h1 := (List.getElem?_eq_some_iff.mp hj).1
      rw [List.length_take] at h1; omega
    rw [List.getElem?_take_of_lt hlt, List.getElem?_drop] at hj
    exact hn (a + j) (by omega) (by omega) ((subAt_one x c (a + j)).mpr hj)
  intro cuts
  induction cuts with
  | nil =>
    intro a f h hn
    have e : f = a := h
    subst e
    have h1 := free f (toL x).length fun k hk _ => hn k hk
    rw [List.take_of_length_le (by simp)] at h1
    rw [List.count_eq_zero_of_not_mem h1]; rfl
  | cons d r ih =>
    intro a f h hn
    obtain ⟨h1, h2, h3, h4⟩ := h
    have ih' := ih (d + 1) f h4 hn
    have hd := (subAt_one x c d).mp h2
    have hd' : (toL x)[d]? = some c := hd
    obtain ⟨hlt, hv⟩ := List.getElem?_eq_some_iff.mp hd'
    have e1 : (toL x).drop a = ((toL x).drop a).take (d - a) ++ c :: (toL x).drop (d + 1) := by
      have e2 : ((toL x).drop a).drop (d - a) = c :: (toL x).drop (d + 1) := by
        rw [List.drop_drop, show a + (d - a) = d from by omega, List.drop_eq_getElem_cons hlt, hv]
      rw [← e2, List.take_append_drop]
    rw [e1, List.count_append, List.count_eq_zero_of_not_mem (free a d h3), List.count_cons_self, List.length_cons, ih']
    omega
theorem count_one (x : Str) (c : Nat) : Txt.count x ⟨#[c]⟩ = ((toL x).count c : Int) := by
  obtain ⟨f, hG, hn⟩ := occ_tight x ⟨#[c]⟩ (Nat.le_refl 1)
  unfold Txt.count
  rw [count_chain x c _ 0 f hG hn, List.drop_zero]
theorem count_eq (x : Str) : Txt.count x (Str.ofString "=") = ((toL x).count 61 : Int) := by
  have : Str.ofString "=" = ⟨#[61]⟩ := by decide +kernel
  rw [this, count_one]

theorem fold_grows {w : Int} {e : List (List Nat)} : ∀ (r : List Nat) (st : List (List Nat) × Int × Int), st.1.length + r.length ≤ (r.foldl (wStep w e) st).1.length
  | [], _ => by simp
  | c :: r, st => by
    rw [List.foldl_cons]
    have ih := fold_grows (w := w) (e := e) r (wStep w e st c)
    have h1 : st.1.length + 1 ≤ (wStep w e st c).1.length := by
      unfold wStep
      split <;> simp
    rw [List.length_cons]; omega

def WI (W : Int) (e : List (List Nat)) (left0 : Int) (pre : List Int) (items : List Str) (used left : Int) : Prop :=
  (pre.map Int.toNat).foldl (wStep W e) ([], 0, left0) = (items.map toL, used, left)
theorem t_eq : toL (Str.ofString "=") = [61] := by decide +kernel
theorem t_eq3D : toL (Str.ofString "=3D") = [61, 51, 68] := by decide +kernel
theorem t_20 : toL (Str.ofString "=20") = [61, 50, 48] := by decide +kernel
theorem t_09 : toL (Str.ofString "=09") = [61, 48, 57] := by decide +kernel
theorem t_blank : toL (Str.ofString " ") = [32] := by decide +kernel
theorem t_tab : toL (Str.ofString "\t") = [9] := by decide +kernel
theorem t_mark : toL (Str.ofString "\"") = [34] := by decide +kernel
theorem t_open : toL (Str.ofString " \"") = [32, 34] := by decide +kernel
theorem t_257 : toL (Str.ofString "257") = code257 := by decide +kernel
theorem t_nil : toL (Str.ofString "") = [] := by decide +kernel
theorem bne_true {x y : Str} : (x != y) = true ↔ toL x ≠ toL y := by
  rw [bne_iff_ne]; exact ⟨fun h e => h (toL_inj e), fun h e => h (by rw [e])⟩
theorem bne_false {x y : Str} : (x != y) = false ↔ toL x = toL y := by
  rw [bne_eq_false_iff_eq]; exact ⟨fun h => by rw [h], toL_inj⟩
theorem beq_true {x y : Str} : (x == y) = true ↔ toL x = toL y := by
  rw [beq_iff_eq]; exact ⟨fun h => by rw [h], toL_inj⟩
theorem beq_false {x y : Str} : (x == y) = false ↔ toL x ≠ toL y := by
  rw [beq_eq_false_iff_ne]; exact ⟨fun h e => h (toL_inj e), fun h e => h (by rw [e])⟩

theorem sign_eq {n : Nat} (h : (({ cps := #[n] } : Str) == Str.ofString "=") = true) : n = 61 := by
  rw [beq_iff_eq] at h
  have := congrArg toL h
  rw [t_eq] at this
  exact (List.cons.inj this).1
theorem sign_ne {n : Nat} (h : (({ cps := #[n] } : Str) == Str.ofString "=") = false) : n ≠ 61 := by
  rw [beq_eq_false_iff_ne] at h
  intro e
  subst e
  exact h (by decide +kernel)
section
variable {W left0 used left : Int} {ws its : List Str} {pre : List Int} {n : Nat}
theorem wi_break (hw : WI W (ws.map toL) left0 pre its used left) {x : Str} {k : Int} (hx : toL x = tok n) (hk : k = wSize n) (h1 : W < left) (h2 : W ≤ used + k) :
    WI W (ws.map toL) left0 (pre ++ [(n : Int)]) (its ++ ([Str.ofString "="] ++ ws) ++ [x]) (0 + k) (left - used) := by
  subst hk
  unfold WI at hw ⊢
  rw [List.map_append, List.foldl_append, hw]
  show wStep W (ws.map toL) (its.map toL, used, left) n = _
  unfold wStep
  rw [if_pos ⟨h1, h2⟩]
  simp only [List.map_append, List.map_cons, List.map_nil, t_eq, hx]
theorem wi_plain (hw : WI W (ws.map toL) left0 pre its used left) {x : Str} {k : Int} (hx : toL x = tok n) (hk : k = wSize n) (h1 : ¬ W < left ∨ ¬ W ≤ used + k) :
    WI W (ws.map toL) left0 (pre ++ [(n : Int)]) (its ++ [x]) (used + k) left := by
  subst hk
  unfold WI at hw ⊢
  rw [List.map_append, List.foldl_append, hw]
  show wStep W (ws.map toL) (its.map toL, used, left) n = _
  unfold wStep
  rw [if_neg (fun h => h1.elim (fun x => x h.1) fun x => x h.2)]
  simp only [List.map_append, List.map_cons, List.map_nil, hx]
theorem tok_61 {n : Nat} (h : (({ cps := #[n] } : Str) == Str.ofString "=") = true) : toL (Str.ofString "=3D") = tok n ∧ 3 = wSize n := by
  rw [sign_eq h]; exact ⟨t_eq3D, rfl⟩
theorem tok_other {n : Nat} (h : (({ cps := #[n] } : Str) == Str.ofString "=") = false) : toL ({ cps := #[n] } : Str) = tok n ∧ 1 = wSize n := by
  have := sign_ne h
  unfold tok wSize
  rw [if_neg this, if_neg this]; exact ⟨rfl, rfl⟩
theorem ws_start {line : Str} (h100 : line.length ≤ 100) (hleft : (line.length : Int) + 2 * Txt.count line (Str.ofString "=") = left0) :
    (0 : Int) ≤ 0 ∧ (0 : Int) ≤ 3 * (([] : List Int).length : Int) ∧ left0 ≤ 300 ∧ -300 ≤ left0 ∧ ([] : List Str).length ≤ 5 * ([] : List Int).length ∧ WI W (ws.map toL) left0 [] [] 0 left0 := by
  have := List.count_le_length (a := 61) (l := toL line)
  rw [toL_length] at this
  rw [count_eq] at hleft
  exact ⟨Int.le_refl _, by simp, by omega, by omega, by simp, rfl⟩
theorem ws_break (b2 : used ≤ 3 * (pre.length : Int)) (b3 : left ≤ 300) (b1 : 0 ≤ used) (b5 : its.length ≤ 5 * pre.length) (hp : pre.length ≤ 100) (hws : ws.length ≤ 3) (hW : 4 ≤ W) (hw : WI W (ws.map toL) left0 pre its used left) {x : Str} {k : Int} (h : toL x = tok n ∧ k = wSize n) (hk : 0 ≤ k ∧ k ≤ 3) (h1 : W < left) (h2 : W ≤ used + k) :
    0 ≤ 0 + k ∧ 0 + k ≤ 3 * ((pre ++ [(n : Int)]).length : Int) ∧ left - used ≤ 300 ∧ -300 ≤ left - used ∧ (its ++ ([Str.ofString "="] ++ ws) ++ [x]).length ≤ 5 * (pre ++ [(n : Int)]).length ∧
      WI W (ws.map toL) left0 (pre ++ [(n : Int)]) (its ++ ([Str.ofString "="] ++ ws) ++ [x]) (0 + k) (left - used) := by
  simp only [List.length_append, List.length_cons, List.length_nil]
  exact ⟨by omega, by omega, by omega, by omega, by omega, wi_break hw h.1 h.2 h1 h2⟩
theorem ws_plain (b1 : 0 ≤ used) (b2 : used ≤ 3 * (pre.length : Int)) (b3 : left ≤ 300) (b4 : -300 ≤ left) (b5 : its.length ≤ 5 * pre.length) (hw : WI W (ws.map toL) left0 pre its used left) {x : Str} {k : Int} (h : toL x = tok n ∧ k = wSize n) (hk : 0 ≤ k ∧ k ≤ 3) (h1 : ¬ W < left ∨ ¬ W ≤ used + k) :
    0 ≤ used + k ∧ used + k ≤ 3 * ((pre ++ [(n : Int)]).length : Int) ∧ left ≤ 300 ∧ -300 ≤ left ∧ (its ++ [x]).length ≤ 5 * (pre ++ [(n : Int)]).length ∧
      WI W (ws.map toL) left0 (pre ++ [(n : Int)]) (its ++ [x]) (used + k) left := by
  simp only [List.length_append, List.length_cons, List.length_nil]
  exact ⟨by omega, by omega, b3, b4, by omega, wi_plain hw h.1 h.2 h1⟩

/-! behind the loop -/
theorem last_is {line : Str} {c : Nat} {b : Str} (hb : toL b = [c]) (h : (Txt.slice line (some (-1)) none == b) = true) : (toL line).getLast? = some c := by
  have hl := toL_length line
  rw [beq_true, hb] at h
  by_cases hx : 1 ≤ line.length
  · rw [slice_last hx] at h
    rw [List.getLast?_eq_getElem?, hl]
    have : ((toL line).drop (line.length - 1))[0]? = some c := by rw [h]; rfl
    rwa [List.getElem?_drop] at this
  · rw [slice_last_nil (by omega)] at h; cases h
theorem last_pos {line : Str} {c : Nat} (h : (toL line).getLast? = some c) : 1 ≤ line.length := by
  have hl := toL_length line
  cases e : toL line with
  | nil => rw [e] at h; cases h
  | cons a r => rw [e] at hl; simp at hl; omega
theorem last_not {line : Str} {c : Nat} {b : Str} (hb : toL b = [c]) (h : (Txt.slice line (some (-1)) none == b) = false) : (toL line).getLast? ≠ some c := by
  have hl := toL_length line
  intro e
  rw [beq_false, hb] at h
  rw [List.getLast?_eq_getElem?, hl] at e
  obtain ⟨hlt, hv⟩ := List.getElem?_eq_some_iff.mp e
  refine h ?_
  rw [slice_last (by omega), List.drop_eq_getElem_cons hlt, hv, List.drop_eq_nil_of_le (by omega)]
variable {line : Str}
theorem wi_ne (hw : WI W (ws.map toL) left0 (KStt.codes line) its used left) {c : Nat} (h : (toL line).getLast? = some c) : its ≠ [] := by
  unfold WI at hw
  rw [codes_nat] at hw
  have := fold_grows (w := W) (e := ws.map toL) (toL line) ([], 0, left0)
  rw [hw] at this
  intro e
  subst e
  have h0 : toL line = [] := List.length_eq_zero_iff.mp (by simpa using this)
  rw [h0] at h; cases h
theorem strs_back {rs : List Value} {zs : List Str} {R : List (List Nat)} (h : StrsAre rs zs) (e : R = zs.map toL) : StrsAre rs (R.map ofL) := by
  have : R.map ofL = zs := by
    rw [e, List.map_map]
    conv => rhs; rw [← List.map_id zs]
    exact List.map_congr_left fun x _ => ofL_toL x
  rw [this]; exact h
theorem wi_loop (hw : WI W (ws.map toL) left0 (KStt.codes line) its used left) (hleft : (line.length : Int) + 2 * Txt.count line (Str.ofString "=") = left0) :
    written W (ws.map toL) (toL line) = wFin W (ws.map toL) (toL line).getLast? (its.map toL) used := by
  unfold WI at hw
  rw [codes_nat] at hw
  unfold written wLoop
  rw [toL_length, ← count_eq, hleft, hw]
theorem we_none (hw : WI W (ws.map toL) left0 (KStt.codes line) its used left) (hleft : (line.length : Int) + 2 * Txt.count line (Str.ofString "=") = left0)
    (h1 : (Txt.slice line (some (-1)) none == Str.ofString " ") = false) (h2 : (Txt.slice line (some (-1)) none == Str.ofString "\t") = false) : written W (ws.map toL) (toL line) = its.map toL := by
  rw [wi_loop hw hleft]
  have a := last_not t_blank h1
  have b := last_not t_tab h2
  unfold wFin
  split
  · rename_i c hc
    rw [hc] at a b
    have : ¬ isBlank c = true := by
      unfold isBlank
      simp only [Bool.or_eq_true, beq_iff_eq]
      intro e
      rcases e with rfl | rfl
      · exact a rfl
      · exact b rfl
    rw [if_neg this]
  · rfl
theorem we_soft (hw : WI W (ws.map toL) left0 (KStt.codes line) its used left) (hleft : (line.length : Int) + 2 * Txt.count line (Str.ofString "=") = left0)
    {c : Nat} (hc : (toL line).getLast? = some c) (hb : isBlank c = true) (h : used = W - 1) : written W (ws.map toL) (toL line) = (its ++ [Str.ofString "="] ++ ws).map toL := by
  rw [wi_loop hw hleft, hc]
  unfold wFin
  dsimp only
  rw [if_pos hb, if_pos h]
  simp only [List.map_append, List.map_cons, List.map_nil, t_eq, List.append_assoc]
theorem we_full (hw : WI W (ws.map toL) left0 (KStt.codes line) its used left) (hleft : (line.length : Int) + 2 * Txt.count line (Str.ofString "=") = left0)
    {c : Nat} (hc : (toL line).getLast? = some c) (hb : isBlank c = true) (h : used ≠ W - 1) (h2 : used = W) {q : Str} (hq : toL q = quoteL c) : written W (ws.map toL) (toL line) = (its.dropLast ++ ([Str.ofString "="] ++ ws) ++ [q]).map toL := by
  rw [wi_loop hw hleft, hc]
  unfold wFin
  dsimp only
  rw [if_pos hb, if_neg h, if_pos h2]
  simp only [List.map_append, List.map_cons, List.map_nil, t_eq, hq, List.map_dropLast]
theorem we_room (hw : WI W (ws.map toL) left0 (KStt.codes line) its used left) (hleft : (line.length : Int) + 2 * Txt.count line (Str.ofString "=") = left0)
    {c : Nat} (hc : (toL line).getLast? = some c) (hb : isBlank c = true) (h : used ≠ W - 1) (h2 : used ≠ W) {q : Str} (hq : toL q = quoteL c) : written W (ws.map toL) (toL line) = (its.dropLast ++ [q]).map toL := by
  rw [wi_loop hw hleft, hc]
  unfold wFin
  dsimp only
  rw [if_pos hb, if_neg h, if_neg h2]
  simp only [List.map_append, List.map_cons, List.map_nil, hq, List.map_dropLast]
theorem quote_20 {c : Nat} (hc : (toL line).getLast? = some c) (h : (Txt.item line (-1) == Str.ofString " ") = true) : toL (Str.ofString "=20") = quoteL c := by
  rw [beq_true, item_last hc, t_blank] at h
  rw [(List.cons.inj h).1, t_20]; rfl
theorem quote_09 {c : Nat} (hc : (toL line).getLast? = some c) (h : (Txt.item line (-1) == Str.ofString " ") = false) : toL (Str.ofString "=09") = quoteL c := by
  rw [beq_false, item_last hc, t_blank] at h
  unfold quoteL
  rw [if_neg (fun e => h (by rw [e])), t_09]
end
end Mine
end TKit2
section TTab
open PySem PySem.W PySem.Calls PyProof.Rows
set_option maxRecDepth 100000
set_option maxHeartbeats 1000000
namespace Mine
theorem kfilled (w : World) : KFill (Mine.K w.params) PySem.Challenge.rw_rw0036_01 := by
  k_fill
  exact trivial
def tabOk (vs : List Value) (c : Nat) : Bool := match vs[c]? with
  | some (.str y _) => y == ofL (tok c)
  | _ => false
theorem tabOk_of {vs : List Value} {c : Nat} (h : tabOk vs c = true) : ∃ t, vs[c]? = some (Value.str (ofL (tok c)) t) := by
  unfold tabOk at h
  split at h
  · rename_i y t e
    rw [e, beq_iff_eq.mp h]; exact ⟨t, rfl⟩
  · cases h
theorem tabAll {vs : List Value} (h : [97, 34, 98, 61, 32, 9, 10, 13, 48, 49, 50, 51, 52, 53, 54, 55, 56, 57, 68].all (tabOk vs) = true) {x : Str} (hs : Signs (toL x)) : ∀ c ∈ toL x, ∃ t, vs[c]? = some (Value.str (ofL (tok c)) t) :=
  fun c hc => tabOk_of (List.all_eq_true.mp h c (hs c hc))
theorem tab71 (w : World) {h : Heap} (X : (Mine.K w.params).In h) (x : Str) (hs : Signs (toL x)) : ∃ vs, TabTr h 71 vs x := by
  refine ⟨_, lstK (dd := none) X (by k_is), ?_⟩
  refine tabAll ?_ hs
  decide +kernel
end Mine
namespace Mine
theorem Signs.lt {l : List Nat} (h : Signs l) : ∀ c ∈ l, c < 128 := fun c hc => by
  have : ∀ c ∈ [97, 34, 98, 61, 32, 9, 10, 13, 48, 49, 50, 51, 52, 53, 54, 55, 56, 57, 68], c < 128 := by decide
  exact this c (h c hc)
theorem call_translate71 {prog : Program} {w : World} {A : Around} {E : Value → Shared → Prop} {s : Shared} {x : Str} {t : Tok} {Q : Value → Shared → Prop} (X : (Mine.K w.params).In s.heap) (hs : Signs (toL x)) (hx : x.length ≤ 100)
    (h : ∀ t' k, Q (.str (ofL (tr (toL x))) t') { s with toks := k }) : wpAny (model prog w) A (call (.builtin "str.translate") [.str x t, .ref 71]) Q E s := by
  obtain ⟨vs, hT⟩ := tab71 w X x hs
  exact call_translate hT hx hs.lt h
end Mine
end TTab
section TBnd
open PySem PySem.W PySem.Calls PyProof.Rows
set_option maxRecDepth 100000
namespace Mine
/-- a list's own append, taken as a value -/
def bnd (a : Addr) : Obj := { cls := .type "builtin_function_or_method", data := .fields #[.builtin "list.append", .ref a] }
theorem slot_md : Slot "method_descriptor" "__get__" "method_descriptor.__get__" :=
  .of (owner := "method_descriptor") (n := "__get__") (by rw [typeLookup_type, builtinLookup_eq_fast]; kernel_rfl) (by decide +kernel) (by decide +kernel) (by decide +kernel)
    (by first | exact .inl (by decide +kernel) | exact .inr (by decide +kernel)) (by rw [isSubtype_type]; kernel_rfl)
theorem md_noset : typeLookup (.type "method_descriptor") "__set__" = pure none := by rw [typeLookup_type, builtinLookup_eq_fast]; kernel_rfl
theorem md_nodel : typeLookup (.type "method_descriptor") "__delete__" = pure none := by rw [typeLookup_type, builtinLookup_eq_fast]; kernel_rfl
theorem entry_md : entryFor table "method_descriptor.__get__" = some Builtin.«method_descriptor.__get__» := entryFor_of_tree (by kernel_rfl)
theorem args_md (a b c : Value) : argsOk "method_descriptor.__get__" ⟨[a, b, c], []⟩ := by unfold argsOk; kernel_rfl
theorem type_la : typeOf (.builtin "list.append") = pure (.type "method_descriptor") := by show builtinType _ = _; rw [builtinType_eq_fast]; kernel_rfl
theorem la_told : Manifest.toldItsClass.contains "list.append" = false := by decide +kernel
theorem la_owner : (kfb_private% "ownerAndName") "list.append" = ("list", "append") := by first | decide +kernel | kernel_rfl
theorem list_sub : isSubtype (.type "list") (.type "list") = pure true := by first | rfl | kernel_rfl | (rw [isSubtype_type]; kernel_rfl)
theorem la_sub : isSubtype (.type "list") (.type (".".intercalate ("list.append".cutAt '.').dropLast)) = pure true := by
  have e0 : "list.append".cutAt '.' = ["list", "append"] := by first | rfl | decide +kernel
  have e1 : ".".intercalate (["list", "append"] : List String).dropLast = "list" := by decide +kernel
  rw [e0, e1]; exact list_sub
section
variable {prog : Program} {w : World} {A : Around} {E : Value → Shared → Prop} {s : Shared} {h₀ : Heap} {L a b D : Addr} {m : Str → Option Value} {news news' : List (Addr × Obj)} {us vs : List Value} {ws zs : List Str} {n n1 n2 : Nat} {Q : Value → Shared → Prop}

theorem md_call {R : Result → Shared → Prop} {h : Heap} {g : Array GenState} {d : Drawn} {t : Nat} {os : OsState} {o : Obj} (hx : h.get? a = some o) (hc : o.cls = .type "list") (hq : R (.ok (.ret (.ref h.objs.size))) ⟨h.push (bnd a), g, d, t, os⟩) :
    codeAny (model prog w) A (.call (.builtin "method_descriptor.__get__") ⟨[.builtin "list.append", .ref a, .type "list"], []⟩) R ⟨h, g, d, t, os⟩ := by
  have hT : (⟨h, g, d, t, os⟩ : Shared).TypeIs (.ref a) "list" := ⟨_, hx, hc⟩
  refine codeAny_call_builtin slot_md.plain entry_md (slot_md.check _ _ _ _ _ _ _ _ type_la (args_md _ _ _) ?_)
  unfold Builtin.«method_descriptor.__get__»
  refine wpAny_bind (wpAny_of_eq (a := (.builtin "list.append", some (.ref a), some (.type "list"))) (by first | rfl | kernel_rfl) ?_)
  simp only [la_told]
  have f1 := list_sub
  have f3 := la_sub
  repeat (any_goals (first | assumption | wp_step))

theorem md_entry {h : Heap} {g : Array GenState} {d : Drawn} {t : Nat} {os : OsState} {xs : Array Value} {k : Nat} {tk : Tok} {Q : Fin → Shared → Prop} (hx : h.get? a = some (PySem.W.listOf xs k)) (hq : Q (.done (.ret (.ref h.objs.size))) ⟨h.push (bnd a), g, d, t, os⟩) :
    wpAny (model prog w) A (Builtin.«object.__getattribute__» ⟨[.ref a, .str (PySem.Str.ofString "append") tk], []⟩) Q E ⟨h, g, d, t, os⟩ := by
  replace hx : h.get? a = some { cls := .type "list", dict := none, data := .seq xs k, slots := #[] } := hx
  have hT : (⟨h, g, d, t, os⟩ : Shared).TypeIs (.ref a) "list" := ⟨_, hx, rfl⟩
  have hT5 : (⟨h, g, d, t, os⟩ : Shared).TypeIs (.builtin "list.append") "method_descriptor" := type_la
  have f4 := F.slot_list_append.lookup
  have f5 := type_la
  have f6 := slot_md.lookup
  have f7 := md_noset
  have f8 := md_nodel
  have f9 : (["__module__", "__name__", "__qualname__", "__doc__", "__annotations__"] : List Str).contains (Str.ofString "append") = false := by decide +kernel
  unfold Builtin.«object.__getattribute__»
  repeat (any_goals (first | assumption | wp_step))
  (try simp only [f9, Bool.false_eq_true, if_false])
  repeat (any_goals (first | assumption | wp_step))
  refine md_call hx rfl ?_
  repeat (any_goals (first | assumption | wp_step))
theorem get_bnd {xs : Array Value} {k : Nat} (hx : s.heap.get? a = some (PySem.W.listOf xs k)) (hq : Q (.ref s.heap.objs.size) { s with heap := s.heap.push (bnd a), toks := s.toks + 1 }) :
    wpAny (model prog w) A (getAttr (.ref a) (PySem.Str.ofString "append") true) Q E s := by
  obtain ⟨hp, g, d, tk, os⟩ := s
  have hT : ∀ tk', (⟨hp, g, d, tk', os⟩ : Shared).TypeIs (.ref a) "list" := fun _ => ⟨_, hx, rfl⟩
  have f3 := F.slot_list_getattribute.lookup
  have f4 := F.slot_list_getattribute.bind (.ref a)
  unfold getAttr getAttrBy
  repeat (any_goals (first | assumption | exact hT _ | wp_step))
  refine codeAny_call_builtin F.slot_list_getattribute.plain F.entry_list_ga (F.slot_list_getattribute.check _ _ _ _ _ _ _ _ (hT _) (F.args_list_getattribute_2 _ _) (md_entry hx ?_))
  refine wpAny_pure hq
end
end Mine
end TBnd
section TBnd2
open PySem PySem.W PySem.Calls PyProof.Rows
set_option maxRecDepth 100000
namespace Mine
section
variable {prog : Program} {w : World} {A : Around} {E : Value → Shared → Prop} {s : Shared} {h₀ : Heap} {L a b D q : Addr} {m : Str → Option Value} {news news' : List (Addr × Obj)} {us vs : List Value} {ws zs : List Str} {n n1 n2 : Nat} {Q : Value → Shared → Prop}
theorem getB (F : Fr h₀ L s.heap m) (N : News h₀ L s.heap news) {xs : Array Value} (ha : (a, PySem.W.listOf xs n) ∈ news)
    (h : ∀ q h', Fr h₀ L h' m → News h₀ L h' ((q, bnd a) :: news) → (∀ p ∈ news, p.1 < q) → Q (.ref q) { s with heap := h', toks := s.toks + 1 }) :
    wpAny (model prog w) A (getAttr (.ref a) (PySem.Str.ofString "append") true) Q E s :=
  get_bnd (N _ ha).1 (h _ _ (F.push _) (News.push F N _) fun p hp => Heap.lt_size (N p hp).1)
theorem la_isapp_mod : isSubtype (.type "list") (.type "module") = pure false := by first | rfl | kernel_rfl | (rw [isSubtype_type]; kernel_rfl)
theorem la_kind : builtinKind "list.append" = some .method := by decide +kernel
theorem check_bnd {xs : Array Value} {x : Value} {Q : Unit → Shared → Prop} (hx : s.heap.get? a = some (PySem.W.listOf xs n)) (hq : Q () s) : wpAny (model prog w) A (checkBoundCall "list.append" ⟨[.ref a, x], []⟩) Q E s := by
  obtain ⟨hp, g, d, tk, os⟩ := s
  have hT : (⟨hp, g, d, tk, os⟩ : Shared).TypeIs (.ref a) "list" := ⟨_, hx, rfl⟩
  have f1 := la_isapp_mod
  have f2 := la_kind
  unfold checkBoundCall
  repeat (any_goals (first | assumption | wp_step))
theorem call_bnd {xs : Array Value} {x : Value} (hb : s.heap.get? q = some (bnd a)) (hx : s.heap.get? a = some (PySem.W.listOf xs n)) (hsz : xs.size ≤ sizeLine)
    (h : ∀ h', Heap.SameBut a s.heap h' → h'.get? a = some (PySem.W.listOf (xs.push x) (n + 1)) → Q .none { s with heap := h' }) : wpAny (model prog w) A (call (.ref q) [x]) Q E s := by
  refine wpAny_call (codeAny_of_tree ?_)
  show wpAny _ A.in1 (callAny (.ref q) ⟨[x], []⟩) _ _ s
  simp only [callAny]
  refine wpAny_bind (wpAny_load hb ?_)
  simp only [bnd, show (Value.type "builtin_function_or_method" == Value.type "method" || Value.type "builtin_function_or_method" == Value.type "builtin_function_or_method" || Value.type "builtin_function_or_method" == Value.type "method-wrapper") = true by decide, if_true]
  refine KFB.if_so (by decide) ?_
  refine wpAny_bind (check_bnd hx ?_)
  refine wpAny_bind (wpAny_pure (wpAny_pure ?_))
  refine ⟨Code.quiet_builtin _ (by decide +kernel), codeAny_builtin entry_list_append ?_⟩
  show wpAny _ _ (updateSeq a (·.push x) >>= fun _ => ret .none) _ _ s
  refine wpAny_bind ?_
  refine wpAny_updateSeq hx rfl (wpAny_pure (h _ (Heap.SameBut.update ..) ?_))
  rw [Heap.get?_update_self _ hx (by rw [mapSeq_push]; rfl), mapSeq_push]
theorem callB {x : Str} {t : Tok} (F : Fr h₀ L s.heap m) (N : News h₀ L s.heap news) (hb : (q, bnd a) ∈ news) (U : Upd a (PySem.W.listOf us.toArray n) (PySem.W.listOf (us ++ [Value.str x t]).toArray (n + 1)) news news') (hi : StrsAre us ws)
    (h : ∀ h', Fr h₀ L h' m → News h₀ L h' news' → StrsAre (us ++ [Value.str x t]) (ws ++ [x]) → Q .none { s with heap := h' }) (hz : ws.length ≤ 100000) :
    wpAny (model prog w) A (call (.ref q) [.str x t]) Q E s := by
  have e : us.toArray.push (Value.str x t) = (us ++ [Value.str x t]).toArray := by simp
  rw [← e] at U
  obtain ⟨pre, post, e1, e2, a1, a2⟩ := U.split
  have z := N (a, PySem.W.listOf us.toArray n) (by rw [e1]; exact List.mem_append.mpr (.inr (.head _)))
  refine call_bnd (N _ hb).1 z.1 (by rw [List.size_toArray, sizeLine_eq, strs_len hi]; omega) fun h' hs ho' => ?_
  refine h h' (F.change hs z.2.1 z.2.2) ?_ (strs_append hi (.cons _ _ .nil))
  rw [e2]
  exact news_set (e1 ▸ N) a1 a2 hs ho'
def StandsB (q a : Addr) (h : Heap) : Prop := h.get? q = some (bnd a)
theorem callWithB {pos : Pos} {M : Model} {first : List Value} {args : List (Bool × Sem Value)} (hplain : args.any (·.1) = false)
    (h : wpAny M A (evalArgs (.ref q) true args []) (fun x s₁ => StandsB q a s₁.heap ∧ wpAny M A (call (.ref q) (first ++ x.pos) x.kw) Q E s₁) E s) : wpAny M A (callWith pos (.ref q) first args []) Q E s := by
  unfold callWith
  refine wpAny_bind (wpAny_holding (wpAny_mono h (fun x s₁ h₁ => wpAny_bind (wpAny_standAt ?_)) fun _ _ x => x))
  obtain ⟨ho, hcall⟩ := h₁
  simp only [hplain, List.any_nil, Bool.or_false]
  refine wpAny_bind (m := keeperOf (.ref q)) ?_
  unfold keeperOf
  refine wpAny_bind (wpAny_load ho ?_)
  simp only [bnd, show (Value.type "builtin_function_or_method" != Value.type "method") = true by decide, show (Value.type "builtin_function_or_method" == Value.type "builtin_function_or_method" || Value.type "builtin_function_or_method" == Value.type "method-wrapper") = true by decide, if_true]
  refine wpAny_pure ?_
  exact wpAny_bind (wpAny_mono hcall (fun r s₂ hr => wpAny_bind (wpAny_holding (wpAny_point (wpAny_pure hr)))) fun _ _ x => x)
theorem callWith_bnd {pos : Pos} {M : Model} {first : List Value} {env : Env} {e : Expr} {rest : List Expr} (_N : News h₀ L s.heap news) (_hm : (q, bnd a) ∈ news)
    (h : wpAny M A (spliced (backTo pos (starEach (e :: rest) env))) (fun vs s₁ => StandsB q a s₁.heap ∧ wpAny M A (call (.ref q) (first ++ vs)) Q E s₁) E s)
    (he : starEach (e :: rest) env = (false, eval e env) :: starEach rest env := by rfl) (hplain : (backTo pos (starEach rest env)).any (·.1) = false := by rfl) :
    wpAny M A (callWith pos (.ref q) first (backTo pos (starEach (e :: rest) env)) []) Q E s := by
  rw [he] at h ⊢
  refine callWithB (a := a) (by show (false || (backTo pos (starEach rest env)).any (·.1)) = false; rw [hplain]; rfl) ?_
  exact evalArgs_plain h
theorem standsB {h : Heap} (N : News h₀ L h news) (hb : (q, bnd a) ∈ news) : StandsB q a h := (N _ hb).1
end
end Mine
end TBnd2
section TLst
open PySem PySem.W PySem.Calls PyProof.Rows
set_option maxRecDepth 100000
namespace Mine
section
variable {prog : Program} {w : World} {A : Around} {E : Value → Shared → Prop} {s : Shared} {env : Env} {h₀ : Heap} {x : Str} {body : List Stmt} {Q : Flow → Shared → Prop}
theorem iter_txtNL {l : Addr} {vs : List Value} {zs : List Str} {nn : Nat} {m₀ : Str → Option Value} {news : List (Addr × Obj)} (J : Nat → (Str → Option Value) → List (Addr × Obj) → Prop)
    (hh : A.handled = none) (hl : (l, PySem.W.listOf vs.toArray nn) ∈ news) (hi : StrsAre vs zs) (F : Fr h₀ env.locals s.heap m₀) (N : News h₀ env.locals s.heap news) (hj : J 0 m₀ news)
    (turn : ∀ i z t m₁ news₁ h tk own, zs[i]? = some z → news₁.map (·.1) = news.map (·.1) → OwnOff own (news.map (·.1)) → (l, PySem.W.listOf vs.toArray nn) ∈ news₁ → J i m₁ news₁ → Fr h₀ env.locals h (fun y => if y = x then some (.str z t) else m₁ y) → News h₀ env.locals h (news₁ ++ own) →
      wpAny (model prog w) A (execs body env) (InvPostN h₀ env.locals (fun m' nx => (l, PySem.W.listOf vs.toArray nn) ∈ nx ∧ J (i + 1) m' nx) own (news.map (·.1)) { s with heap := h, toks := tk } Q) E { s with heap := h, toks := tk })
    (done : ∀ m₁ news₁ h tk, (l, PySem.W.listOf vs.toArray nn) ∈ news₁ → J zs.length m₁ news₁ → Fr h₀ env.locals h m₁ → News h₀ env.locals h news₁ → Q .next { s with heap := h, toks := tk }) :
    wpAny (model prog w) A (pyIter (.ref l)) (fun it s₂ => LoopAtV prog w A h₀ env x body Q E it s₂) E s := by
  have hol : s.heap.get? l = some (PySem.W.listOf vs.toArray nn) := (N _ hl).1
  have hls : s.heap.IsList l vs.toArray := ⟨_, hol, rfl, nn, rfl⟩
  have hne : l ≠ s.heap.objs.size := Nat.ne_of_lt (Heap.lt_size hol)
  refine wpAny_pyIter_list hls ?_
  have W := Walks.list (prog := prog) (w := w) hh s.heap.objs.size l hne vs.toArray
  have hlen : vs.toArray.size = zs.length := by simp [hi.length]
  rw [hlen] at W
  refine ⟨_, _, _, zs.length, _, _, m₀, news, (fun i m nx => nx.map (·.1) = news.map (·.1) ∧ (l, PySem.W.listOf vs.toArray nn) ∈ nx ∧ J i m nx), rfl, W, ?_, ?_, ?_, ⟨⟨_, Heap.get?_push_size _ rfl, rfl, rfl⟩, hls.at fun o e => Heap.get?_push_of_some _ e⟩, F.push _, (fun p hp => ⟨Heap.get?_push_of_some _ (N p hp).1, (N p hp).2⟩), ⟨rfl, hl, hj⟩, ?_, ?_⟩
  · intro hm
    rcases List.mem_cons.mp hm with e | hm
    · exact absurd F.ns.lt (e ▸ Nat.lt_irrefl _)
    · exact (N _ hl).2.1 ((List.mem_singleton.mp hm).symm)
  · intro b hb
    rw [List.mem_singleton.mp hb]
    exact next_is_new F
  · intro p hp hI
    exact absurd (Heap.lt_size (N p hp).1) ((List.mem_singleton.mp hI) ▸ Nat.lt_irrefl _)
  · rintro i v m₁ news₁ s₁ own ⟨hh', tk', rfl⟩ hin hP ⟨hadr, hl₁, hJ⟩ hoff hown hget hfp _ F₁ N₁
    have hsep : OwnOff (own.filter fun p => decide (p.1 = s.heap.objs.size)) (news.map (·.1)) := by
      intro p hp b hb e
      obtain ⟨q, hq, rfl⟩ := List.mem_map.mp hb
      have h1 : p.1 = s.heap.objs.size := by simpa using (List.mem_filter.mp hp).2
      exact absurd (Heap.lt_size (N q hq).1) (by rw [← e, h1]; exact Nat.lt_irrefl _)
    have hlt' : i < zs.length := hin
    obtain ⟨t, hx⟩ := StrsAre.get hi i zs[i] (by simp [hlt'])
    have hv : v = .str zs[i] t := by
      have hP' : vs[i]? = some v := by simpa using hP
      rw [hx] at hP'; exact (Option.some.inj hP').symm
    subst hv
    have N₂ : News h₀ env.locals hh' (news₁ ++ own.filter fun p => decide (p.1 = s.heap.objs.size)) := fun p hp => N₁ p ((List.mem_append.mp hp).elim (fun h => List.mem_append.mpr (.inr h)) fun h => List.mem_append.mpr (.inl ((List.mem_filter.mp h).1)))
    have hlo : hh'.get? l = some (PySem.W.listOf vs.toArray nn) := (N₁ _ (List.mem_append.mpr (.inr hl₁))).1
    refine wpAny_mono (turn i zs[i] t m₁ news₁ hh' tk' _ (by simp [hlt']) hadr hsep hl₁ hJ F₁ N₂) (fun f s₂ p => ?_) fun _ _ e => e
    have fin : InvEndN h₀ env.locals (fun m' nx => (l, PySem.W.listOf vs.toArray nn) ∈ nx ∧ J (i + 1) m' nx) (own.filter fun p => decide (p.1 = s.heap.objs.size)) (news.map (·.1)) { s with heap := hh', toks := tk' } s₂ →
        LoopStepU h₀ env.locals [s.heap.objs.size] own (fun m nx => nx.map (·.1) = news.map (·.1) ∧ (l, PySem.W.listOf vs.toArray nn) ∈ nx ∧ J (i + 1) m nx) { s with heap := hh', toks := tk' } .next s₂ := by
      rintro ⟨h', tk, m', news', nx, e, F', N', hn, ho, ha, hm⟩
      refine ⟨rfl, h', tk, m', nx, e, F', fun p hp => ?_, fun p hp => ?_, ha, hm⟩
      · rcases List.mem_append.mp hp with h | h
        · by_cases hI : p.1 = s.heap.objs.size
          · exact N' p (ho p (List.mem_filter.mpr ⟨h, by simpa using hI⟩))
          · have h1 : p.1 = l := by
              rcases List.mem_cons.mp (hown p h) with h2 | h2
              · exact absurd h2 hI
              · exact List.mem_singleton.mp h2
            have h2 : hh'.get? p.1 = some p.2 := hget p h
            rw [h1, hlo] at h2
            have h3 : p = (l, PySem.W.listOf vs.toArray nn) := Prod.ext h1 (Option.some.inj h2).symm
            rw [h3]
            exact N' _ (hn _ hm.1)
        · exact N' p (hn p h)
      · have h1 : p.1 ∈ nx.map (·.1) := List.mem_map.mpr ⟨p, hp, rfl⟩
        rw [ha] at h1
        obtain ⟨q, hq, e⟩ := List.mem_map.mp h1
        intro hI
        exact absurd (Heap.lt_size (N q hq).1) (by rw [e, List.mem_singleton.mp hI]; exact Nat.lt_irrefl _)
    cases f with
    | ret v => exact .ret p
    | brk => exact .brk p
    | next => exact .next (fin p)
    | cont => exact .cont (fin p)
  · rintro h' tk m' news' F' N' _ ⟨_, hl', hJ⟩
    exact done m' news' h' tk hl' hJ F' N'
end
end Mine
namespace Mine
section
variable {prog : Program} {w : World} {A : Around} {E : Value → Shared → Prop} {s : Shared} {x y : Str} {t u : Tok} {h₀ : Heap} {L : Addr} {m : Str → Option Value} {news : List (Addr × Obj)} {Q : Value → Shared → Prop}
theorem linesK (F : Fr h₀ L s.heap m) (N : News h₀ L s.heap news)
    (h : ∀ r vs zs h' k, zs = Txt.lines x → StrsAre vs zs → Fr h₀ L h' m → News h₀ L h' ((r, PySem.W.listOf (List.toArray vs) 0) :: news) → (∀ p ∈ news, p.1 < r) → Q (.ref r) { s with heap := h', toks := k }) (hsz : x.length ≤ 1000) :
    wpAny (model prog w) A (call (.builtin "str.splitlines") [.str x t]) Q E s :=
  splitlinesNA F N (fun l h' k e S _ _ F' N' => h _ _ _ h' k e S F' N' (fun p hp => Heap.lt_size (N p hp).1)) (by rw [sizeLine_eq]; omega)
theorem splitK (F : Fr h₀ L s.heap m) (N : News h₀ L s.heap news) (hy : (y.length == 0) = false)
    (h : ∀ r vs zs h' k, zs = Txt.split x y → StrsAre vs zs → Fr h₀ L h' m → News h₀ L h' ((r, PySem.W.listOf (List.toArray vs) 0) :: news) → (∀ p ∈ news, p.1 < r) → Q (.ref r) { s with heap := h', toks := k }) (hsz : x.length ≤ 1000) :
    wpAny (model prog w) A (call (.builtin "str.split") [.str x t, .str y u]) Q E s :=
  splitN1A F N hy (fun l h' k e S _ _ F' N' => h _ _ _ h' k e S F' N' (fun p hp => Heap.lt_size (N p hp).1)) (by rw [sizeLine_eq]; omega)
end
end Mine
end TLst
section TEnc
open PySem PySem.W PySem.Calls PyProof.Rows PySem.StrLaws PySem.Builtin PySem.Builtin.Str
set_option maxRecDepth 100000
namespace Mine
theorem tr_len3 : ∀ l : List Nat, (tr l).length ≤ 3 * l.length
  | [] => by simp [tr]
  | c :: r => by
    rw [tr_cons, List.length_append, List.length_cons]
    have := tr_len3 r
    have h2 : (tok c).length ≤ 3 := by unfold tok; split <;> simp
    omega
theorem tr_short {body : Str} (h : body.length ≤ 20) : (tr (toL body)).length ≤ 1000 := by
  have := tr_len3 (toL body)
  rw [toL_length] at this
  omega
theorem tr_ge : ∀ l : List Nat, l.length ≤ (tr l).length
  | [] => by simp [tr]
  | c :: r => by
    rw [tr_cons, List.length_append, List.length_cons]
    have := tr_ge r
    have h2 : 1 ≤ (tok c).length := by unfold tok; split <;> simp
    omega
/-! lines: how many, how long -/
theorem pl_size (l : List Nat) : (pl l).length ≤ l.length ∧ ∀ x ∈ pl l, x.length ≤ l.length := by
  refine two_cases (fun l => (pl l).length ≤ l.length ∧ ∀ x ∈ pl l, x.length ≤ l.length) ⟨Nat.le_refl _, fun x hx => nomatch hx⟩ (fun r ih => ?_) (fun c r h ih => ?_) l
  · rw [pl_two]
    refine ⟨by simp only [List.length_cons]; omega, fun x hx => ?_⟩
    rcases List.mem_cons.mp hx with rfl | hx
    · simp
    · have := ih.2 x hx; simp only [List.length_cons]; omega
  · rw [pl_other h]
    split
    · refine ⟨by simp only [List.length_cons]; omega, fun x hx => ?_⟩
      rcases List.mem_cons.mp hx with rfl | hx
      · simp
      · have := ih.2 x hx; simp only [List.length_cons]; omega
    · split
      · rename_i e
        refine ⟨by simp, fun x hx => ?_⟩
        rw [List.mem_singleton.mp hx]; simp
      · rename_i a t e
        rw [e] at ih
        refine ⟨by have := ih.1; simp only [List.length_cons] at this ⊢; omega, fun x hx => ?_⟩
        rcases List.mem_cons.mp hx with rfl | hx
        · have := ih.2 a (.head _); simp only [List.length_cons]; omega
        · have := ih.2 x (.tail _ hx); simp only [List.length_cons]; omega
theorem zs_size {zs : List Str} {l : List Nat} (h : zs.map toL = pl l) : zs.length ≤ l.length ∧ ∀ z ∈ zs, z.length ≤ l.length := by
  have := pl_size l
  rw [← h, List.length_map] at this
  exact ⟨this.1, fun z hz => by rw [← toL_length]; exact this.2 _ (List.mem_map_of_mem hz)⟩

/-- behind k of the lines -/
def EI (W : Int) (eol : Str) (zs : List Str) (k : Nat) (its : List Str) : Prop := its.map toL = ((zs.map toL).take k).flatMap (encR W.toNat (toL eol)) ∧ its.length ≤ 100 * k ∧ ∀ x ∈ its, x.length ≤ 200
/-- within a line -/
def EJ (W : Int) (eol : Str) (z : Str) (its its' : List Str) (start : Int) : Prop :=
  its'.map toL ++ encR W.toNat (toL eol) ((toL z).drop start.toNat) = its.map toL ++ encR W.toNat (toL eol) (toL z) ∧ 0 ≤ start ∧ (start = 0 ∨ start < (z.length : Int)) ∧ (its'.length : Int) ≤ its.length + start ∧ ∀ x ∈ its', x.length ≤ 200
section
variable {W start : Int} {eol z X sb : Str} {its its' zs : List Str}
theorem ei_start : EI W eol zs 0 [] := ⟨rfl, Nat.zero_le _, fun _ h => nomatch h⟩
theorem ej_start (h : ∀ x ∈ its, x.length ≤ 200) : EJ W eol z its its 0 := ⟨rfl, Int.le_refl _, .inl rfl, by omega, h⟩
theorem drop_len (h0 : 0 ≤ start) : (((toL z).drop start.toNat).length : Int) = max 0 ((z.length : Int) - start) := by
  rw [List.length_drop, toL_length]; omega
theorem at_of {i : Int} (hi : 0 ≤ i) (hl : i < (z.length : Int)) {y : Str} {c : Nat} (hy : toL y = [c]) : (Txt.item z i == y) = decide ((toL z)[i.toNat]? = some c) :=
  item_eq_iff hi (by rw [toL_length]; omega) c y hy
theorem at_true {i : Int} (hi : 0 ≤ i) (hl : i < (z.length : Int)) {y : Str} {c : Nat} (hy : toL y = [c]) (h : (Txt.item z i == y) = true) : (toL z)[i.toNat]? = some c := by
  rw [at_of hi hl hy] at h; exact of_decide_eq_true h
theorem at_false {i : Int} (hi : 0 ≤ i) (hl : i < (z.length : Int)) {y : Str} {c : Nat} (hy : toL y = [c]) (h : (Txt.item z i == y) = false) : (toL z)[i.toNat]? ≠ some c := by
  rw [at_of hi hl hy] at h; exact of_decide_eq_false h
theorem ej_gen (hW : 4 ≤ W) (hJ : EJ W eol z its its' start) (hlt : start ≤ (z.length : Int) - 1 - W) {a : Nat} (ha : adv W.toNat ((toL z).drop start.toNat) = a)
    (hX : toL X = ((toL z).drop start.toNat).take a ++ [61]) (hl : X.length ≤ 200) {stop : Int} (hs : stop = start + a) : EJ W eol z its (its' ++ [X]) stop := by
  obtain ⟨e, h0, h1, h2, h3⟩ := hJ
  have hlen := drop_len (z := z) h0
  have hR : W.toNat < ((toL z).drop start.toNat).length := by omega
  have hp := adv_pos (w := W.toNat) (by omega) ((toL z).drop start.toNat)
  have hq := adv_le (w := W.toNat) (by omega) ((toL z).drop start.toNat)
  rw [ha] at hp hq
  refine ⟨?_, by omega, .inr (by omega), by rw [List.length_append, List.length_singleton]; omega, ?_⟩
  · rw [← e, encR_more (by omega) hR, ha, List.drop_drop, List.map_append, List.map_cons, List.map_nil, hX, List.append_assoc]
    have : stop.toNat = start.toNat + a := by omega
    rw [this]; rfl
  · intro x hx
    rcases List.mem_append.mp hx with hx | hx
    · exact h3 x hx
    · rw [List.mem_singleton.mp hx]; exact hl
theorem drop_at {i : Int} (h0 : 0 ≤ start) (h1 : start ≤ i) : ((toL z).drop start.toNat)[(i - start).toNat]? = (toL z)[i.toNat]? := by
  rw [List.getElem?_drop]; congr 1; omega
theorem take_one {l : List Nat} {n : Nat} {c : Nat} (h : l[n]? = some c) : l.take (n + 1) = l.take n ++ [c] := by
  rw [List.take_add_one, h]; rfl
theorem slice_len (h0 : 0 ≤ start) {j : Int} (hj : start ≤ j) (h : toL X = ((toL z).drop start.toNat).take (j.toNat - start.toNat)) (hW : j - start ≤ 100) : X.length ≤ 200 := by
  rw [← toL_length, h, List.length_take]; omega
theorem ej_1 (hW : 4 ≤ W) (hW2 : W ≤ 11) (hJ : EJ W eol z its its' start) (hlt : start ≤ (z.length : Int) - 1 - W) (h1 : (Txt.item z (start + (W - 1) - 2) == Str.ofString "=") = true) :
    EJ W eol z its (its' ++ [Txt.slice z (some start) (some (start + (W - 1) - 1))]) (start + (W - 1) - 2) := by
  have h0 := hJ.2.1
  have e1 := at_true (by omega) (by omega) t_eq h1
  have e2 : ((toL z).drop start.toNat)[W.toNat - 3]? = some 61 := by
    rw [← e1, ← drop_at h0 (by omega)]; congr 1; omega
  have es : toL (Txt.slice z (some start) (some (start + (W - 1) - 1))) = ((toL z).drop start.toNat).take ((start + (W - 1) - 1).toNat - start.toNat) := slice_ij h0 (by omega)
  refine ej_gen hW hJ hlt (a := W.toNat - 3) (by unfold adv; rw [if_pos e2]) ?_ (slice_len h0 (by omega) es (by omega)) (by omega)
  rw [es, ← take_one e2]; congr 1; omega
theorem ej_2 (hW : 4 ≤ W) (hW2 : W ≤ 11) (hJ : EJ W eol z its its' start) (hlt : start ≤ (z.length : Int) - 1 - W) (h1 : (Txt.item z (start + (W - 1) - 2) == Str.ofString "=") = false)
    (h2 : (Txt.item z (start + (W - 1) - 1) == Str.ofString "=") = true) : EJ W eol z its (its' ++ [Txt.slice z (some start) (some (start + (W - 1)))]) (start + (W - 1) - 1) := by
  have h0 := hJ.2.1
  have e1 := at_false (by omega) (by omega) t_eq h1
  have e2 : ¬ ((toL z).drop start.toNat)[W.toNat - 3]? = some 61 := by
    intro x
    refine e1 ?_
    rw [← x, ← drop_at h0 (by omega)]; congr 1; omega
  have e3 := at_true (by omega) (by omega) t_eq h2
  have e4 : ((toL z).drop start.toNat)[W.toNat - 2]? = some 61 := by
    rw [← e3, ← drop_at h0 (by omega)]; congr 1; omega
  have es : toL (Txt.slice z (some start) (some (start + (W - 1)))) = ((toL z).drop start.toNat).take ((start + (W - 1)).toNat - start.toNat) := slice_ij h0 (by omega)
  refine ej_gen hW hJ hlt (a := W.toNat - 2) (by unfold adv; rw [if_neg e2, if_pos e4]) ?_ (slice_len h0 (by omega) es (by omega)) (by omega)
  rw [es, ← take_one e4]; congr 1; omega
theorem ej_3 (hW : 4 ≤ W) (hW2 : W ≤ 11) (hJ : EJ W eol z its its' start) (hlt : start ≤ (z.length : Int) - 1 - W) (h1 : (Txt.item z (start + (W - 1) - 2) == Str.ofString "=") = false)
    (h2 : (Txt.item z (start + (W - 1) - 1) == Str.ofString "=") = false) : EJ W eol z its (its' ++ [Txt.slice z (some start) (some (start + (W - 1))) ++ Str.ofString "="]) (start + (W - 1)) := by
  have h0 := hJ.2.1
  have e1 := at_false (by omega) (by omega) t_eq h1
  have e2 : ¬ ((toL z).drop start.toNat)[W.toNat - 3]? = some 61 := by
    intro x
    refine e1 ?_
    rw [← x, ← drop_at h0 (by omega)]; congr 1; omega
  have e3 := at_false (by omega) (by omega) t_eq h2
  have e4 : ¬ ((toL z).drop start.toNat)[W.toNat - 2]? = some 61 := by
    intro x
    refine e3 ?_
    rw [← x, ← drop_at h0 (by omega)]; congr 1; omega
  have es : toL (Txt.slice z (some start) (some (start + (W - 1)))) = ((toL z).drop start.toNat).take ((start + (W - 1)).toNat - start.toNat) := slice_ij h0 (by omega)
  have ex : toL (Txt.slice z (some start) (some (start + (W - 1))) ++ Str.ofString "=") = ((toL z).drop start.toNat).take (W.toNat - 1) ++ [61] := by
    rw [toL_append, es, t_eq]; congr 2; omega
  refine ej_gen hW hJ hlt (a := W.toNat - 1) (by unfold adv; rw [if_neg e2, if_neg e4]) ex ?_ (by omega)
  rw [← toL_length, ex, List.length_append, List.length_take, List.length_singleton]; omega

/-! the end of a line -/
variable {k : Nat}
theorem e_end (hW : 4 ≤ W) (hz : zs[k]? = some z) (hI : EI W eol zs k its) (hJ : EJ W eol z its its' start) (hge : ¬ start ≤ (z.length : Int) - 1 - W) (hzl : z.length ≤ 60) (hX : toL X = tailR W.toNat (toL eol) ((toL z).drop start.toNat)) (hXl : X.length ≤ 200) :
    EI W eol zs (k + 1) (its' ++ [X]) := by
  obtain ⟨e, h0, h1, h2, h3⟩ := hJ
  have hlen := drop_len (z := z) h0
  have hR : ¬ W.toNat < ((toL z).drop start.toNat).length := by omega
  rw [encR_last hR] at e
  have hs : (zs.map toL).take (k + 1) = (zs.map toL).take k ++ [toL z] := by
    rw [List.take_add_one, List.getElem?_map, hz]; rfl
  refine ⟨?_, ?_, ?_⟩
  · rw [hs, List.flatMap_append, ← hI.1, List.flatMap_cons, List.flatMap_nil, List.append_nil, ← e, List.map_append, List.map_cons, List.map_nil, hX]
  · have := hI.2.1
    rw [List.length_append, List.length_singleton]; omega
  · intro x hx
    rcases List.mem_append.mp hx with hx | hx
    · exact h3 x hx
    · rw [List.mem_singleton.mp hx]; exact hXl
theorem last_of (h0 : 0 ≤ start) (h1 : start = 0 ∨ start < (z.length : Int)) (hz : (z.length : Int) ≠ 0) : ∃ c, (toL z).getLast? = some c ∧ ((toL z).drop start.toNat).getLast? = some c ∧ toL (Txt.item z (-1)) = [c] ∧
    toL (Txt.slice z (some start) (some (-1))) = ((toL z).drop start.toNat).dropLast ∧ toL (Txt.slice z (some start) none) = (toL z).drop start.toNat := by
  have hl := toL_length z
  have hne : toL z ≠ [] := by intro e; rw [e] at hl; simp at hl; omega
  have hc : (toL z).getLast? = some ((toL z).getLast hne) := List.getLast?_eq_some_getLast hne
  refine ⟨_, hc, ?_, item_last hc, ?_, slice_from h0⟩
  · rw [← hc, List.getLast?_drop, if_neg (by omega)]
  · rw [slice_to_last h0 (by omega), List.dropLast_eq_take, List.length_drop, hl]; congr 1; omega
theorem blank_in (h : (occurrences (Str.ofString " \t") (Txt.item z (-1)) 0 (Str.ofString " \t").length 1).isEmpty = b) {c : Nat} (hc : toL (Txt.item z (-1)) = [c]) : isBlank c = !b := by
  have e : Txt.item z (-1) = ⟨#[c]⟩ := toL_inj hc
  have h2 := found_one (Str.ofString " \t") c
  rw [← e, h] at h2
  rw [h2]
  have : (Str.ofString " \t").cps.toList = [32, 9] := by decide +kernel
  rw [this]
  unfold isBlank
  rw [Bool.eq_iff_iff]
  simp
theorem quoteL_len (c : Nat) : (quoteL c).length = 3 := by unfold quoteL; split <;> rfl
theorem drop_short (hzl : z.length ≤ 60) : ((toL z).drop start.toNat).dropLast.length ≤ 60 := by
  rw [List.length_dropLast, List.length_drop, toL_length]; omega
theorem xl {l : List Nat} (h : toL X = l) (hl : l.length ≤ 200) : X.length ≤ 200 := by rw [← toL_length, h]; exact hl
/-- a line's rest with no blank at its end -/
theorem e_plain (hW : 4 ≤ W) (hz : zs[k]? = some z) (hI : EI W eol zs k its) (hJ : EJ W eol z its its' start) (hge : ¬ start ≤ (z.length : Int) - 1 - W) (hzl : z.length ≤ 60)
    (h : (z.length : Int) = 0 ∨ (occurrences (Str.ofString " \t") (Txt.item z (-1)) 0 (Str.ofString " \t").length 1).isEmpty = true) : EI W eol zs (k + 1) (its' ++ [Txt.slice z (some start) none]) := by
  have hs : toL (Txt.slice z (some start) none) = (toL z).drop start.toNat := slice_from hJ.2.1
  have hl := toL_length z
  refine e_end hW hz hI hJ hge hzl ?_ (xl hs (by rw [List.length_drop, hl]; omega))
  rw [hs]
  unfold tailR
  by_cases hz0 : (z.length : Int) = 0
  · have : toL z = [] := List.length_eq_zero_iff.mp (by omega)
    rw [this]; simp
  · obtain ⟨c, _, h2, h3, _, _⟩ := last_of hJ.2.1 hJ.2.2.1 hz0
    have hb := blank_in (h.resolve_left hz0) h3
    rw [h2]
    simp [hb]
/-- the shape of what a blank at the end becomes -/
theorem e_blank (hW : 4 ≤ W) (hz : zs[k]? = some z) (hI : EI W eol zs k its) (hJ : EJ W eol z its its' start) (hge : ¬ start ≤ (z.length : Int) - 1 - W) (hzl : z.length ≤ 60) (hz0 : (z.length : Int) ≠ 0) (heol : eol.length ≤ 3)
    (h : (occurrences (Str.ofString " \t") (Txt.item z (-1)) 0 (Str.ofString " \t").length 1).isEmpty = false) {q : Str} (hq : ∀ c, toL (Txt.item z (-1)) = [c] → toL q = if ((toL z).drop start.toNat).length + 2 ≤ W.toNat then quoteL c
      else if ((toL z).drop start.toNat).length + 1 = W.toNat then [c] ++ ([61] ++ toL eol) else ([61] ++ toL eol) ++ quoteL c) :
    EI W eol zs (k + 1) (its' ++ [Txt.slice z (some start) (some (-1)) ++ q]) := by
  obtain ⟨c, _, h2, h3, h4, _⟩ := last_of hJ.2.1 hJ.2.2.1 hz0
  have hb : isBlank c = true := blank_in h h3
  have hq' := hq c h3
  have hel := toL_length eol
  have hql := quoteL_len c
  refine e_end hW hz hI hJ hge hzl ?_ ?_
  · rw [toL_append, h4, hq']
    unfold tailR
    rw [h2]
    dsimp only
    rw [if_pos hb]
    split
    · rfl
    · split <;> rfl
  · refine xl (toL_append _ _) ?_
    have hd := drop_short (start := start) hzl
    rw [h4, List.length_append, hq']
    split
    · omega
    · split
      · simp only [List.length_append, List.length_cons, List.length_nil]; omega
      · simp only [List.length_append, List.length_cons, List.length_nil]; omega
theorem e_q1 (hW : 4 ≤ W) (hz : zs[k]? = some z) (hI : EI W eol zs k its) (hJ : EJ W eol z its its' start) (hge : ¬ start ≤ (z.length : Int) - 1 - W) (hzl : z.length ≤ 60) (hz0 : (z.length : Int) ≠ 0) (heol : eol.length ≤ 3)
    (h : (occurrences (Str.ofString " \t") (Txt.item z (-1)) 0 (Str.ofString " \t").length 1).isEmpty = false) (hr : 3 ≤ start - ((z.length : Int) - 1 - W)) {y : Str} (hy : y = ofL (quoteL ((toL (Txt.item z (-1))).headD 0))) :
    EI W eol zs (k + 1) (its' ++ [Txt.slice z (some start) (some (-1)) ++ y]) := by
  subst hy
  refine e_blank hW hz hI hJ hge hzl hz0 heol h fun c hc => ?_
  have hlen := drop_len (z := z) hJ.2.1
  have := hJ.2.2.1
  rw [if_pos (by omega), toL_ofL, hc]; rfl
theorem e_q2 (hsb : toL sb = 61 :: toL eol) (hW : 4 ≤ W) (hz : zs[k]? = some z) (hI : EI W eol zs k its) (hJ : EJ W eol z its its' start) (hge : ¬ start ≤ (z.length : Int) - 1 - W) (hzl : z.length ≤ 60) (hz0 : (z.length : Int) ≠ 0) (heol : eol.length ≤ 3)
    (h : (occurrences (Str.ofString " \t") (Txt.item z (-1)) 0 (Str.ofString " \t").length 1).isEmpty = false) (hr : start - ((z.length : Int) - 1 - W) = 2) :
    EI W eol zs (k + 1) (its' ++ [Txt.slice z (some start) (some (-1)) ++ (Txt.item z (-1) ++ sb)]) := by
  refine e_blank hW hz hI hJ hge hzl hz0 heol h fun c hc => ?_
  have hlen := drop_len (z := z) hJ.2.1
  have := hJ.2.2.1
  rw [if_neg (by omega), if_pos (by omega), toL_append, hc, hsb]; rfl
theorem e_q3 (hsb : toL sb = 61 :: toL eol) (hW : 4 ≤ W) (hz : zs[k]? = some z) (hI : EI W eol zs k its) (hJ : EJ W eol z its its' start) (hge : ¬ start ≤ (z.length : Int) - 1 - W) (hzl : z.length ≤ 60) (hz0 : (z.length : Int) ≠ 0) (heol : eol.length ≤ 3)
    (h : (occurrences (Str.ofString " \t") (Txt.item z (-1)) 0 (Str.ofString " \t").length 1).isEmpty = false) (hr : ¬ 3 ≤ start - ((z.length : Int) - 1 - W)) (hr2 : start - ((z.length : Int) - 1 - W) ≠ 2) {y : Str} (hy : y = ofL (quoteL ((toL (Txt.item z (-1))).headD 0))) :
    EI W eol zs (k + 1) (its' ++ [Txt.slice z (some start) (some (-1)) ++ (sb ++ y)]) := by
  subst hy
  refine e_blank hW hz hI hJ hge hzl hz0 heol h fun c hc => ?_
  have hlen := drop_len (z := z) hJ.2.1
  have := hJ.2.2.1
  rw [if_neg (by omega), if_neg (by omega), toL_append, toL_ofL, hc, hsb]; rfl
/-- what quote is asked -/
theorem q_ask (h0 : 0 ≤ start) (h1 : start = 0 ∨ start < (z.length : Int)) (hz0 : (z.length : Int) ≠ 0) (h : (occurrences (Str.ofString " \t") (Txt.item z (-1)) 0 (Str.ofString " \t").length 1).isEmpty = false) : toL (Txt.item z (-1)) = [32] ∨ toL (Txt.item z (-1)) = [9] := by
  obtain ⟨c, _, _, h3, _, _⟩ := last_of h0 h1 hz0
  have hb : isBlank c = true := blank_in h h3
  unfold isBlank at hb
  simp only [Bool.or_eq_true, beq_iff_eq] at hb
  rcases hb with rfl | rfl
  · exact .inl h3
  · exact .inr h3

/-! behind the lines -/
variable {b body : Str}
theorem item_end {x : Str} (h : 1 ≤ x.length) : ∃ c, (toL x).getLast? = some c ∧ Txt.item x (-1) = ⟨#[c]⟩ := by
  have hl := toL_length x
  have hne : toL x ≠ [] := by intro e; rw [e] at hl; simp at hl; omega
  exact ⟨_, List.getLast?_eq_some_getLast hne, toL_inj (item_last (List.getLast?_eq_some_getLast hne))⟩
theorem ends_in (hl : 1 ≤ b.length) {e : Bool} (h : (occurrences (Str.ofString "\r\n") (Txt.item b (-1)) 0 (Str.ofString "\r\n").length 1).isEmpty = e) : endsOpen (toL b) = !e := by
  obtain ⟨c, hc, e1⟩ := item_end hl
  have h2 := found_one (Str.ofString "\r\n") c
  rw [← e1, h] at h2
  rw [h2]
  have : (Str.ofString "\r\n").cps.toList = [13, 10] := by decide +kernel
  rw [this]
  unfold endsOpen
  rw [hc, Bool.eq_iff_iff]
  simp
theorem body_len (h : (body.length : Int) ≠ 0) : 1 ≤ (ofL (tr (toL body))).length := by
  have := tr_ge (toL body)
  rw [toL_length] at this
  rw [ofL_length]; omega
theorem e_all (hsg : Signs (toL body)) (hzs : zs = Txt.lines (ofL (tr (toL body)))) : zs.map toL = pl (tr (toL body)) := by
  rw [hzs]; exact lines_pl (ofL (tr (toL body))) (Signs.tr hsg).breaks
theorem e_fin (hsg : Signs (toL body)) (hzs : zs = Txt.lines (ofL (tr (toL body)))) (hI : EI W eol zs zs.length its) (hl : (body.length : Int) ≠ 0)
    (h : (occurrences (Str.ofString "\r\n") (Txt.item (ofL (tr (toL body))) (-1)) 0 (Str.ofString "\r\n").length 1).isEmpty = true) : Txt.join eol its = ofL (encT W.toNat (toL eol) (toL body)) := by
  have he := ends_in (body_len hl) h
  rw [toL_ofL] at he
  have h1 := hI.1
  rw [e_all hsg hzs, List.take_of_length_le (by rw [← e_all hsg hzs, List.length_map]; omega)] at h1
  refine toL_inj ?_
  show toL (glued eol its) = _
  rw [glued_eq_join, toL_join, h1, toL_ofL]
  unfold encT encAll
  rw [← chunks_lns, he]; simp
theorem e_fin' (hsg : Signs (toL body)) (hzs : zs = Txt.lines (ofL (tr (toL body)))) (hI : EI W eol zs zs.length its) (hl : (body.length : Int) ≠ 0)
    (h : (occurrences (Str.ofString "\r\n") (Txt.item (ofL (tr (toL body))) (-1)) 0 (Str.ofString "\r\n").length 1).isEmpty = false) : Txt.join eol (its ++ [Str.ofString ""]) = ofL (encT W.toNat (toL eol) (toL body)) := by
  have he := ends_in (body_len hl) h
  rw [toL_ofL] at he
  have h1 := hI.1
  rw [e_all hsg hzs, List.take_of_length_le (by rw [← e_all hsg hzs, List.length_map]; omega)] at h1
  refine toL_inj ?_
  show toL (glued eol (its ++ [Str.ofString ""])) = _
  rw [glued_eq_join, toL_join, List.map_append, h1, toL_ofL, List.map_cons, t_nil]
  unfold encT encAll
  rw [← chunks_lns, he]; simp
theorem e_empty (hl : (body.length : Int) = 0) : body = ofL (encT W.toNat (toL eol) (toL body)) := by
  have : toL body = [] := List.length_eq_zero_iff.mp (by rw [toL_length]; omega)
  refine toL_inj ?_
  rw [toL_ofL, this]
  unfold encT encAll lns
  simp [tr, encR_nil, joinL]
end
end Mine
end TEnc
section TFrm
open PySem PySem.W PySem.Calls PyProof.Rows
set_option maxRecDepth 100000
namespace Mine
theorem known_kst {m : Str → Option Value} {ps : List (Str × Value)} (h : KnownAt m ps) : kstB m ps = m := by
  funext y
  exact kstB_eq h.all fun _ => rfl
theorem fr_kst {h₀ h : Heap} {L : Addr} {m : Str → Option Value} {ps : List (Str × Value)} {x : Str} {v : Value} (hk : KnownAt m ps) (F : Fr h₀ L h (fun y => if y = x then some v else m y)) : Fr h₀ L h (kstB m ((x, v) :: ps)) := by
  show Fr h₀ L h (fun y => if y = x then some v else kstB m ps y)
  rw [known_kst hk]; exact F
theorem some_of {a : Option Value} {v w : Value} (h1 : a = some w) (h2 : w = v) : a = some v := h2 ▸ h1
/-- a loop's state: what the ledger and the named locals hold -/
def KF {σ : Type} (Led : σ → List (Addr × Obj)) (ps : σ → List (Str × Value)) (P : σ → Prop) (m : Str → Option Value) (nx : List (Addr × Obj)) : Prop := ∃ c : σ, nx = Led c ∧ KnownAt m (ps c) ∧ P c
section
variable {prog : Program} {w : World} {A : Around} {E : Value → Shared → Prop} {s : Shared} {env : Env} {h₀ : Heap} {x : Str} {body : List Stmt} {Q : Flow → Shared → Prop}
theorem kF_end {σ : Type} {Led : σ → List (Addr × Obj)} {ps : σ → List (Str × Value)} {P : σ → Prop} (c : σ) {L : Addr} {m' : Str → Option Value} {own news' : List (Addr × Obj)} {adr : List Addr} {s₁ : Shared} {h' : Heap} {tk : Nat}
    (F : Fr h₀ L h' m') (N : News h₀ L h' news') (hn : ∀ p ∈ Led c, p ∈ news') (ho : ∀ p ∈ own, p ∈ news') (ha : (Led c).map (·.1) = adr) (hk : KnownAt m' (ps c)) (hp : P c) :
    InvEndN h₀ L (KF Led ps P) own adr s₁ { s₁ with heap := h', toks := tk } := InvEndN.intro F N ⟨c, rfl, hk, hp⟩ ha hn ho
theorem loopF_txt {σ : Type} {l : Addr} {vs : List Value} {zs : List Str} {nn : Nat} {m₀ : Str → Option Value} (Led : σ → List (Addr × Obj)) (ps : σ → List (Str × Value)) (P : Nat → σ → Prop) (c₀ : σ)
    (hh : A.handled = none) (hl : ∀ c : σ, (l, PySem.W.listOf vs.toArray nn) ∈ Led c) (hi : StrsAre vs zs) (F : Fr h₀ env.locals s.heap m₀) (N : News h₀ env.locals s.heap (Led c₀)) (hk : KnownAt m₀ (ps c₀)) (hp : P 0 c₀)
    (turn : ∀ (c : σ) i z t (u : Str → Option Value) h tk own, zs[i]? = some z → OwnOff own ((Led c₀).map (·.1)) → P i c →
      Fr h₀ env.locals h (kstB u ((x, .str z t) :: ps c)) → News h₀ env.locals h (Led c ++ own) →
      wpAny (model prog w) A (execs body env) (InvPostN h₀ env.locals (KF Led ps (P (i + 1))) own ((Led c₀).map (·.1)) { s with heap := h, toks := tk } Q) E { s with heap := h, toks := tk })
    (done : ∀ (c : σ) (u : Str → Option Value) h tk, P zs.length c → Fr h₀ env.locals h (kstB u (ps c)) → News h₀ env.locals h (Led c) → Q .next { s with heap := h, toks := tk }) :
    wpAny (model prog w) A (pyIter (.ref l)) (fun it s₂ => LoopAtV prog w A h₀ env x body Q E it s₂) E s := by
  refine iter_txtNL (fun i m nx => KF Led ps (P i) m nx) hh (hl c₀) hi F N ⟨c₀, rfl, hk, hp⟩ ?_ ?_
  · rintro i z t m₁ nx h tk own hn _ hoff _ ⟨c, rfl, hk', hp'⟩ F₁ N₁
    refine wpAny_mono (turn c i z t m₁ h tk own hn hoff hp' (fr_kst hk' F₁) N₁) (fun f s₂ p => ?_) fun _ _ x => x
    have up : InvEndN h₀ env.locals (KF Led ps (P (i + 1))) own ((Led c₀).map (·.1)) { s with heap := h, toks := tk } s₂ →
        InvEndN h₀ env.locals (fun m' nx => (l, PySem.W.listOf vs.toArray nn) ∈ nx ∧ KF Led ps (P (i + 1)) m' nx) own ((Led c₀).map (·.1)) { s with heap := h, toks := tk } s₂ := by
      rintro ⟨h', tk', m', news', nx', e', F', N', hn', ho', ha, hS⟩
      refine ⟨h', tk', m', news', nx', e', F', N', hn', ho', ha, ?_, hS⟩
      obtain ⟨c', rfl, _⟩ := hS
      exact hl c'
    cases f with
    | ret v => exact p
    | brk => exact p
    | next => exact up p
    | cont => exact up p
  · rintro m₁ nx h tk _ ⟨c, rfl, hk', hp'⟩ F₁ N₁
    exact done c m₁ h tk hp' (fr_known F₁ hk') N₁

def KwEnd {σ : Type} (h₀ : Heap) (L : Addr) (s : Shared) (Led : σ → List (Addr × Obj)) (ps : σ → List (Str × Value)) (P : σ → Prop) (μ : σ → Nat) (c : σ) (s₂ : Shared) : Prop :=
  ∃ (c' : σ) (h' : Heap) (tk : Nat) (m' : Str → Option Value) (news' : List (Addr × Obj)), s₂ = { s with heap := h', toks := tk } ∧ Fr h₀ L h' m' ∧ News h₀ L h' news' ∧ (∀ p ∈ Led c', p ∈ news') ∧ KnownAt m' (ps c') ∧ P c' ∧ μ c' < μ c
def KwPost {σ : Type} (h₀ : Heap) (L : Addr) (s : Shared) (Led : σ → List (Addr × Obj)) (ps : σ → List (Str × Value)) (P : σ → Prop) (μ : σ → Nat) (Q : Flow → Shared → Prop) (c : σ) (f : Flow) (s₂ : Shared) : Prop :=
  match f with
  | .ret v => Q (.ret v) s₂
  | .brk => Q .next s₂
  | _ => KwEnd h₀ L s Led ps P μ c s₂
theorem kw_end {σ : Type} {h₀ : Heap} {L : Addr} {s : Shared} {Led : σ → List (Addr × Obj)} {ps : σ → List (Str × Value)} {P : σ → Prop} {m' : Str → Option Value} {μ : σ → Nat} {c : σ} {h' : Heap} {tk : Nat} {news' : List (Addr × Obj)} (c' : σ)
    (F : Fr h₀ L h' m') (N : News h₀ L h' news') (hn : ∀ p ∈ Led c', p ∈ news') (hk : KnownAt m' (ps c')) (hp : P c') (hm : μ c' < μ c) :
    KwEnd h₀ L s Led ps P μ c { s with heap := h', toks := tk } := ⟨c', h', tk, m', news', rfl, F, N, hn, hk, hp, hm⟩
theorem whileF {σ : Type} {L : Addr} {test : Expr} {pos : Pos} {m₀ : Str → Option Value} (Led : σ → List (Addr × Obj)) (ps : σ → List (Str × Value)) (P : σ → Prop) (μ : σ → Nat) (c₀ : σ)
    (F : Fr h₀ L s.heap m₀) (N : News h₀ L s.heap (Led c₀)) (hk : KnownAt m₀ (ps c₀)) (hp : P c₀)
    (turn : ∀ (c : σ) (u : Str → Option Value) h tk, P c → Fr h₀ L h (kstB u (ps c)) → News h₀ L h (Led c) →
      wpAny (model prog w) A (isTrue test env (eval test env)) (fun b s₂ =>
        if b = true then wpAny (model prog w) A (execs body env) (KwPost h₀ L s Led ps P μ Q c) E s₂ else Q .next s₂) E { s with heap := h, toks := tk })
    (hE : PassesOwn (model prog w) A env E := by passes_own) :
    wpAny (model prog w) A (exec (.While test body [] pos) env) Q E s := by
  refine While_inv2 (fun n m nx => ∃ c : σ, nx = Led c ∧ μ c = n ∧ KnownAt m (ps c) ∧ P c) F N ⟨c₀, rfl, rfl, hk, hp⟩ ?_ hE
  rintro n m₁ nx h tk F₁ N₁ ⟨c, hnx, hsz, hk', hp'⟩
  rw [hnx] at N₁
  rw [← hsz]
  refine wpAny_mono (turn c m₁ h tk hp' (fr_known F₁ hk') N₁) (fun b s₂ p => ?_) fun _ _ x => x
  cases b with
  | false => simpa using p
  | true =>
    simp only [if_true] at p ⊢
    refine wpAny_mono p (fun f s₃ q => ?_) fun _ _ x => x
    cases f with
    | ret v => exact q
    | brk => exact q
    | next =>
      obtain ⟨c', h', tk', m', news', rfl, F', N', hn, hk9, hp9, hm9⟩ := q
      exact ⟨h', tk', m', Led c', μ c', rfl, F', fun p hp => N' p (hn p hp), hm9, c', rfl, rfl, hk9, hp9⟩
    | cont =>
      obtain ⟨c', h', tk', m', news', rfl, F', N', hn, hk9, hp9, hm9⟩ := q
      exact ⟨h', tk', m', Led c', μ c', rfl, F', fun p hp => N' p (hn p hp), hm9, c', rfl, rfl, hk9, hp9⟩
end
end Mine
end TFrm
section TFrm2
open PySem PySem.W PySem.Calls PyProof.Rows
set_option maxRecDepth 100000
namespace Mine
section
variable {prog : Program} {w : World} {A : Around} {E : Value → Shared → Prop} {s : Shared} {env : Env} {h₀ : Heap} {x : Str} {body : List Stmt} {Q : Flow → Shared → Prop}
theorem loopF_range {σ : Type} {r : Addr} {a₀ b₀ : Int} {t₀ u₀ v₀ : Tok} {n : Nat} {m₀ : Str → Option Value} (Led : σ → List (Addr × Obj)) (ps : σ → List (Str × Value)) (P : Nat → σ → Prop) (c₀ : σ)
    (hh : A.handled = none) (hr : IsRange s.heap r a₀ b₀ 1 t₀ u₀ v₀) (hsmall : Builtin.Range.small a₀ b₀ 1 = true) (hn : Builtin.Range.rangeSize a₀ b₀ 1 = (n : Int)) (F : Fr h₀ env.locals s.heap m₀) (N : News h₀ env.locals s.heap (Led c₀)) (hk : KnownAt m₀ (ps c₀)) (hp : P 0 c₀)
    (turn : ∀ (c : σ) (i : Nat) t (u : Str → Option Value) h tk own, i < n → OwnOff own ((Led c₀).map (·.1)) → P i c →
      Fr h₀ env.locals h (kstB u ((x, .int (a₀ + (i : Int)) t) :: ps c)) → News h₀ env.locals h (Led c ++ own) →
      wpAny (model prog w) A (execs body env) (InvPostN h₀ env.locals (KF Led ps (P (i + 1))) own ((Led c₀).map (·.1)) { s with heap := h, toks := tk } Q) E { s with heap := h, toks := tk })
    (done : ∀ (c : σ) (u : Str → Option Value) h tk, P n c → Fr h₀ env.locals h (kstB u (ps c)) → News h₀ env.locals h (Led c) → Q .next { s with heap := h, toks := tk }) :
    wpAny (model prog w) A (pyIter (.ref r)) (fun it s₂ => LoopAtV prog w A h₀ env x body Q E it s₂) E s := by
  refine wpAny_pyIter_range hr hsmall ?_
  have W : Walks prog w A s.heap.objs.size [s.heap.objs.size] [s.heap.objs.size] n (fun i v => i < n ∧ ∃ t, v = .int (a₀ + i * 1) t)
      (fun i h => IsRangeIter h s.heap.objs.size (a₀ + (i : Nat) * 1) ((n : Int) - (i : Nat)) 1) := (Walks.range hh _ a₀ 1 n).bound
  refine loop_invN (fun i m nx => KF Led ps (P i) m nx) W ?_ ?_ ?_ ?_ (by show IsRangeIter _ _ _ _ _; rw [hn]; simpa using Heap.get?_push_size _ rfl) (F.push _) (fun p hp => ⟨Heap.get?_push_of_some _ (N p hp).1, (N p hp).2⟩) ⟨c₀, rfl, hk, hp⟩ ?_ ?_
  · intro hm
    exact absurd F.ns.lt ((List.mem_singleton.mp hm) ▸ Nat.lt_irrefl _)
  · intro b hb
    rw [List.mem_singleton.mp hb]
    exact next_is_new F
  · intro p hp hI
    exact absurd (Heap.lt_size (N p hp).1) ((List.mem_singleton.mp hI) ▸ Nat.lt_irrefl _)
  · intro p hp hI
    exact absurd (Heap.lt_size (N p hp).1) ((List.mem_singleton.mp hI) ▸ Nat.lt_irrefl _)
  · rintro i v m₁ nx h tk own hi ⟨_, t, rfl⟩ _ hoff ⟨c, rfl, hk', hp'⟩ F₁ N₁
    have e1 : a₀ + (i : Int) * 1 = a₀ + (i : Int) := by omega
    rw [e1] at F₁
    exact turn c i t m₁ h tk own hi hoff hp' (fr_kst hk' F₁) N₁
  · rintro m₁ nx h tk ⟨c, rfl, hk', hp'⟩ F₁ N₁
    exact done c m₁ h tk hp' (fr_known F₁ hk') N₁
end
end Mine
end TFrm2
section TDue
open PySem PySem.W PySem.Calls PyProof.Rows PySem.StrLaws PySem.Builtin PySem.Builtin.Str
set_option maxRecDepth 100000
namespace Mine
theorem o_crlf : Str.ofString "\r\n" = crlf := by decide +kernel
theorem o_lf : Str.ofString "\n" = ⟨#[10]⟩ := by decide +kernel
theorem o_cr : Str.ofString "\r" = ⟨#[13]⟩ := by decide +kernel
/-- the law's first and second replacing -/
def r1 (x : Str) : Str := Txt.replace x (Str.ofString "\r\n") (Str.ofString "\n")
def r2 (x : Str) : Str := Txt.replace (r1 x) (Str.ofString "\r") (Str.ofString "\n")
theorem rep2_len : ∀ l, (rep2 l).length ≤ l.length := by
  refine two_cases _ (Nat.le_refl _) (fun r ih => ?_) (fun c r h ih => ?_)
  · rw [rep2_two]; simp only [List.length_cons]; omega
  · rw [rep2_other h]; simp only [List.length_cons]; omega
theorem r1_len (x : Str) : (r1 x).length ≤ x.length := by
  unfold r1
  rw [o_crlf, o_lf, ← toL_length, ← toL_length, replace_2]
  exact rep2_len _
theorem r2_len (x : Str) : (r2 x).length ≤ x.length := by
  unfold r2
  rw [o_cr, o_lf, ← toL_length, replace_1, joinL_cut1, List.length_map, toL_length]
  exact r1_len x
theorem r2_lines (x : Str) : (Txt.split (r2 x) (Str.ofString "\n")).map toL = lns (toL x) := by
  unfold r2 r1
  rw [o_crlf, o_cr, o_lf]
  exact law_lines x
end Mine
namespace Mine
theorem replaceK {prog : Program} {w : World} {A : Around} {E : Value → Shared → Prop} {s : Shared} {x y z : Str} {t u : Tok} {Q : Value → Shared → Prop} (hx : x.length ≤ 1000) (hz : z.length ≤ 14) (h0 : @LE.le Nat _ 1 u) (h1 : 1 ≤ s.toks)
    (hyz : (y == z) = false) (h : ∀ t' k, 1 ≤ k → Q (.str (Txt.replace x y z) t') { s with toks := k }) :
    wpAny (model prog w) A (call (.builtin "str.replace") [.str x t, .str y u, .str z (u + 1 : Nat)]) Q E s :=
  wpAny_later1 h1 (SC.replaceW (by show @Ne Nat _ _; omega) (by show @Ne Nat _ _; omega) (by show @Ne Nat _ _; omega) hyz (by omega) hz (fun t' k hk => h t' k hk))
end Mine
namespace Mine
theorem lenK {prog : Program} {w : World} {A : Around} {E : Value → Shared → Prop} {s : Shared} {h₀ : Heap} {L l : Addr} {news : List (Addr × Obj)} {vs : List Value} {zs : List Str} {n : Nat} {Q : Value → Shared → Prop} (N : News h₀ L s.heap news) (ha : (l, PySem.W.listOf vs.toArray n) ∈ news) (hi : StrsAre vs zs) (hz : zs.length ≤ 1000)
    (h : ∀ t k, Q (.int (zs.length : Int) t) { s with toks := k }) : wpAny (model prog w) A (call (.builtin "len") [.ref l]) Q E s := by
  have e : vs.toArray.size = zs.length := by simp [strs_len hi]
  refine call_len_list (items := vs.toArray) ⟨_, (N _ ha).1, rfl, n, rfl⟩ (by rw [e]; omega) ?_
  rw [e]; exact h _ _
end Mine
namespace Mine
theorem itemsAfter_snoc (w : Int) (e : List (List Nat)) (l : List Nat) : ∀ ls, itemsAfter w e (ls ++ [l]) = itemsAfter w e ls ++ (e ++ written w e l)
  | [] => by simp [itemsAfter]
  | x :: r => by
    rw [List.cons_append]
    show e ++ written w e x ++ itemsAfter w e (r ++ [l]) = e ++ written w e x ++ itemsAfter w e r ++ (e ++ written w e l)
    rw [itemsAfter_snoc w e l r]
    simp only [List.append_assoc]
theorem itemsOf_snoc (w : Int) (e : List (List Nat)) (l : List Nat) (ls : List (List Nat)) : itemsOf w e (ls ++ [l]) = itemsOf w e ls ++ ((if ls = [] then [] else e) ++ written w e l) := by
  cases ls with
  | nil => simp [itemsOf, itemsAfter]
  | cons x r =>
    rw [List.cons_append]
    show written w e x ++ itemsAfter w e (r ++ [l]) = written w e x ++ itemsAfter w e r ++ _
    rw [itemsAfter_snoc, if_neg (by simp), List.append_assoc]
theorem fold_len {w : Int} {e : List (List Nat)} : ∀ (r : List Nat) (st : List (List Nat) × Int × Int), (r.foldl (wStep w e) st).1.length ≤ st.1.length + (e.length + 2) * r.length
  | [], _ => by simp
  | c :: r, st => by
    rw [List.foldl_cons]
    have ih := fold_len (w := w) (e := e) r (wStep w e st c)
    have h1 : (wStep w e st c).1.length ≤ st.1.length + (e.length + 2) := by
      unfold wStep
      split
      · simp only [List.length_append, List.length_cons, List.length_nil]; omega
      · simp only [List.length_append, List.length_cons, List.length_nil]; omega
    rw [List.length_cons, Nat.mul_succ]; omega
theorem written_len (w : Int) (e : List (List Nat)) (line : List Nat) : (written w e line).length ≤ (e.length + 2) * (line.length + 1) := by
  have h := fold_len (w := w) (e := e) line ([], 0, (line.length : Int) + 2 * (line.count 61 : Int))
  have h2 : (wLoop w e line).1.length ≤ (e.length + 2) * line.length := by unfold wLoop; simpa using h
  rw [Nat.mul_succ]
  unfold written wFin
  split
  · split
    · split
      · simp only [List.length_append, List.length_cons, List.length_nil]; omega
      · split
        · simp only [List.length_append, List.length_cons, List.length_nil, List.length_dropLast]; omega
        · simp only [List.length_append, List.length_cons, List.length_nil, List.length_dropLast]; omega
    · omega
  · omega
/-- the items behind k of the lines -/
def DI (W : Int) (q : Nat) (ahead : Str) (zs : List Str) (k : Nat) (its : List Str) : Prop := its.map toL = singles (toL ahead) ++ itemsOf W (marksI q) ((zs.map toL).take k) ∧ its.length ≤ 5 + 200 * k
section
variable {W : Int} {q k : Nat} {ahead z : Str} {zs its rs ms : List Str}
theorem signs_toL (x : Str) : (signs x).map toL = singles (toL x) := by
  show (x.cps.toList.map fun n => (⟨#[n]⟩ : Str)).map toL = _
  rw [List.map_map]; rfl
theorem di_start (ha : ahead.length ≤ 5) : DI W q ahead zs 0 (signs ahead) := by
  refine ⟨?_, ?_⟩
  · rw [signs_toL, List.take_zero]
    rw [show itemsOf W (marksI q) [] = [] from rfl, List.append_nil]
  · have := congrArg List.length (signs_toL ahead)
    rw [List.length_map] at this
    rw [this]; unfold singles
    rw [List.length_map, toL_length]; omega
theorem rep_marks (q : Nat) : (List.replicate q (Str.ofString "\"")).map toL = marksI q := by
  rw [List.map_replicate, t_mark]; rfl
theorem di_more (hq : q ≤ 3) (hz : zs[k]? = some z) (hzl : z.length ≤ 20) (h : DI W q ahead zs k its) (hr : rs = (written W (marksI q) (toL z)).map ofL) (hm : ms.map toL = if k = 0 then [] else marksI q) :
    DI W q ahead zs (k + 1) (its ++ (ms ++ rs)) ∧ rs.length ≤ 120 ∧ ms.length ≤ 3 := by
  have hml : ms.length ≤ 3 := by
    have := congrArg List.length hm
    rw [List.length_map] at this
    rw [this]
    split
    · simp
    · unfold marksI; rw [List.length_replicate]; exact hq
  have hrl : rs.length ≤ 120 := by
    rw [hr, List.length_map]
    have := written_len W (marksI q) (toL z)
    have h2 : (marksI q).length = q := by unfold marksI; rw [List.length_replicate]
    rw [h2, toL_length] at this
    have h3 : (q + 2) * (z.length + 1) ≤ 5 * 21 := Nat.mul_le_mul (by omega) (by omega)
    omega
  refine ⟨⟨?_, ?_⟩, hrl, hml⟩
  · have hs : (zs.map toL).take (k + 1) = (zs.map toL).take k ++ [toL z] := by
      rw [List.take_add_one, List.getElem?_map, hz]; rfl
    have hlt := (List.getElem?_eq_some_iff.mp hz).1
    have he : ((zs.map toL).take k = []) ↔ k = 0 := by
      rw [List.take_eq_nil_iff]
      constructor
      · rintro (h | h)
        · exact h
        · have := congrArg List.length h
          rw [List.length_map, List.length_nil] at this; omega
      · exact fun h => .inl h
    have hrt : rs.map toL = written W (marksI q) (toL z) := by
      rw [hr, List.map_map]
      conv => rhs; rw [← List.map_id (written W (marksI q) (toL z))]
      exact List.map_congr_left fun x _ => toL_ofL x
    rw [hs, itemsOf_snoc, List.map_append, List.map_append, h.1, hrt, hm, List.append_assoc]
    by_cases hk : k = 0
    · rw [if_pos hk, if_pos (he.mpr hk)]
    · rw [if_neg hk, if_neg (fun x => hk (he.mp x))]
  · have := h.2
    rw [List.length_append, List.length_append]; omega
end
end Mine
end TDue
section TDue2
open PySem PySem.W PySem.Calls PyProof.Rows PyProof.V PySem.Spec
set_option maxRecDepth 100000
namespace Mine
section
variable {w : Int} {e : List (List Nat)} {P : List Nat → Prop}
theorem wStep_P (h61 : P [61]) (he : ∀ x ∈ e, P x) {st : List (List Nat) × Int × Int} (h : ∀ x ∈ st.1, P x) {c : Nat} (hc : P (tok c)) : ∀ x ∈ (wStep w e st c).1, P x := by
  unfold wStep
  split
  · intro x hx
    simp only [List.mem_append, List.mem_singleton] at hx
    rcases hx with (hx | rfl | hx) | rfl
    · exact h x hx
    · exact h61
    · exact he x hx
    · exact hc
  · intro x hx
    simp only [List.mem_append, List.mem_singleton] at hx
    rcases hx with hx | rfl
    · exact h x hx
    · exact hc
theorem fold_P (h61 : P [61]) (he : ∀ x ∈ e, P x) : ∀ (r : List Nat) (st : List (List Nat) × Int × Int), (∀ c ∈ r, P (tok c)) → (∀ x ∈ st.1, P x) → ∀ x ∈ (r.foldl (wStep w e) st).1, P x
  | [], _, _, h => h
  | c :: r, st, hr, h => fold_P h61 he r _ (fun d hd => hr d (.tail _ hd)) (wStep_P h61 he h (hr c (.head _)))
theorem wFin_P (h61 : P [61]) (hq : ∀ c, P (quoteL c)) (he : ∀ x ∈ e, P x) {last : Option Nat} {items : List (List Nat)} {used : Int} (h : ∀ x ∈ items, P x) : ∀ x ∈ wFin w e last items used, P x := by
  have hd : ∀ x ∈ items.dropLast, P x := fun x hx => h x (List.dropLast_sublist items |>.subset hx)
  unfold wFin
  split
  · split
    · split
      · intro x hx
        simp only [List.mem_append, List.mem_singleton] at hx
        rcases hx with hx | rfl | hx
        · exact h x hx
        · exact h61
        · exact he x hx
      · intro x hx
        simp only [List.mem_append, List.mem_singleton] at hx
        rcases hx with hx | rfl
        · split at hx
          · simp only [List.mem_append, List.mem_singleton] at hx
            rcases hx with hx | rfl | hx
            · exact hd x hx
            · exact h61
            · exact he x hx
          · exact hd x hx
        · exact hq _
    · exact h
  · exact h
theorem written_P (h61 : P [61]) (hq : ∀ c, P (quoteL c)) (he : ∀ x ∈ e, P x) {line : List Nat} (hl : ∀ c ∈ line, P (tok c)) : ∀ x ∈ written w e line, P x :=
  wFin_P h61 hq he (fold_P h61 he line _ hl (by simp))
end
/-- a sign of the items -/
def Low (x : List Nat) : Prop := x.length ≤ 3 ∧ ∀ c ∈ x, c < 0x110000
theorem low_tok {c : Nat} (h : c < 0x110000) : Low (tok c) := by
  unfold tok Low
  split
  · exact ⟨by decide, by decide⟩
  · exact ⟨by simp, fun d hd => by rw [List.mem_singleton.mp hd]; exact h⟩
theorem low_quote (c : Nat) : Low (quoteL c) := by
  unfold quoteL Low
  split
  · exact ⟨by decide, by decide⟩
  · exact ⟨by decide, by decide⟩
theorem low_marks {q : Nat} : ∀ x ∈ marksI q, Low x := fun x hx => by
  rw [(List.mem_replicate.mp hx).2]
  exact ⟨by decide, by decide⟩
theorem written_low {w : Int} {q : Nat} {line : List Nat} (hl : ∀ c ∈ line, c < 0x110000) : ∀ x ∈ written w (marksI q) line, Low x :=
  written_P ⟨by decide, by decide⟩ low_quote low_marks fun c hc => low_tok (hl c hc)
/-- a text all of whose signs are signs -/
def LowS (x : Str) : Prop := Low (toL x)
theorem strOk_low {x : Str} (h : LowS x) : PyData.strOk x = true := by
  unfold PyData.strOk
  rw [Array.all_eq_true']
  intro c hc
  exact decide_eq_true (h.2 c (Array.mem_toList_iff.mpr hc))
theorem strs_canLay : ∀ {zs : List Str}, (∀ z ∈ zs, PyData.strOk z = true) → PyData.canLayAll0 (zs.map PyData.str) = true
  | [], _ => rfl
  | z :: r, h => by
    simp only [List.map_cons, PyData.canLayAll0, PyData.canLay0, h z (.head _), Bool.true_and]
    exact strs_canLay fun y hy => h y (.tail _ hy)
theorem strs_depth : ∀ zs : List Str, PyData.depthAll (zs.map PyData.str) = 0
  | [] => rfl
  | _ :: r => by simp [PyData.depthAll, PyData.depth, strs_depth r]
theorem strs_shaped {zs : List Str} (h : ∀ z ∈ zs, PyData.strOk z = true) : SeqAt.shaped (.list (zs.map PyData.str)) = true := by
  simp [SeqAt.shaped, PyData.canLay0, PyData.depth, strs_canLay h, strs_depth]
theorem strs_sameAll : ∀ ns ms : List Str, PySem.Spec.sameAll (ns.map PyData.str) (ms.map PyData.str) = decide (ns = ms)
  | [], [] => by simp [PySem.Spec.sameAll]
  | [], _ :: _ => by simp [PySem.Spec.sameAll]
  | _ :: _, [] => by simp [PySem.Spec.sameAll]
  | a :: r, b :: t => by
    simp only [List.map_cons, PySem.Spec.sameAll, PySem.Spec.same, strs_sameAll r t]
    by_cases h : a = b <;> by_cases h' : r = t <;> simp [h, h']
theorem strs_same (ns ms : List Str) : PySem.Spec.same (.list (ns.map PyData.str)) (.list (ms.map PyData.str)) = decide (ns = ms) := by
  simp only [PySem.Spec.same]; exact strs_sameAll ns ms
section
variable {prog : Program} {w : World} {A : Around} {E : Value → Shared → Prop} {s : Shared} {h₀ : Heap} {L l a b : Addr} {m : Str → Option Value} {news : List (Addr × Obj)} {value slice : PySem.Expr} {vs us : List Value} {ws zs : List Str} {vl vu : Value} {x y : Int} {n n2 : Nat} {Q : Value → Shared → Prop}
theorem strs_run (hi' : StrsAre vs ws) (h : 0 ≤ x) (h2 : 0 ≤ y) : StrsAre (slicePick vs.toArray (some x) (some y) none).toList ((ws.drop x.toNat).take (min y.toNat ws.length - x.toNat)) := by
  have e : sliceBounds (some x) (some y) none vs.toArray.size = (((min x.toNat vs.toArray.size : Nat) : Int), ((min y.toNat vs.toArray.size : Nat) : Int), 1) := by
    simp only [sliceBounds, Option.getD_none, show (1 : Int) > 0 by decide, if_true, if_neg (show ¬ (x < 0) by omega), if_neg (show ¬ (y < 0) by omega)]
    congr 1
    · omega
    · congr 1
      omega
  rw [kmk_pick_nat _ e]
  show StrsAre ((vs.drop (min x.toNat vs.toArray.size)).take (min y.toNat vs.toArray.size - min x.toNat vs.toArray.size)) _
  rw [List.size_toArray, kmk_drop_min, hi'.length, show min y.toNat ws.length - min x.toNat ws.length = min y.toNat ws.length - x.toNat by omega]
  exact (hi'.drop' _).take' _
theorem strs_from (hi' : StrsAre vs ws) (h : 0 ≤ x) : StrsAre (slicePick vs.toArray (some x) none none).toList (ws.drop x.toNat) := by
  have e : sliceBounds (some x) none none vs.toArray.size = (((min x.toNat vs.toArray.size : Nat) : Int), ((vs.toArray.size : Nat) : Int), 1) := by
    simp only [sliceBounds, Option.getD_none, show (1 : Int) > 0 by decide, if_true, if_neg (show ¬ (x < 0) by omega)]
    congr 1
    omega
  rw [kmk_pick_nat _ e]
  show StrsAre ((vs.drop (min x.toNat vs.toArray.size)).take (vs.toArray.size - min x.toNat vs.toArray.size)) _
  rw [List.size_toArray, kmk_drop_min, List.take_of_length_le (by rw [List.length_drop]; omega)]
  exact hi'.drop' _
theorem strs_upto (hi' : StrsAre vs ws) (h : 0 ≤ y) : StrsAre (slicePick vs.toArray none (some y) none).toList (ws.take y.toNat) := by
  have e : sliceBounds none (some y) none vs.toArray.size = (((0 : Nat) : Int), ((min y.toNat vs.toArray.size : Nat) : Int), 1) := by
    simp only [sliceBounds, Option.getD_none, show (1 : Int) > 0 by decide, if_true, if_neg (show ¬ (y < 0) by omega)]
    congr 1
    congr 1
    omega
  rw [kmk_pick_nat _ e]
  show StrsAre ((vs.drop 0).take (min y.toNat vs.toArray.size - 0)) _
  rw [List.drop_zero, Nat.sub_zero, List.size_toArray, kmk_take_min]
  exact hi'.take' _
theorem sliceS {lo hi : Option Int} (F : Fr h₀ L s.heap m) (N : News h₀ L s.heap news) (ha : (l, PySem.W.listOf vs.toArray n) ∈ news) (pl : IsPart vl lo) (pu : IsPart vu hi) (hi' : StrsAre vs ws) (hm : StrsAre (slicePick vs.toArray lo hi none).toList zs)
    (h : ∀ D rs h', Fr h₀ L h' m → News h₀ L h' ((D, PySem.W.listOf (List.toArray rs) 0) :: news) → (∀ p ∈ news, p.1 < D) → StrsAre rs zs → Q (.ref D) { s with heap := h' })
    (hs : subscripted slice false (.ref l) (.ref s.heap.objs.size) = operate [.ref s.heap.objs.size, .ref l] (getItem (.ref l) (.ref s.heap.objs.size))) (ht : ∀ r, letTemporaryGo value (.ref l) r = pure ()) (hz : ws.length ≤ 100000) :
    wpAny (model prog w) A (subscriptTail value slice (.ref l) (.ref s.heap.objs.size)) Q E { s with heap := s.heap.push { cls := .type "slice", data := .fields #[vl, vu, .none] } } := by
  refine kmk_slice F N ⟨_, (N _ ha).1, rfl, n, rfl⟩ pl pu (fun D h' F' N' l1 => h D (slicePick vs.toArray lo hi none).toList h' F' ?_ l1 hm) hs ht (by rw [List.size_toArray, sizeLine_eq, strs_len hi']; omega)
  rw [Array.toArray_toList]
  exact N'
theorem itemS {k : Int} {u : Tok} {z : Str} (N : News h₀ L s.heap news) (ha : (l, PySem.W.listOf vs.toArray n) ∈ news) (hi : StrsAre vs ws) (h0 : 0 ≤ k) (hhi : k < 2 ^ 63) (hx : ws[k.toNat]? = some z) (h : ∀ t, Q (.str z t) s)
    (hs : subscripted slice false (.ref l) (.int k u) = operate [.ref l, .int k u] (getItem (.ref l) (.int k u)) := by with_unfolding_all rfl) :
    wpAny (model prog w) A (subscriptTail value slice (.ref l) (.int k u)) Q E s := by
  obtain ⟨t, ht⟩ := StrsAre.get hi _ _ hx
  have hl : s.heap.IsList l vs.toArray := ⟨_, (N _ ha).1, rfl, n, rfl⟩
  exact tail_any hl.typeIs slot_list_getitem.lookup (wpAny_getItem_list hl h0 hhi (by simpa using ht) (h t)) hs
theorem neS (N : News h₀ L s.heap news) (ha : (a, PySem.W.listOf us.toArray n) ∈ news) (hb : (b, PySem.W.listOf vs.toArray n2) ∈ news) (hi : StrsAre us zs) (hj : StrsAre vs ws) (oi : ∀ z ∈ zs, PyData.strOk z = true) (oj : ∀ z ∈ ws, PyData.strOk z = true) (hu : A.units + 64 < cLine) (h : Q (.bool (!decide (zs = ws))) s) :
    wpAny (model prog w) A (compareOp .NotEq (.ref a) (.ref b)) Q E s :=
  ne_dataH_same (reads_newData ⟨_, (N _ ha).1, rfl, n, rfl⟩ hi.carried) (reads_newData ⟨_, (N _ hb).1, rfl, n2, rfl⟩ hj.carried) (strs_shaped oi) (strs_shaped oj) hu
    (SeqAt.noMix_of_shape (.list .str) rfl _ _ (list_map_has fun _ => rfl) (list_map_has fun _ => rfl)) (by rw [strs_same]; exact h)
end
/-! the telling -/
section
variable {q k : Nat} {W : Int} {ahead body z told : Str} {zs its X : List Str} {marks : Int}
/-- behind k of the items from the sixth on -/
def TI (X : List Str) (k : Nat) (marks : Int) (told : Str) : Prop := tl ((X.map toL).drop k) marks.toNat (toL told) = tl (X.map toL) 0 [] ∧ 0 ≤ marks ∧ marks ≤ k ∧ told.length ≤ 3 * k
theorem ti_start : TI X 0 0 (Str.ofString "") := ⟨by rw [t_nil]; rfl, Int.le_refl _, Int.le_refl _, by decide +kernel⟩
theorem drop_X (hz : X[k]? = some z) : (X.map toL).drop k = toL z :: (X.map toL).drop (k + 1) := by
  obtain ⟨hlt, hv⟩ := List.getElem?_eq_some_iff.mp hz
  rw [List.drop_eq_getElem_cons (by rw [List.length_map]; exact hlt), List.getElem_map, hv]
theorem ti_even (h : TI X k marks told) (hz : X[k]? = some z) (h1 : (z == Str.ofString "\"") = true) (h2' : (marks + 1).fmod 2 = 0) : TI X (k + 1) (marks + 1) (told ++ Str.ofString "\"") := by
  have h2 := h2'; rw [Int.fmod_eq_emod_of_nonneg _ (by decide)] at h2
  obtain ⟨e, h0, h3, h4⟩ := h
  rw [drop_X hz, (beq_true.mp h1).trans t_mark, tl, if_pos rfl, if_pos (by omega)] at e
  refine ⟨?_, by omega, by omega, ?_⟩
  · rw [show (marks + 1).toNat = marks.toNat + 1 by omega, toL_append, t_mark]; exact e
  · rw [← toL_length, toL_append, List.length_append, t_mark, toL_length, List.length_singleton]; omega
theorem ti_odd (h : TI X k marks told) (hz : X[k]? = some z) (h1 : (z == Str.ofString "\"") = true) (h2' : ¬ (marks + 1).fmod 2 = 0) : TI X (k + 1) (marks + 1) (told ++ Str.ofString "") := by
  have h2 := h2'; rw [Int.fmod_eq_emod_of_nonneg _ (by decide)] at h2
  obtain ⟨e, h0, h3, h4⟩ := h
  rw [drop_X hz, (beq_true.mp h1).trans t_mark, tl, if_pos rfl, if_neg (by omega)] at e
  refine ⟨?_, by omega, by omega, ?_⟩
  · rw [show (marks + 1).toNat = marks.toNat + 1 by omega, toL_append, t_nil, List.append_nil]; exact e
  · rw [← toL_length, toL_append, List.length_append, t_nil, toL_length, List.length_nil]; omega
theorem ti_other (h : TI X k marks told) (hz : X[k]? = some z) (hl : z.length ≤ 3) (h1 : (z == Str.ofString "\"") = false) (h2' : ¬ marks.fmod 2 = 1) : TI X (k + 1) 0 (told ++ z) := by
  have h2 := h2'; rw [Int.fmod_eq_emod_of_nonneg _ (by decide)] at h2
  obtain ⟨e, h0, h3, h4⟩ := h
  have hne := beq_false.mp h1
  rw [t_mark] at hne
  rw [drop_X hz, tl, if_neg hne, if_neg (by omega)] at e
  refine ⟨?_, by omega, by omega, ?_⟩
  · rw [toL_append]; exact e
  · rw [← toL_length, toL_append, List.length_append, toL_length, toL_length]; omega
theorem ti_stop (h : TI X k marks told) (hz : X[k]? = some z) (h1 : (z == Str.ofString "\"") = false) (h2' : marks.fmod 2 = 1) : toL told = tl (X.map toL) 0 [] := by
  have h2 := h2'; rw [Int.fmod_eq_emod_of_nonneg _ (by decide)] at h2
  obtain ⟨e, h0, _, _⟩ := h
  have hne := beq_false.mp h1
  rw [t_mark] at hne
  rw [drop_X hz, tl, if_neg hne, if_pos (by omega)] at e
  exact e
theorem ti_end (h : TI X X.length marks told) : toL told = tl (X.map toL) 0 [] := by
  have e := h.1
  rw [List.drop_eq_nil_of_le (by rw [List.length_map]; exact Nat.le_refl _), tl] at e
  exact e
/-- the items at the loop's end -/
theorem di_all (hzl : zs.map toL = lns (toL body)) (hW : 4 ≤ W) (h : DI W q ahead zs zs.length its) : its.map toL = allItems (toL ahead) (toL body) W.toNat q := by
  have e := h.1
  rw [List.take_of_length_le (by rw [List.length_map]; exact Nat.le_refl _), hzl] at e
  unfold allItems
  rw [e, show ((W.toNat : Nat) : Int) = W by omega]
theorem tells_no (hall : its.map toL = allItems (toL ahead) (toL body) W.toNat q) (h : (its.drop 3).take (min 5 its.length - 3) ≠ [Str.ofString " ", Str.ofString "\""]) : tells (allItems (toL ahead) (toL body) W.toNat q) = [] := by
  unfold tells
  rw [if_neg]
  intro e
  refine h ?_
  rw [← hall, ← List.map_drop, ← List.map_take] at e
  have e2 : (its.drop 3).take 2 = [Str.ofString " ", Str.ofString "\""] := by
    generalize (its.drop 3).take 2 = l at e
    have e3 : (l.map toL).map ofL = l := by
      rw [List.map_map]
      conv => rhs; rw [← List.map_id l]
      exact List.map_congr_left fun x _ => ofL_toL x
    rw [← e3, e, List.map_cons, List.map_cons, List.map_nil, toL_inj (x := ofL [32]) (y := Str.ofString " ") t_blank.symm, toL_inj (x := ofL [34]) (y := Str.ofString "\"") t_mark.symm]
  have hl := congrArg List.length e2
  rw [List.length_take, List.length_drop] at hl
  simp only [List.length_cons, List.length_nil] at hl
  rw [show min 5 its.length - 3 = 2 by omega]
  exact e2
theorem tells_yes (hall : its.map toL = allItems (toL ahead) (toL body) W.toNat q) (h : (its.drop 3).take (min 5 its.length - 3) = [Str.ofString " ", Str.ofString "\""]) (h2 : toL told = tl ((its.drop 5).map toL) 0 []) : told = ofL (tells (allItems (toL ahead) (toL body) W.toNat q)) := by
  refine toL_inj ?_
  rw [toL_ofL, h2]
  unfold tells
  have hl := congrArg List.length h
  rw [List.length_take, List.length_drop] at hl
  simp only [List.length_cons, List.length_nil] at hl
  rw [show min 5 its.length - 3 = 2 by omega] at h
  rw [← hall, ← List.map_drop, ← List.map_take, h, if_pos (by rw [List.map_cons, List.map_cons, List.map_nil, t_blank, t_mark]), List.map_drop]
theorem di_turn (hq : q ≤ 3) (hz : zs[k]? = some z) (hzl : z.length ≤ 20) (h : DI W q ahead zs k its) (hlow : ∀ y ∈ its, LowS y) {ws xs : List Str} (hws : ws = List.replicate q (Str.ofString "\"")) (hr : xs = (written W (ws.map toL) (toL z)).map ofL) (hxl : ∀ y ∈ xs, LowS y) :
    (¬ 0 < 0 + (k : Int) → DI W q ahead zs (k + 1) (its ++ ([] ++ xs)) ∧ ∀ y ∈ its ++ ([] ++ xs), LowS y) ∧
    (0 < 0 + (k : Int) → DI W q ahead zs (k + 1) (its ++ (ws ++ xs)) ∧ ∀ y ∈ its ++ (ws ++ xs), LowS y) := by
  have hm := rep_marks q
  rw [← hws] at hm
  rw [hm] at hr
  have hwl : ∀ y ∈ ws, LowS y := fun y hy => by
    rw [hws] at hy
    rw [(List.mem_replicate.mp hy).2]
    unfold LowS
    rw [t_mark]
    exact ⟨by decide, by decide⟩
  refine ⟨fun hk => ⟨(di_more hq hz hzl h hr (by rw [if_pos (by omega)]; rfl)).1, fun y hy => ?_⟩, fun hk => ⟨(di_more hq hz hzl h hr (by rw [if_neg (by omega), hm])).1, fun y hy => ?_⟩⟩
  · rcases List.mem_append.mp hy with hy | hy
    · exact hlow y hy
    · exact hxl y hy
  · rcases List.mem_append.mp hy with hy | hy
    · exact hlow y hy
    · rcases List.mem_append.mp hy with hy | hy
      · exact hwl y hy
      · exact hxl y hy
theorem di_turn0 (hq : q ≤ 3) (hz : zs[k]? = some z) (hzl : z.length ≤ 20) (h : DI W q ahead zs k its) (hlow : ∀ y ∈ its, LowS y) {ws xs : List Str} (hws : ws = List.replicate q (Str.ofString "\"")) (hr : xs = (written W (ws.map toL) (toL z)).map ofL) (hxl : ∀ y ∈ xs, LowS y) (hk : ¬ 0 < 0 + (k : Int)) :
    DI W q ahead zs (k + 1) (its ++ ([] ++ xs)) ∧ ∀ y ∈ its ++ ([] ++ xs), LowS y := (di_turn hq hz hzl h hlow hws hr hxl).1 hk
theorem di_turn1 (hq : q ≤ 3) (hz : zs[k]? = some z) (hzl : z.length ≤ 20) (h : DI W q ahead zs k its) (hlow : ∀ y ∈ its, LowS y) {ws xs : List Str} (hws : ws = List.replicate q (Str.ofString "\"")) (hr : xs = (written W (ws.map toL) (toL z)).map ofL) (hxl : ∀ y ∈ xs, LowS y) (hk : 0 < 0 + (k : Int)) :
    DI W q ahead zs (k + 1) (its ++ (ws ++ xs)) ∧ ∀ y ∈ its ++ (ws ++ xs), LowS y := (di_turn hq hz hzl h hlow hws hr hxl).2 hk
theorem signs_low {x : Str} (h : ∀ c ∈ toL x, c < 0x110000) : ∀ y ∈ signs x, LowS y := fun y hy => by
  have h1 : toL y ∈ (signs x).map toL := List.mem_map_of_mem hy
  rw [signs_toL] at h1
  obtain ⟨c, hc, e⟩ := List.mem_map.mp h1
  unfold LowS
  rw [← e]
  exact ⟨by simp, fun d hd => by rw [List.mem_singleton.mp hd]; exact h c hc⟩
theorem lns_low {l : List Nat} (h : ∀ c ∈ l, c < 0x110000) : ∀ x ∈ lns l, ∀ c ∈ x, c < 0x110000 := by
  revert h
  refine two_cases (fun l => (∀ c ∈ l, c < 0x110000) → ∀ x ∈ lns l, ∀ c ∈ x, c < 0x110000) ?_ (fun r ih h => ?_) (fun c r hc ih h => ?_) l
  · intro _ x hx c hc
    simp only [lns, List.mem_singleton] at hx
    subst hx; cases hc
  · rw [lns_two]
    intro x hx d hd
    rcases List.mem_cons.mp hx with rfl | hx
    · cases hd
    · exact ih (fun c hc => h c (.tail _ (.tail _ hc))) x hx d hd
  · rw [lns_other hc]
    have ih' := ih (fun c hc => h c (.tail _ hc))
    split
    · intro x hx d hd
      rcases List.mem_cons.mp hx with rfl | hx
      · cases hd
      · exact ih' x hx d hd
    · split
      · rename_i e
        exact absurd e (lns_ne r)
      · rename_i a t e
        rw [e] at ih'
        intro x hx d hd
        rcases List.mem_cons.mp hx with rfl | hx
        · rcases List.mem_cons.mp hd with rfl | hd
          · exact h _ (.head _)
          · exact ih' a (.head _) d hd
        · exact ih' x (.tail _ hx) d hd
theorem du_0 (h : W < 4) : dueL (toL ahead) (toL body) W.toNat q = .i 0 := by
  unfold dueL
  rw [if_pos (by omega)]
theorem du_1 (h : ¬ W < 4) (h1 : (Txt.slice (ahead ++ body) none (some 3) != Str.ofString "257") = true) : dueL (toL ahead) (toL body) W.toNat q = .i 1 := by
  rw [bne_true, slice_to (by decide), t_257, toL_append] at h1
  unfold dueL
  rw [if_neg (by omega)]
  exact if_pos h1
theorem du_s (h : ¬ W < 4) (h1 : (Txt.slice (ahead ++ body) none (some 3) != Str.ofString "257") = false) : dueL (toL ahead) (toL body) W.toNat q = .s (tells (allItems (toL ahead) (toL body) W.toNat q)) := by
  rw [bne_false, slice_to (by decide), t_257, toL_append] at h1
  unfold dueL
  rw [if_neg (by omega)]
  exact if_neg (fun x => x h1)
theorem du_no (h : ¬ W < 4) (h1 : (Txt.slice (ahead ++ body) none (some 3) != Str.ofString "257") = false) (hall : its.map toL = allItems (toL ahead) (toL body) W.toNat q) (hn : (its.drop 3).take (min 5 its.length - 3) ≠ [Str.ofString " ", Str.ofString "\""]) :
    dueL (toL ahead) (toL body) W.toNat q = .s (toL (Str.ofString "")) := by
  rw [du_s h h1, tells_no hall hn, t_nil]
theorem du_yes (h : ¬ W < 4) (h1 : (Txt.slice (ahead ++ body) none (some 3) != Str.ofString "257") = false) (hall : its.map toL = allItems (toL ahead) (toL body) W.toNat q) (hn : (its.drop 3).take (min 5 its.length - 3) = [Str.ofString " ", Str.ofString "\""])
    (h2 : toL told = tl ((its.drop 5).map toL) 0 []) : dueL (toL ahead) (toL body) W.toNat q = .s (toL told) := by
  rw [du_s h h1, tells_yes hall hn h2, toL_ofL]
end
/-- an answer, as a value -/
def resV : Res → Tok → Value
  | .i n, t => .int n t
  | .s l, t => .str (ofL l) t
section
variable {h₀ : Heap} {L : Addr} {m : Str → Option Value} {news : List (Addr × Obj)} {s : Shared} {Q : Value → Shared → Prop} {h' : Heap} {tk' : Nat} {t : Tok} {r : Res}
theorem res_int {n : Int} (ret : ∀ t h' tk', Fr h₀ L h' m → News h₀ L h' news → Q (resV r t) { s with heap := h', toks := tk' }) (e : r = .i n) (F : Fr h₀ L h' m) (N : News h₀ L h' news) : Q (.int n t) { s with heap := h', toks := tk' } := by
  subst e; exact ret t h' tk' F N
theorem res_str {x : Str} (ret : ∀ t h' tk', Fr h₀ L h' m → News h₀ L h' news → Q (resV r t) { s with heap := h', toks := tk' }) (e : r = .s (toL x)) (F : Fr h₀ L h' m) (N : News h₀ L h' news) : Q (.str x t) { s with heap := h', toks := tk' } := by
  have h := ret t h' tk' F N
  rw [e] at h
  show Q (.str x t) _
  rw [← ofL_toL x]; exact h
end
end Mine
end TDue2
section THrd
open PySem PySem.W PySem.Calls PyProof.Rows
set_option maxRecDepth 100000
namespace Mine
/-! how long what is heard may be -/
theorem lns_size (l : List Nat) : (lns l).length ≤ l.length + 1 ∧ ((lns l).map List.length).sum ≤ l.length ∧ ∀ x ∈ lns l, ∀ c ∈ x, c ∈ l := by
  refine two_cases (fun l => (lns l).length ≤ l.length + 1 ∧ ((lns l).map List.length).sum ≤ l.length ∧ ∀ x ∈ lns l, ∀ c ∈ x, c ∈ l) ⟨by simp [lns], by simp [lns], by simp [lns]⟩ (fun r ih => ?_) (fun c r h ih => ?_) l
  · rw [lns_two]
    obtain ⟨h1, h2, h3⟩ := ih
    refine ⟨by simp only [List.length_cons]; omega, by simp only [List.map_cons, List.sum_cons, List.length_cons, List.length_nil]; omega, fun x hx d hd => ?_⟩
    rcases List.mem_cons.mp hx with rfl | hx
    · cases hd
    · exact .tail _ (.tail _ (h3 x hx d hd))
  · rw [lns_other h]
    obtain ⟨h1, h2, h3⟩ := ih
    split
    · refine ⟨by simp only [List.length_cons]; omega, by simp only [List.map_cons, List.sum_cons, List.length_cons, List.length_nil]; omega, fun x hx d hd => ?_⟩
      rcases List.mem_cons.mp hx with rfl | hx
      · cases hd
      · exact .tail _ (h3 x hx d hd)
    · split
      · rename_i e
        exact absurd e (lns_ne r)
      · rename_i a t e
        rw [e] at h1 h2 h3
        refine ⟨by simp only [List.length_cons] at h1 ⊢; omega, by simp only [List.map_cons, List.sum_cons, List.length_cons] at h2 ⊢; omega, fun x hx d hd => ?_⟩
        rcases List.mem_cons.mp hx with rfl | hx
        · rcases List.mem_cons.mp hd with rfl | hd
          · exact .head _
          · exact .tail _ (h3 a (.head _) d hd)
        · exact .tail _ (h3 x (.tail _ hx) d hd)
theorem after_size {w : Int} {q : Nat} (hq : q ≤ 3) : ∀ ls : List (List Nat), (itemsAfter w (marksI q) ls).length ≤ 3 * ls.length + 5 * ((ls.map List.length).sum + ls.length)
  | [] => by simp [itemsAfter]
  | l :: r => by
    have ih := after_size (w := w) hq r
    have h1 := written_len w (marksI q) l
    have h2 : (marksI q).length = q := by unfold marksI; rw [List.length_replicate]
    have h3 : (q + 2) * (l.length + 1) ≤ 5 * (l.length + 1) := Nat.mul_le_mul_right _ (by omega)
    rw [h2] at h1
    simp only [itemsAfter, List.length_append, List.length_cons, List.map_cons, List.sum_cons, h2]
    omega
theorem items_size {w : Int} {q : Nat} (hq : q ≤ 3) : ∀ ls : List (List Nat), (itemsOf w (marksI q) ls).length ≤ 3 * ls.length + 5 * ((ls.map List.length).sum + ls.length)
  | [] => by simp [itemsOf]
  | l :: r => by
    have ih := after_size (w := w) hq r
    have h1 := written_len w (marksI q) l
    have h2 : (marksI q).length = q := by unfold marksI; rw [List.length_replicate]
    have h3 : (q + 2) * (l.length + 1) ≤ 5 * (l.length + 1) := Nat.mul_le_mul_right _ (by omega)
    rw [h2] at h1
    simp only [itemsOf, List.length_append, List.length_cons, List.map_cons, List.sum_cons]
    omega
theorem flat_len : ∀ ls : List (List Nat), (∀ x ∈ ls, x.length ≤ 3) → ls.flatten.length ≤ 3 * ls.length
  | [], _ => by simp
  | a :: r, h => by
    have h1 := flat_len r fun x hx => h x (.tail _ hx)
    have h2 := h a (.head _)
    rw [List.flatten_cons, List.length_append, List.length_cons]; omega
theorem good_len {x : List Nat} (h : Good x) : x.length ≤ 3 := by
  rcases h with ⟨c, rfl⟩ | ⟨a, b, rfl, _⟩ <;> simp
theorem heard_len {w : Nat} (hw : 4 ≤ w) {front text : List Nat} {q : Nat} (hq : q ≤ 3) (hf : front.length ≤ 5) (ht : text.length ≤ 20) : (front ++ encT w (marksL q) text).length ≤ 900 := by
  rw [← all_flat hw front text q]
  have h1 := flat_len (allItems front text w q) fun x hx => by
    unfold allItems at hx
    rcases List.mem_append.mp hx with hx | hx
    · exact good_len (singles_good _ _ hx)
    · exact good_len (items_good (marks_good q) _ x hx)
  have h2 := items_size (w := (w : Int)) hq (lns text)
  have h3 := lns_size text
  have h4 : (allItems front text w q).length = front.length + (itemsOf (w : Int) (marksI q) (lns text)).length := by
    unfold allItems singles
    rw [List.length_append, List.length_map]
  have h5 := h3.1
  have h6 := h3.2.1
  omega
theorem enc_len {w : Nat} (hw : 4 ≤ w) {text : List Nat} {q : Nat} (hq : q ≤ 3) (ht : text.length ≤ 20) : (encT w (marksL q) text).length ≤ 900 := by
  have := heard_len (front := []) hw hq (by simp) ht
  simpa using this
section
variable {W : Int} {q : Nat} {ahead body eol y : Str}
theorem hh_0 (h : W < 4) : heardL (toL ahead) (toL body) W.toNat q = .i 0 := by
  unfold heardL
  rw [if_pos (by omega)]
theorem hh_1 (h : 4 ≤ W) (hc : (toL ahead ++ encT W.toNat (marksL q) (toL body)).take 3 ≠ code257) : heardL (toL ahead) (toL body) W.toNat q = .i 1 := by
  unfold heardL
  rw [if_neg (by omega), if_pos hc]
theorem hh_s (h : 4 ≤ W) (hc : (toL ahead ++ encT W.toNat (marksL q) (toL body)).take 3 = code257) (he : toL eol = marksL q) (hy : y = ofL (encT W.toNat (toL eol) (toL body))) : heardL (toL ahead) (toL body) W.toNat q = .s (toL (ofL (parseL (toL (ahead ++ y))))) := by
  unfold heardL
  rw [if_neg (by omega), if_neg (fun x => x hc), toL_ofL, toL_append, hy, toL_ofL, he]
theorem hh_good (hc : (toL ahead ++ encT W.toNat (marksL q) (toL body)).take 3 = code257) (he : toL eol = marksL q) (hy : y = ofL (encT W.toNat (toL eol) (toL body))) : (toL (ahead ++ y)).take 3 = code257 := by
  rw [toL_append, hy, toL_ofL, he]; exact hc
theorem hh_bad (hc : (toL ahead ++ encT W.toNat (marksL q) (toL body)).take 3 ≠ code257) (he : toL eol = marksL q) (hy : y = ofL (encT W.toNat (toL eol) (toL body))) (h : (Txt.slice (ahead ++ y) none (some 3) != Str.ofString "257") = false) : False := by
  rw [bne_false, slice_to (by decide), t_257, toL_append, hy, toL_ofL, he] at h
  exact hc h
end
end Mine
end THrd
section TW2
open PySem PySem.W PySem.Calls PyProof.Rows
set_option maxRecDepth 100000
set_option maxHeartbeats 8000000
namespace Mine
def PG (x : Str) (i : Int) (d : Str) : Prop := toL d ++ pgo ((toL x).drop i.toNat) = pgo ((toL x).drop 5)
theorem at_lt {x : Str} {i : Int} (h0 : 0 ≤ i) (h1 : i < (x.length : Int)) : ∃ c, (toL x)[i.toNat]? = some c ∧ toL (Txt.item x i) = [c] ∧ (toL x).drop i.toNat = c :: (toL x).drop (i + 1).toNat := by
  have hl := toL_length x
  have hlt : i.toNat < (toL x).length := by omega
  refine ⟨(toL x)[i.toNat], List.getElem?_eq_getElem hlt, item_toL h0 (List.getElem?_eq_getElem hlt), ?_⟩
  rw [List.drop_eq_getElem_cons hlt]
  congr 2; omega
theorem ps_start {x : Str} (h : (Txt.slice x (some 3) (some 5) != Str.ofString " \"") = false) : (5 : Int) ≤ 5 ∧ (5 : Int) ≤ (x.length : Int) ∧ ((Str.ofString "").length : Int) ≤ 5 ∧ PG x 5 (Str.ofString "") := by
  rw [bne_false, slice_ij (by decide) (by decide), t_open] at h
  have hl := congrArg List.length h
  rw [List.length_take, List.length_drop, toL_length] at hl
  simp at hl
  refine ⟨Int.le_refl _, by omega, by decide, ?_⟩
  unfold PG
  rw [t_nil]; rfl
theorem ps_two {x d : Str} {i : Int} (h0 : 5 ≤ i) (_h1 : i ≤ (x.length : Int)) (hd : (d.length : Int) ≤ i) (g : PG x i d) (hi : i < (x.length : Int)) (e1 : (Txt.item x i == Str.ofString "\"") = true) (h2 : ¬ (x.length : Int) ≤ i + 1)
    (e2 : (Txt.item x (i + 1) != Str.ofString "\"") = false) (hs : d.length + (Txt.item x i).length ≤ (d ++ Txt.item x i).length ∧ (d ++ Txt.item x i).length ≤ d.length + (Txt.item x i).length) (hn : 1 ≤ (Txt.item x i).length ∧ (Txt.item x i).length ≤ 1) :
    5 ≤ i + 1 + 1 ∧ i + 1 + 1 ≤ (x.length : Int) ∧ ((d ++ Txt.item x i).length : Int) ≤ i + 1 + 1 ∧ PG x (i + 1 + 1) (d ++ Txt.item x i) := by
  refine ⟨by omega, by omega, by omega, ?_⟩
  obtain ⟨c, _, hc, ec⟩ := at_lt (by omega) hi
  obtain ⟨k, _, hk, ek⟩ := at_lt (x := x) (i := i + 1) (by omega) (by omega)
  rw [beq_true, t_mark, hc] at e1
  rw [bne_false, t_mark, hk] at e2
  unfold PG at g ⊢
  rw [ec, ek, (List.cons.inj e1).1, (List.cons.inj e2).1, pgo_two] at g
  rw [toL_append, hc, (List.cons.inj e1).1, ← g]
  simp
theorem ps_one {x d : Str} {i : Int} (h0 : 5 ≤ i) (_h1 : i ≤ (x.length : Int)) (hd : (d.length : Int) ≤ i) (g : PG x i d) (hi : i < (x.length : Int)) (e1 : (Txt.item x i == Str.ofString "\"") = false)
    (hs : d.length + (Txt.item x i).length ≤ (d ++ Txt.item x i).length ∧ (d ++ Txt.item x i).length ≤ d.length + (Txt.item x i).length) (hn : 1 ≤ (Txt.item x i).length ∧ (Txt.item x i).length ≤ 1) :
    5 ≤ i + 1 ∧ i + 1 ≤ (x.length : Int) ∧ ((d ++ Txt.item x i).length : Int) ≤ i + 1 ∧ PG x (i + 1) (d ++ Txt.item x i) := by
  refine ⟨by omega, by omega, by omega, ?_⟩
  obtain ⟨c, _, hc, ec⟩ := at_lt (by omega) hi
  rw [beq_false, t_mark, hc] at e1
  have hne : c ≠ 34 := fun e => e1 (by rw [e])
  unfold PG at g ⊢
  rw [ec, pgo_other hne] at g
  rw [toL_append, hc, ← g]
  simp
theorem pe_bad {x : Str} (h257 : (toL x).take 3 = code257) (h : (Txt.slice x none (some 3) != Str.ofString "257") = true) : False := by
  rw [bne_true, slice_to (by decide), t_257] at h
  exact h h257
theorem pe_ok {x d : Str} (h : (Txt.slice x (some 3) (some 5) != Str.ofString " \"") = false) (hd : toL d = pgo ((toL x).drop 5)) : d = ofL (parseL (toL x)) := by
  rw [bne_false, slice_ij (by decide) (by decide), t_open] at h
  have h' : ((toL x).drop 3).take 2 = [32, 34] := h
  refine toL_inj ?_
  unfold parseL
  rw [if_pos h', toL_ofL, hd]
theorem pe_none {x : Str} (h : (Txt.slice x (some 3) (some 5) != Str.ofString " \"") = true) : Str.ofString "" = ofL (parseL (toL x)) := by
  rw [bne_true, slice_ij (by decide) (by decide), t_open] at h
  have h' : ¬ ((toL x).drop 3).take 2 = [32, 34] := h
  refine toL_inj ?_
  unfold parseL
  rw [if_neg h', t_nil]; rfl
theorem pe_over {x d : Str} {i : Int} (h : (Txt.slice x (some 3) (some 5) != Str.ofString " \"") = false) (_h0 : 5 ≤ i) (g : PG x i d) (hi : ¬ i < (x.length : Int)) : d = ofL (parseL (toL x)) := by
  refine pe_ok h ?_
  have hl := toL_length x
  unfold PG at g
  rw [← g, List.drop_eq_nil_of_le (by omega)]
  simp [pgo]
theorem pe_last {x d : Str} {i : Int} (h : (Txt.slice x (some 3) (some 5) != Str.ofString " \"") = false) (h0 : 5 ≤ i) (g : PG x i d) (hi : i < (x.length : Int)) (e1 : (Txt.item x i == Str.ofString "\"") = true) (h2 : (x.length : Int) ≤ i + 1) : d = ofL (parseL (toL x)) := by
  refine pe_ok h ?_
  have hl := toL_length x
  obtain ⟨c, _, hc, ec⟩ := at_lt (by omega) hi
  rw [beq_true, t_mark, hc] at e1
  unfold PG at g
  rw [ec, (List.cons.inj e1).1, List.drop_eq_nil_of_le (by omega), pgo_one, List.append_nil] at g
  exact g
theorem pe_stop {x d : Str} {i : Int} (h : (Txt.slice x (some 3) (some 5) != Str.ofString " \"") = false) (h0 : 5 ≤ i) (g : PG x i d) (hi : i < (x.length : Int)) (e1 : (Txt.item x i == Str.ofString "\"") = true) (h2 : ¬ (x.length : Int) ≤ i + 1)
    (e2 : (Txt.item x (i + 1) != Str.ofString "\"") = true) : d = ofL (parseL (toL x)) := by
  refine pe_ok h ?_
  obtain ⟨c, _, hc, ec⟩ := at_lt (by omega) hi
  obtain ⟨k, _, hk, ek⟩ := at_lt (x := x) (i := i + 1) (by omega) (by omega)
  rw [beq_true, t_mark, hc] at e1
  rw [bne_true, t_mark, hk] at e2
  unfold PG at g
  rw [ec, ek, (List.cons.inj e1).1, pgo_end (fun e => e2 (by rw [e])), List.append_nil] at g
  exact g
set_option rowWalk.seconds 0
theorem parse_ok (w : World) (p : Program) (loose : List Str) (mean : ExcName → Option Value) (mg mb : Str → Option Value) (x : Str) (tx : Tok) (hx : x.length ≤ 1000) (h257 : (toL x).take 3 = code257)
  (dp un : Nat) (gd : Option (List Code)) (cn : Str) (cs : Scope) (a : Addr) (ccd : Value) (cl : List (Str × Addr)) (outer : List Env) (A₀ : Around) (base h₀ : Heap) (L : Addr) (m : Str → Option Value) (news : List (Addr × Obj)) (s : Shared) (Q E : Value → Shared → Prop)
  (B : Below A₀ base outer h₀) (F : Fr h₀ L s.heap m) (X : (Mine.K w.params).In h₀) (N : News h₀ L s.heap news) (T : Top p loose mean mg mb h₀) (hk : cs.kind = .function) (hd : dp + 1 < recursionLimit) (hu : un + 8 < cLine)
  (ret : ∀ t h' tk', Fr h₀ L h' m → News h₀ L h' news → Q (.str (ofL (parseL (toL x))) t) { s with heap := h', toks := tk' }) :
  wpAny (model PySem.Challenge.pw_rw0036_01 w) (ktrTop dp un gd cn cs L a ccd cl outer) (call (.ref 46) [.str x tx]) Q E s := by
  k_with_none
  refine wpAny_call ?_
  k_dflt cell_enter
  (k_with "exec While Compare cons nil" => k_while (fun _ i d => 5 ≤ i ∧ i ≤ (x.length : Int) ∧ (d.length : Int) ≤ i ∧ PG x i d) (fun _ i _ => x.length - i.toNat) "i" "dirname")
  (k_with "state" => first | exact ps_start (by assumption) | exact ps_two (by assumption) (by assumption) (by assumption) (by assumption) (by assumption) (by assumption) (by assumption) (by assumption) (by assumption) (by assumption) | exact ps_one (by assumption) (by assumption) (by assumption) (by assumption) (by assumption) (by assumption) (by assumption) (by assumption))
  k_steps
  · exact (pe_bad h257 (by assumption)).elim
  · exact cb_retS ret (pe_none (by assumption)) (by assumption) (by assumption)
  · exact cb_retS ret (pe_last (by assumption) (by assumption) (by assumption) (by assumption) (by assumption) (by assumption)) (by assumption) (by assumption)
  · exact cb_retS ret (pe_stop (by assumption) (by assumption) (by assumption) (by assumption) (by assumption) (by assumption) (by assumption)) (by assumption) (by assumption)
  · exact cb_retS ret (pe_over (by assumption) (by assumption) (by assumption) (by assumption)) (by assumption) (by assumption)
end Mine
end TW2
section TW3b
open PySem PySem.W PySem.Calls PyProof.Rows
set_option maxRecDepth 100000
set_option maxHeartbeats 4000000
namespace Mine
local macro_rules | `(tactic| k_mem) => `(tactic| first | assumption | exact List.mem_cons_self .. | (refine List.mem_cons_of_mem _ ?_; k_mem))
local macro_rules | `(tactic| walk_at "binaryOp Add ref ref") => `(tactic| (k_here; (with_reducible show wpAny _ _ (binaryOp _ (Value.ref _) (Value.ref _)) _ _ _); k_dflt (refine' addS ?F ?N ?a ?b ?i ?j ?_ ?z; (case F => k_asm); (case N => k_asm); (case a => k_mem); (case b => k_mem); (case i => first | assumption | exact StrsAre.cons _ _ .nil); (case j => first | assumption | exact StrsAre.cons _ _ .nil); (case z => first | omega | (simp only [List.length_append, List.length_cons, List.length_nil, List.length_dropLast]; omega))); k_whole; intro D' us' h' F' N' l1 hS'; (try k_lt l1); (try k_sweep)))
local macro_rules | `(tactic| walk_at "inplaceOp Add ref") => `(tactic| (k_here; (with_reducible show wpAny _ _ (inplaceOp _ (Value.ref _) (Value.ref _)) _ _ _); k_dflt (refine' iaddS ?F ?N ?U ?b ?i ?j ?_ ?z; (case F => k_asm); (case N => k_asm); (case U => (intro c'; k_upd)); (case b => k_mem); (case i => first | assumption | exact StrsAre.cons _ _ .nil); (case j => first | assumption | exact StrsAre.cons _ _ .nil); (case z => first | omega | (simp only [List.length_append, List.length_cons, List.length_nil, List.length_dropLast]; omega))); k_whole; intro c' h' F' N' hS'; (try dsimp only at N'); (try k_sweep)))
local macro_rules | `(tactic| walk_at "call builtin:list.append") => `(tactic| (k_here; (with_reducible show wpAny _ _ (call (Value.builtin _) [Value.ref _, Value.str _ _]) _ _ _); k_dflt (refine' appS ?F ?N ?U ?i ?_ ?z; (case F => k_asm); (case N => k_asm); (case U => k_upd); (case i => first | assumption | exact StrsAre.cons _ _ .nil | exact StrsAre.nil); (case z => first | omega | (simp only [List.length_append, List.length_cons, List.length_nil, List.length_dropLast]; omega))); k_whole; intro h' F' N' hS'; (try k_sweep)))
local macro_rules | `(tactic| walk_at "call builtin:list.pop") => `(tactic| (k_here; (try dsimp only); (with_reducible show wpAny _ _ (call (Value.builtin _) [Value.ref _]) _ _ _); k_dflt (refine' popS ?F ?N ?U ?i ?n ?_ ?z; (case F => k_asm); (case N => k_asm); (case U => k_upd); (case i => assumption); (case n => first | assumption | exact wi_ne (by assumption) (last_is t_blank (by assumption)) | exact wi_ne (by assumption) (last_is t_tab (by assumption))); (case z => first | omega | (simp only [List.length_append, List.length_cons, List.length_nil, List.length_dropLast]; omega))); k_whole; intro h' x' t' F' N' hS'; (try k_sweep)))
local macro_rules | `(tactic| walk_at "subscriptTail Name UnaryOp str int") => `(tactic| (k_here; first
  | ((have hp9 := last_pos (last_is t_blank (by assumption))); (refine item_str (by decide) (by omega) (by omega) ?_); intro _)
  | ((have hp9 := last_pos (last_is t_tab (by assumption))); (refine item_str (by decide) (by omega) (by omega) ?_); intro _)))
local macro_rules | `(tactic| ktr_rel) => `(tactic| first
  | assumption
  | (intro p hp; (repeat (refine List.mem_cons_of_mem _ ?_)); exact hp)
  | exact fun q hq => kst_ltOf (And.right (And.right (And.right (by assumption)))) q hq)
theorem w_end {W : Int} {line : Str} {ws zs : List Str} {rs : List Value} {h₀ : Heap} {L : Addr} {m : Str → Option Value} {news news' : List (Addr × Obj)} {s : Shared} {Q : Value → Shared → Prop} {r : Addr} {c : Nat} {h' : Heap} {tk' : Nat}
    (ret : ∀ r rs c h' tk', Fr h₀ L h' m → News h₀ L h' ((r, PySem.W.listOf (List.toArray rs) c) :: news) → (∀ q ∈ news, q.1 < r) → StrsAre rs ((written W (ws.map toL) (toL line)).map ofL) → Q (.ref r) { s with heap := h', toks := tk' })
    (hE : written W (ws.map toL) (toL line) = zs.map toL) (S : StrsAre rs zs) (F : Fr h₀ L h' m) (N : News h₀ L h' news') (hm : (r, PySem.W.listOf (List.toArray rs) c) ∈ news') (hs : ∀ p ∈ news, p ∈ news') (hl : ∀ q ∈ news, q.1 < r) : Q (.ref r) { s with heap := h', toks := tk' } :=
  ret r rs c h' tk' F (fun p hp => N p ((List.mem_cons.mp hp).elim (fun e => e ▸ hm) (hs p))) hl (strs_back S hE)
set_option rowWalk.seconds 0
theorem written_ok (w : World) (p : Program) (loose : List Str) (mean : ExcName → Option Value) (mg mb : Str → Option Value) (line : Str) (tx : Tok) (hx : line.length ≤ 100) (W : Int) (tw : Tok) (hW : 4 ≤ W) (hW2 : W ≤ 11) (qe : Addr) (us : List Value) (ws : List Str) (nn : Nat) (hws : ws.length ≤ 3) (hus : StrsAre us ws)
  (dp un : Nat) (gd : Option (List Code)) (cn : Str) (cs : Scope) (a : Addr) (ccd : Value) (cl : List (Str × Addr)) (outer : List Env) (A₀ : Around) (base h₀ : Heap) (L : Addr) (m : Str → Option Value) (news : List (Addr × Obj)) (s : Shared) (Q E : Value → Shared → Prop)
  (B : Below A₀ base outer h₀) (F : Fr h₀ L s.heap m) (X : (Mine.K w.params).In h₀) (N : News h₀ L s.heap news) (T : Top p loose mean mg mb h₀) (hk : cs.kind = .function) (hd : dp + 1 < recursionLimit) (hu : un + 8 < cLine)
  (hq : (qe, listOf us.toArray nn) ∈ news)
  (ret : ∀ r rs c h' tk', Fr h₀ L h' m → News h₀ L h' ((r, listOf rs.toArray c) :: news) → (∀ q ∈ news, q.1 < r) → StrsAre rs ((written W (ws.map toL) (toL line)).map ofL) → Q (.ref r) { s with heap := h', toks := tk' }) :
  wpAny (model PySem.Challenge.pw_rw0036_01 w) (ktrTop dp un gd cn cs L a ccd cl outer) (call (.ref 89) [.str line tx, .int W tw, .ref qe]) Q E s := by
  k_with_none
  refine wpAny_call ?_
  k_dflt cell_enter
  rename Fr _ _ _ _ => lF'
  obtain ⟨u0, F0⟩ : ∃ u, Fr _ _ _ (kstB u [(Str.ofString "line", .str line tx), (Str.ofString "width", .int W tw), (Str.ofString "end", .ref qe)]) := ⟨_, fr_known lF' ⟨rfl, rfl, rfl, trivial⟩⟩
  clear lF'
  dsimp only [kstB] at F0
  (k_with "pyIter str" => fail "x")
  k_steps
  rename Fr _ _ _ _ => lF'
  rename News _ _ _ _ => lN'
  obtain ⟨ri, left0, tl, tu, u1, hleft, l1, F1, N1⟩ : ∃ ri left0 tl tu u, (line.length : Int) + 2 * Txt.count line (Str.ofString "=") = left0 ∧ (∀ p ∈ news, p.1 < ri) ∧ Fr _ _ _ (kstB u [(Str.ofString "line", .str line tx), (Str.ofString "width", .int W tw), (Str.ofString "end", .ref qe), (Str.ofString "items", .ref ri), (Str.ofString "used", .int 0 tu), (Str.ofString "left", .int left0 tl)]) ∧ News _ _ _ ((ri, PySem.W.listOf #[] 0) :: news) := ⟨_, _, _, _, _, rfl, by assumption, fr_known lF' ⟨rfl, rfl, rfl, rfl, rfl, rfl, trivial⟩, lN'⟩
  clear lF' lN'
  dsimp only [kstB] at F1
  refine' KStt.kst_text (σ := List Value × List Str × Nat × Int × Tok × Int × Tok) (fun c => (ri, PySem.W.listOf c.1.toArray c.2.2.1) :: news)
      (fun c => [(Str.ofString "items", .ref ri), (Str.ofString "used", .int c.2.2.2.1 c.2.2.2.2.1), (Str.ofString "left", .int c.2.2.2.2.2.1 c.2.2.2.2.2.2)])
      (fun c => StrsAre c.1 c.2.1) [Str.ofString "size"]
      (fun pre c => 0 ≤ c.2.2.2.1 ∧ c.2.2.2.1 ≤ 3 * (pre.length : Int) ∧ c.2.2.2.2.2.1 ≤ 300 ∧ -300 ≤ c.2.2.2.2.2.1 ∧ c.2.1.length ≤ 5 * pre.length ∧ WI W (ws.map toL) left0 pre c.2.1 c.2.2.2.1 c.2.2.2.2.2.1) ⟨[], [], 0, 0, tu, left0, tl⟩ rfl F1 ?kn ?kf ?kk ?kp ?_ ?_
  case kn => exact N1
  case kf => exact StrsAre.nil
  case kk => (intro p hp; rcases List.mem_cons.mp hp with rfl | hp; rfl; rcases List.mem_cons.mp hp with rfl | hp; rfl; rw [List.mem_singleton.mp hp]; rfl)
  case kp => exact ws_start hx hleft
  · rintro ⟨us', its, cn', used, tu', left, tl'⟩ pre post n t u h tk own hcodes hoff hsa ⟨b1, b2, b3, b4, b5, hw⟩ F2 N2
    have kMark := kstMark
    have hL := congrArg List.length hcodes
    rw [KStt.codes_length, List.length_append, List.length_cons] at hL
    replace hoff : OwnOff own (ri :: news.map (·.1)) := hoff
    rw [List.cons_append] at N2
    have hq2 : (qe, PySem.W.listOf us.toArray nn) ∈ news ++ own := List.mem_append_left _ hq
    dsimp only [kstB] at F2
    dsimp only at N2 hsa b1 b2 b3 b4 b5 hw
    clear F1 N1
    have hp : pre.length ≤ 100 := by omega
    (k_with "state" => first
      | exact ws_break b2 b3 b1 b5 hp hws hW hw (tok_61 (by assumption)) (by decide) (by assumption) (by assumption)
      | exact ws_break b2 b3 b1 b5 hp hws hW hw (tok_other (by assumption)) (by decide) (by assumption) (by assumption)
      | exact ws_plain b1 b2 b3 b4 b5 hw (tok_61 (by assumption)) (by decide) (.inl (by assumption))
      | exact ws_plain b1 b2 b3 b4 b5 hw (tok_61 (by assumption)) (by decide) (.inr (by assumption))
      | exact ws_plain b1 b2 b3 b4 b5 hw (tok_other (by assumption)) (by decide) (.inl (by assumption))
      | exact ws_plain b1 b2 b3 b4 b5 hw (tok_other (by assumption)) (by decide) (.inr (by assumption)))
    k_steps
  · rintro ⟨us', its, cn', used, tu', left, tl'⟩ u h tk hsa ⟨b1, b2, b3, b4, b5, hw⟩ F2 N2
    have kMark := kstMark
    dsimp only [kstB] at F2
    dsimp only at N2 hsa b1 b2 b3 b4 b5 hw
    clear F1 N1
    rw [KStt.codes_length] at b2 b5
    k_steps
    · exact w_end ret (we_soft hw hleft (last_is t_blank (by assumption)) (by decide) (by assumption)) (by assumption) (by assumption) (by assumption) (by k_mem) (by ktr_rel) (by ktr_rel)
    · exact w_end ret (we_full hw hleft (last_is t_blank (by assumption)) (by decide) (by assumption) (by assumption) (quote_20 (last_is t_blank (by assumption)) (by assumption))) (by assumption) (by assumption) (by assumption) (by k_mem) (by ktr_rel) (by ktr_rel)
    · exact w_end ret (we_full hw hleft (last_is t_blank (by assumption)) (by decide) (by assumption) (by assumption) (quote_09 (last_is t_blank (by assumption)) (by assumption))) (by assumption) (by assumption) (by assumption) (by k_mem) (by ktr_rel) (by ktr_rel)
    · exact w_end ret (we_room hw hleft (last_is t_blank (by assumption)) (by decide) (by assumption) (by assumption) (quote_20 (last_is t_blank (by assumption)) (by assumption))) (by assumption) (by assumption) (by assumption) (by k_mem) (by ktr_rel) (by ktr_rel)
    · exact w_end ret (we_room hw hleft (last_is t_blank (by assumption)) (by decide) (by assumption) (by assumption) (quote_09 (last_is t_blank (by assumption)) (by assumption))) (by assumption) (by assumption) (by assumption) (by k_mem) (by ktr_rel) (by ktr_rel)
    · exact w_end ret (we_soft hw hleft (last_is t_tab (by assumption)) (by decide) (by assumption)) (by assumption) (by assumption) (by assumption) (by k_mem) (by ktr_rel) (by ktr_rel)
    · exact w_end ret (we_full hw hleft (last_is t_tab (by assumption)) (by decide) (by assumption) (by assumption) (quote_20 (last_is t_tab (by assumption)) (by assumption))) (by assumption) (by assumption) (by assumption) (by k_mem) (by ktr_rel) (by ktr_rel)
    · exact w_end ret (we_full hw hleft (last_is t_tab (by assumption)) (by decide) (by assumption) (by assumption) (quote_09 (last_is t_tab (by assumption)) (by assumption))) (by assumption) (by assumption) (by assumption) (by k_mem) (by ktr_rel) (by ktr_rel)
    · exact w_end ret (we_room hw hleft (last_is t_tab (by assumption)) (by decide) (by assumption) (by assumption) (quote_20 (last_is t_tab (by assumption)) (by assumption))) (by assumption) (by assumption) (by assumption) (by k_mem) (by ktr_rel) (by ktr_rel)
    · exact w_end ret (we_room hw hleft (last_is t_tab (by assumption)) (by decide) (by assumption) (by assumption) (quote_09 (last_is t_tab (by assumption)) (by assumption))) (by assumption) (by assumption) (by assumption) (by k_mem) (by ktr_rel) (by ktr_rel)
    · exact w_end ret (we_none hw hleft (by assumption) (by assumption)) (by assumption) (by assumption) (by assumption) (by k_mem) (by ktr_rel) (by ktr_rel)
end Mine
end TW3b
section TW5
open PySem PySem.W PySem.Calls PyProof.Rows
set_option maxRecDepth 100000
set_option maxHeartbeats 1000000
namespace Mine
set_option rowWalk.seconds 0
theorem quote_ok (w : World) (p : Program) (loose : List Str) (mean : ExcName → Option Value) (mg mb : Str → Option Value) (c : Str) (tx : Tok) (hc : toL c = [32] ∨ toL c = [9])
  (dp un : Nat) (gd : Option (List Code)) (cn : Str) (cs : Scope) (a : Addr) (ccd : Value) (cl : List (Str × Addr)) (outer : List Env) (A₀ : Around) (base h₀ : Heap) (L : Addr) (m : Str → Option Value) (news : List (Addr × Obj)) (s : Shared) (Q E : Value → Shared → Prop)
  (B : Below A₀ base outer h₀) (F : Fr h₀ L s.heap m) (X : (Mine.K w.params).In h₀) (N : News h₀ L s.heap news) (T : Top p loose mean mg mb h₀) (hk : cs.kind = .function) (hd : dp + 1 < recursionLimit) (hu : un + 8 < cLine)
  (ret : ∀ t h' tk', Fr h₀ L h' m → News h₀ L h' news → Q (.str (ofL (quoteL ((toL c).headD 0))) t) { s with heap := h', toks := tk' }) :
  wpAny (model PySem.Challenge.pw_rw0036_01 w) (ktrTop dp un gd cn cs L a ccd cl outer) (call (.ref 69) [.str c tx]) Q E s := by
  rcases hc with hc | hc
  · obtain rfl : c = Str.ofString " " := toL_inj (by rw [hc, t_blank])
    k_with_none
    refine wpAny_call ?_
    k_dflt cell_enter
    k_steps
    all_goals exact cb_retS ret (toL_inj (by decide +kernel)) (by assumption) (by assumption)
  · obtain rfl : c = Str.ofString "\t" := toL_inj (by rw [hc, t_tab])
    k_with_none
    refine wpAny_call ?_
    k_dflt cell_enter
    k_steps
    all_goals exact cb_retS ret (toL_inj (by decide +kernel)) (by assumption) (by assumption)
theorem quote_use (w : World) (p : Program) (loose : List Str) (mean : ExcName → Option Value) (mg mb : Str → Option Value) (c : Str) (tx : Tok)
  (dp un : Nat) (gd : Option (List Code)) (cn : Str) (cs : Scope) (a : Addr) (ccd : Value) (cl : List (Str × Addr)) (outer : List Env) (A₀ : Around) (base h₀ : Heap) (L : Addr) (m : Str → Option Value) (news : List (Addr × Obj)) (s : Shared) (Q E : Value → Shared → Prop)
  (B : Below A₀ base outer h₀) (F : Fr h₀ L s.heap m) (X : (Mine.K w.params).In h₀) (N : News h₀ L s.heap news) (T : Top p loose mean mg mb h₀) (hk : cs.kind = .function) (hc : toL c = [32] ∨ toL c = [9]) (hd : dp + 1 < recursionLimit) (hu : un + 8 < cLine)
  (ret : ∀ y t h' tk', y = ofL (quoteL ((toL c).headD 0)) → y.length = 3 → Fr h₀ L h' m → News h₀ L h' news → Q (.str y t) { s with heap := h', toks := tk' }) :
  wpAny (model PySem.Challenge.pw_rw0036_01 w) (ktrTop dp un gd cn cs L a ccd cl outer) (call (.ref 69) [.str c tx]) Q E s :=
  quote_ok w p loose mean mg mb c tx hc dp un gd cn cs a ccd cl outer A₀ base h₀ L m news s Q E B F X N T hk hd hu fun t h' tk' F' N' => ret _ t h' tk' rfl (by rw [ofL_length, quoteL_len]) F' N'
end Mine
end TW5
section TW4
open PySem PySem.W PySem.Calls PyProof.Rows
set_option maxRecDepth 100000
set_option maxHeartbeats 4000000
namespace Mine
theorem sum_le {n : Nat} : ∀ l : List Nat, (∀ x ∈ l, x ≤ n) → l.sum ≤ n * l.length
  | [], _ => by simp
  | a :: r, h => by
    have h1 := sum_le r fun x hx => h x (.tail _ hx)
    have h2 := h a (.head _)
    rw [List.sum_cons, List.length_cons, Nat.mul_succ]; omega
theorem joinK {prog : Program} {w : World} {A : Around} {E : Value → Shared → Prop} {s : Shared} {x : Str} {t : Tok} {h₀ : Heap} {L : Addr} {news : List (Addr × Obj)} {Q : Value → Shared → Prop} {D : Addr} {us : List Value} {ws : List Str} {n : Nat}
    (N : News h₀ L s.heap news) (ha : (D, PySem.W.listOf us.toArray n) ∈ news) (hi : StrsAre us ws) (hx : x.length ≤ 64) (hl : ∀ y ∈ ws, y.length ≤ 200) (hn : ws.length ≤ 7200)
    (h : ∀ t' k, Q (.str (Txt.join x ws) t') { s with toks := k }) : wpAny (model prog w) A (call (.builtin "str.join") [.str x t, .ref D]) Q E s := by
  refine join_listC ⟨_, (N _ ha).1, rfl, n, rfl⟩ (by simpa using hi) hx ?_ h
  have h1 := sum_le (n := 200) (ws.map (·.length)) (fun y hy => by obtain ⟨z, hz, rfl⟩ := List.mem_map.mp hy; exact hl z hz)
  rw [List.length_map] at h1
  omega
theorem all_one {its : List Str} {x : Str} (h : ∀ y ∈ its, y.length ≤ 200) (hx : x.length ≤ 200) : ∀ y ∈ its ++ [x], y.length ≤ 200 := fun y hy => by
  rcases List.mem_append.mp hy with hy | hy
  · exact h y hy
  · rw [List.mem_singleton.mp hy]; exact hx
local macro_rules | `(tactic| walk_at "getMethod str") => `(tactic| (k_here; (with_reducible show wpAny _ _ (getMethod (Value.str _ _) (PySem.Str.ofString "translate") _) _ _ _); (with_reducible refine get_translate ?_)))
local macro_rules | `(tactic| walk_at "call builtin:str.translate") => `(tactic| (k_here; (try dsimp only); (refine call_translate71 (by k_in) (by assumption) (by omega) ?_); intro t9 k9; (try k_sweep)))
local macro_rules | `(tactic| k_mem) => `(tactic| first | assumption | exact List.mem_cons_self .. | (refine List.mem_cons_of_mem _ ?_; k_mem))
local macro_rules | `(tactic| walk_at "getAttr ref") => `(tactic| (k_here; (with_reducible show wpAny _ _ (getAttr (Value.ref _) (PySem.Str.ofString "append") true) _ _ _); (refine' getB ?F ?N ?a ?_; (case F => k_asm); (case N => k_asm); (case a => k_mem); k_whole; intro q' h' F' N' l1; (try k_lt l1); (try k_sweep))))
local macro_rules | `(tactic| walk_at "callWith ref") => `(tactic| (k_here; (with_reducible show wpAny _ _ (callWith _ (Value.ref _) _ (backTo _ (starEach (_ :: _) _)) []) _ _ _); k_dflt (refine' callWith_bnd (a := _) ?kfbN ?kfbM ?_; (case kfbN => k_asm); (case kfbM => k_mem); k_whole)))
local macro_rules | `(tactic| walk_at "And") => `(tactic| ((with_reducible show StandsB _ _ _ ∧ _); (refine ⟨standsB (by with_reducible assumption) (by k_mem), ?_⟩); (try dsimp only [List.nil_append, List.cons_append])))
set_option hygiene false in
local macro_rules | `(tactic| walk_at "call builtin:str.splitlines") => `(tactic| (k_here; (try dsimp only); (refine' linesK ?F ?N ?_ ?z; (case F => k_asm); (case N => k_asm); (case z => first | omega | (rw [ofL_length]; exact tr_short (by assumption))); k_whole; intro rl vs zs h' k' hz hv F' N' l1; (try k_lt l1); (try k_sweep))))
local macro_rules | `(tactic| walk_at "StandsB") => `(tactic| ((with_reducible show StandsB _ _ _); exact standsB (by with_reducible assumption) (by k_mem)))
local macro_rules | `(tactic| walk_at "call ref") => `(tactic| (k_here; (try dsimp only [List.nil_append, List.cons_append]); (with_reducible show wpAny _ _ (call (Value.ref _) [Value.str _ _]) _ _ _); k_dflt (refine' callB ?F ?N ?b ?U ?i ?_ ?z; (case F => k_asm); (case N => k_asm); (case b => k_mem); (case U => k_upd); (case i => first | assumption | exact StrsAre.nil); (case z => first | omega | (simp only [List.length_append, List.length_cons, List.length_nil]; omega)); k_whole; intro h' F' N' hS'; (try k_sweep))))
local macro_rules | `(tactic| walk_at "call ref") => `(tactic| (k_here; (with_reducible show wpAny _ _ (call (Value.ref _) [Value.str _ _]) _ _ _); k_dflt (refine' quote_use _ _ _ _ _ _ _ _ _ _ _ _ _ _ _ _ _ _ _ _ _ _ _ _ _ _ ?k1 ?k2 ?k3 ?k4 ?k5 ?kK ?hc ?kd ?ku ?_; (case k1 => k_asm); (case k2 => k_asm); (case k3 => k_asm); (case k4 => k_asm); (case k5 => k_asm); (case kK => first | exact rfl | assumption); (case hc => exact q_ask (by assumption) (by assumption) (by assumption) (by assumption)); (case kd => ktr_room); (case ku => ktr_units); k_whole; intro y9 t9 h9 tk9 hy9 hl9 F9 N9; (try dsimp only); (try k_fold))))
local macro_rules | `(tactic| walk_at "call builtin:str.join") => `(tactic| (k_here; (try dsimp only); (with_reducible show wpAny _ _ (call (Value.builtin "str.join") [Value.str _ _, Value.ref _]) _ _ _); k_dflt (refine' joinK ?N ?a ?i ?x ?l ?n ?_; (case N => k_asm); (case a => k_mem); (case i => assumption); (case x => omega); (case l => first | assumption | exact all_one (by assumption) (by decide)); (case n => first | omega | (simp only [List.length_append, List.length_cons, List.length_nil]; omega)); k_whole; intro _ _)))
local macro_rules | `(tactic| walk_at "InvEndN") => `(tactic| (k_dflt ((rename News _ _ _ _ => nE'); (rename Fr _ _ _ _ => fE'); (refine kF_end ⟨_, _, _⟩ fE' nE' (by first | kst_in | kst_inAny) (by first | (intro p hp; kst_mem) | kst_anyIn) (by rfl) (by (dsimp only [KnownAt]; (repeat (refine ⟨some_of rfl rfl, ?_⟩)); exact trivial)) (by ((try dsimp only); k_extra "state"))))))
local macro_rules | `(tactic| walk_at "KwPost") => `(tactic| (dsimp only [KwPost]))
local macro_rules | `(tactic| walk_at "KwEnd") => `(tactic| ((rename News _ _ _ _ => nE'); (rename Fr _ _ _ _ => fE'); (refine kw_end ⟨_, _, _, _, _, _⟩ fE' nE' (by first | kst_in | kst_inAny) (by (dsimp only [KnownAt]; (repeat (refine ⟨some_of rfl rfl, ?_⟩)); exact trivial)) (by ((try dsimp only); k_extra "state")) (by (dsimp only; omega)))))
set_option rowWalk.seconds 0
theorem enc_ok (w : World) (p : Program) (loose : List Str) (mean : ExcName → Option Value) (mg mb : Str → Option Value) (body : Str) (tx : Tok) (hx : body.length ≤ 20) (hsg : Signs (toL body)) (W : Int) (tw : Tok) (hW : 4 ≤ W) (hW2 : W ≤ 11) (eol : Str) (te : Tok) (heol : eol.length ≤ 3)
  (dp un : Nat) (gd : Option (List Code)) (cn : Str) (cs : Scope) (a : Addr) (ccd : Value) (cl : List (Str × Addr)) (outer : List Env) (A₀ : Around) (base h₀ : Heap) (L : Addr) (m : Str → Option Value) (news : List (Addr × Obj)) (s : Shared) (Q E : Value → Shared → Prop)
  (B : Below A₀ base outer h₀) (F : Fr h₀ L s.heap m) (X : (Mine.K w.params).In h₀) (N : News h₀ L s.heap news) (T : Top p loose mean mg mb h₀) (hk : cs.kind = .function) (hd : dp + 5 < recursionLimit) (hu : un + 60 < cLine)
  (ret : ∀ t h' tk', Fr h₀ L h' m → News h₀ L h' news → Q (.str (ofL (encT W.toNat (toL eol) (toL body))) t) { s with heap := h', toks := tk' }) :
  wpAny (model PySem.Challenge.pw_rw0036_01 w) (ktrTop dp un gd cn cs L a ccd cl outer) (call (.ref 82) [.str body tx, .int W tw, .str eol te]) Q E s := by
  k_with_none
  refine wpAny_call ?_
  k_dflt (refine' code_def ?k1 ?k2 ?k3 ?k4 ?k5 ?kA ?kF ?kK ?k6 ?k7 ?k8 ?k9 ?kB ?_ ?c2 ?c3 ?c4 ?c5; (case kA => exact rfl); (case kF => exact rfl); (case kK => assumption); (case k1 => k_asm); (case k2 => k_asm); (case k3 => k_asm); (case k4 => k_asm); (case k5 => k_asm); (case k6 => k_is); (case k7 => k_is); (case k8 => ktr_room); (case k9 => exact binds_K (by k_in) rfl (by k_is) rfl rfl rfl); (case c5 => decide); (case kB => exact locs rfl); (case c2 => exact rfl); (case c3 => exact rfl); (case c4 => exact rfl); k_whole; intro g' L' h' FG' F' N' B' X' T'; (try dsimp only); (try k_lift B'); (try k_fold))
  rename Fr _ _ _ _ => lF'
  obtain ⟨u0, F0⟩ : ∃ u, Fr _ _ _ (kstB u [(Str.ofString "body", .str body tx), (Str.ofString "maxlinelen", .int W tw), (Str.ofString "eol", .str eol te)]) := ⟨_, fr_known lF' ⟨rfl, rfl, rfl, trivial⟩⟩
  clear lF'
  dsimp only [kstB] at F0
  k_steps
  · rename Fr _ _ _ _ => lF'
    rename News _ _ _ _ => lN'
    obtain ⟨q, ri, sb, tb, ts, tm, u1, hsb, l0, l1, l2, F1, N1⟩ : ∃ q ri sb tb ts tm u, toL sb = 61 :: toL eol ∧ (∀ p ∈ news, p.1 < ri) ∧ (@LT.lt Nat _ ri q ∧ AllLt q news) ∧ (@LT.lt Nat _ q rl ∧ @LT.lt Nat _ ri rl ∧ AllLt rl news) ∧
        Fr _ _ _ (kstB u [(Str.ofString "body", .str (ofL (tr (toL body))) tb), (Str.ofString "maxlinelen", .int W tw), (Str.ofString "eol", .str eol te), (Str.ofString "soft_break", .str sb ts), (Str.ofString "maxlinelen1", .int (W - 1) tm), (Str.ofString "encoded_body", .ref ri), (Str.ofString "append", .ref q)]) ∧
        News _ _ _ ((rl, PySem.W.listOf (List.toArray vs) 0) :: (q, bnd ri) :: (ri, PySem.W.listOf #[] 0) :: news) :=
      ⟨_, _, _, _, _, _, _, by rw [toL_append, t_eq]; rfl, by assumption, by assumption, by assumption, fr_known lF' ⟨some_of rfl rfl, some_of rfl rfl, some_of rfl rfl, some_of rfl rfl, some_of rfl rfl, some_of rfl rfl, some_of rfl rfl, trivial⟩, lN'⟩
    clear lF' lN'
    dsimp only [kstB] at F1
    have hl0 : (body.length : Int) ≠ 0 := by assumption
    have hzz := zs_size (e_all hsg hz)
    have hb60 : (tr (toL body)).length ≤ 60 := by
      have := tr_len3 (toL body)
      rw [toL_length] at this; omega
    have hbl := body_len hl0
    have hsl : sb.length ≤ 4 := by
      have h1 := congrArg List.length hsb
      rw [toL_length, List.length_cons, toL_length] at h1
      omega
    refine' loopF_txt (σ := List Value × List Str × Nat) (fun c => (rl, PySem.W.listOf vs.toArray 0) :: (q, bnd ri) :: (ri, PySem.W.listOf c.1.toArray c.2.2) :: news)
      (fun c => [(Str.ofString "body", .str (ofL (tr (toL body))) tb), (Str.ofString "maxlinelen", .int W tw), (Str.ofString "eol", .str eol te), (Str.ofString "soft_break", .str sb ts), (Str.ofString "maxlinelen1", .int (W - 1) tm), (Str.ofString "encoded_body", .ref ri), (Str.ofString "append", .ref q)])
      (fun i c => StrsAre c.1 c.2.1 ∧ EI W eol zs i c.2.1) ⟨[], [], 0⟩ rfl (fun c => .head _) hv ?kF ?kn ?kk ?kp ?_ ?_
    case kF => exact F1
    case kn => exact N1
    case kk => exact ⟨some_of rfl rfl, some_of rfl rfl, some_of rfl rfl, some_of rfl rfl, some_of rfl rfl, some_of rfl rfl, some_of rfl rfl, trivial⟩
    case kp => exact ⟨.nil, ei_start⟩
    · rintro ⟨us, its, cn⟩ i z t u h tk own hzi hoff ⟨hsa, hE⟩ F2 N2
      have kMark := kstMark
      replace hoff : OwnOff own (rl :: q :: ri :: news.map (·.1)) := hoff
      rw [List.cons_append, List.cons_append, List.cons_append] at N2
      dsimp only [kstB] at F2
      dsimp only at N2 hsa hE
      clear F1 N1
      have hzk : z ∈ zs := List.mem_of_getElem? hzi
      have hzl : z.length ≤ 60 := Nat.le_trans (hzz.2 z hzk) hb60
      have hpl : i ≤ 60 := by
        have := (List.getElem?_eq_some_iff.mp hzi).1
        have := hzz.1
        omega
      have hel : its.length ≤ 6000 := by have := hE.2.1; omega
      (k_with "exec While Compare cons nil" => (
        (rename Fr _ _ _ _ => lF'); (rename News _ _ _ _ => lN');
        (refine' whileF (σ := List Value × List Str × Nat × Int × Tok × Tok) (fun c => (rl, PySem.W.listOf vs.toArray 0) :: (q, bnd ri) :: (ri, PySem.W.listOf c.1.toArray c.2.2.1) :: (news ++ own))
          (fun c => [(Str.ofString "body", .str (ofL (tr (toL body))) tb), (Str.ofString "maxlinelen", .int W tw), (Str.ofString "eol", .str eol te), (Str.ofString "soft_break", .str sb ts), (Str.ofString "maxlinelen1", .int (W - 1) tm), (Str.ofString "encoded_body", .ref ri), (Str.ofString "append", .ref q), (Str.ofString "line", .str z t), (Str.ofString "laststart", .int ((z.length : Int) - 1 - W) c.2.2.2.2.2), (Str.ofString "start", .int c.2.2.2.1 c.2.2.2.2.1)])
          (fun c => StrsAre c.1 c.2.1 ∧ EJ W eol z its c.2.1 c.2.2.2.1) (fun c => z.length - c.2.2.2.1.toNat) ⟨us, its, cn, 0, _, _⟩ lF' lN' ⟨some_of rfl rfl, some_of rfl rfl, some_of rfl rfl, some_of rfl rfl, some_of rfl rfl, some_of rfl rfl, some_of rfl rfl, some_of rfl rfl, some_of rfl rfl, some_of rfl rfl, trivial⟩ ⟨hsa, ej_start hE.2.2⟩ ?_);
        (rintro ⟨us', its', cn', start, tst, tls⟩ u' h' tk' ⟨hsa', hJ⟩ F4 N4);
        (dsimp only [kstB] at F4);
        (dsimp only at N4 hsa' hJ);
        (have j1 := hJ.2.1); (have j2 := hJ.2.2.1); (have j3 := hJ.2.2.2.1);
        clear lF' lN' F2 N2))
      (k_with "state" => with_reducible ((refine ⟨by assumption, ?_⟩); first
        | exact ej_1 hW hW2 (by assumption) (by assumption) (by assumption)
        | exact ej_2 hW hW2 (by assumption) (by assumption) (by assumption) (by assumption)
        | exact ej_3 hW hW2 (by assumption) (by assumption) (by assumption) (by assumption)
        | exact e_q1 hW hzi hE (by assumption) (by assumption) hzl (by assumption) heol (by assumption) (by assumption) (by assumption)
        | exact e_q2 hsb hW hzi hE (by assumption) (by assumption) hzl (by assumption) heol (by assumption) (by assumption)
        | exact e_q3 hsb hW hzi hE (by assumption) (by assumption) hzl (by assumption) heol (by assumption) (by assumption) (by assumption) (by assumption)
        | exact e_plain hW hzi hE (by assumption) (by assumption) hzl (.inl (by assumption))
        | exact e_plain hW hzi hE (by assumption) (by assumption) hzl (.inr (by assumption))))
      k_steps
    · rintro ⟨us, its, cn⟩ u h tk ⟨hsa, hE⟩ F2 N2
      have kMark := kstMark
      dsimp only [kstB] at F2
      dsimp only at N2 hsa hE
      clear F1 N1
      have hel : its.length ≤ 6000 := by
        have h1 := hE.2.1
        have h2 := hzz.1
        omega
      have hei := hE.2.2
      k_steps
      · exact cb_retS ret (e_fin hsg hz hE (by assumption) (by assumption)) (by assumption) (cb_drop (by assumption) fun p hp => .tail _ (.tail _ (.tail _ hp)))
      · exact cb_retS ret (e_fin' hsg hz hE (by assumption) (by assumption)) (by assumption) (cb_drop (by assumption) fun p hp => .tail _ (.tail _ (.tail _ hp)))
  · exact cb_retS ret (e_empty (by assumption)) (by assumption) (by assumption)
end Mine
end TW4
section TW6
open PySem PySem.W PySem.Calls PyProof.Rows
set_option maxRecDepth 100000
set_option maxHeartbeats 4000000
namespace Mine
theorem newPlain_ne {h : Heap} {news : List (Addr × Obj)} {D : Addr} {items : Array Value} (P : NewPlain h news D items) : ∀ p ∈ news, p.1 ≠ D := P.2
theorem written_use (w : World) (p : Program) (loose : List Str) (mean : ExcName → Option Value) (mg mb : Str → Option Value) (line : Str) (tx : Tok) (W : Int) (tw : Tok) (qe : Addr) (us : List Value) (ws : List Str) (nn q : Nat)
  (dp un : Nat) (gd : Option (List Code)) (cn : Str) (cs : Scope) (a : Addr) (ccd : Value) (cl : List (Str × Addr)) (outer : List Env) (A₀ : Around) (base h₀ : Heap) (L : Addr) (m : Str → Option Value) (news : List (Addr × Obj)) (s : Shared) (Q E : Value → Shared → Prop)
  (B : Below A₀ base outer h₀) (F : Fr h₀ L s.heap m) (X : (Mine.K w.params).In h₀) (N : News h₀ L s.heap news) (T : Top p loose mean mg mb h₀) (hk : cs.kind = .function)
  (hus : StrsAre us ws) (hwq : ws = List.replicate q (Str.ofString "\"")) (hq3 : q ≤ 3) (hx : line.length ≤ 20) (hlow : ∀ c ∈ toL line, c < 0x110000) (hW : 4 ≤ W) (hW2 : W ≤ 11) (hq : (qe, listOf us.toArray nn) ∈ news) (hd : dp + 1 < recursionLimit) (hu : un + 8 < cLine)
  (ret : ∀ r rs xs c h' tk', xs = (written W (ws.map toL) (toL line)).map ofL → xs.length ≤ 120 → (∀ y ∈ xs, LowS y) → Fr h₀ L h' m → News h₀ L h' ((r, listOf (List.toArray rs) c) :: news) → (∀ q ∈ news, q.1 < r) → StrsAre rs xs → Q (.ref r) { s with heap := h', toks := tk' }) :
  wpAny (model PySem.Challenge.pw_rw0036_01 w) (ktrTop dp un gd cn cs L a ccd cl outer) (call (.ref 89) [.str line tx, .int W tw, .ref qe]) Q E s := by
  have hwl : ws.length = q := by rw [hwq, List.length_replicate]
  refine written_ok w p loose mean mg mb line tx (by omega) W tw hW hW2 qe us ws nn (by omega) hus dp un gd cn cs a ccd cl outer A₀ base h₀ L m news s Q E B F X N T hk hd hu hq fun r rs c h' tk' F' N' hl hS => ret r rs _ c h' tk' rfl ?_ ?_ F' N' hl hS
  · have h1 := written_len W (ws.map toL) (toL line)
    rw [List.length_map, hwl, toL_length] at h1
    have h3 : (q + 2) * (line.length + 1) ≤ 5 * 21 := Nat.mul_le_mul (by omega) (by omega)
    rw [List.length_map]; omega
  · intro y hy
    obtain ⟨x, hx, rfl⟩ := List.mem_map.mp hy
    have hm := rep_marks q
    rw [← hwq] at hm
    rw [hm] at hx
    exact written_low hlow x hx
local macro_rules | `(tactic| walk_at "call builtin:str.replace") => `(tactic| (k_here; (try dsimp only); (with_reducible show wpAny _ _ (call (Value.builtin _) [Value.str _ _, Value.str _ _, Value.str _ _]) _ _ _); k_dflt (refine replaceK (by first | omega | exact Nat.le_trans (r1_len _) (by omega)) (by decide) (by assumption) (Nat.le_add_left 1 _) (by decide +kernel) ?_); intro _ _ _; (try k_sweep)))
set_option hygiene false in
local macro_rules | `(tactic| walk_at "call builtin:str.split") => `(tactic| (k_here; (try dsimp only); k_dflt (refine' splitK ?F ?N ?y ?_ ?z; (case F => k_asm); (case N => k_asm); (case y => decide +kernel); (case z => exact Nat.le_trans (r2_len body) (by omega)); k_whole; intro rl vs zs h' k' hz hv F' N' l1; (try k_lt l1); (try k_sweep))))
local macro_rules | `(tactic| walk_at "execs cons") => `(tactic| (k_here; (with_reducible refine gen_toks1 ?_); intro tk9 htk9))
local macro_rules | `(tactic| walk_at "execs cons") => `(tactic| (k_here; (with_reducible rename NewPlain _ _ _ _ => npX); (have hneD := newPlain_ne npX); k_made; walk_at "execs cons"))
local macro_rules | `(tactic| k_all) => `(tactic| assumption)
local macro_rules | `(tactic| walk_at "execs nil") => `(tactic| (k_here; (with_reducible refine gen_toks1 ?_); intro tk9 htk9))
local macro_rules | `(tactic| k_mem) => `(tactic| first | assumption | exact List.mem_cons_self .. | (refine List.mem_cons_of_mem _ ?_; k_mem))
local macro_rules | `(tactic| walk_at "call builtin:len") => `(tactic| (k_here; (try dsimp only); (with_reducible show wpAny _ _ (call (Value.builtin _) [Value.ref _]) _ _ _); k_dflt (refine' lenK ?lN ?la ?li ?lz ?_; (case lN => k_asm); (case la => k_mem); (case li => assumption); (case lz => omega); k_whole; intro _ _)))
local macro_rules | `(tactic| walk_at "binaryOp Add ref ref") => `(tactic| (k_here; (with_reducible show wpAny _ _ (binaryOp _ (Value.ref _) (Value.ref _)) _ _ _); k_dflt (refine' addS ?F ?N ?a ?b ?i ?j ?_ ?z; (case F => k_asm); (case N => k_asm); (case a => k_mem); (case b => k_mem); (case i => first | assumption | exact StrsAre.nil); (case j => assumption); (case z => first | omega | (simp only [List.length_nil]; omega))); k_whole; intro D' us' h' F' N' l1 hS'; (try k_lt l1); (try k_sweep)))
local macro_rules | `(tactic| walk_at "inplaceOp Add ref") => `(tactic| (k_here; (with_reducible show wpAny _ _ (inplaceOp _ (Value.ref _) (Value.ref _)) _ _ _); k_dflt (refine' iaddS ?F ?N ?U ?b ?i ?j ?_ ?z; (case F => k_asm); (case N => k_asm); (case U => (intro c'; k_upd)); (case b => k_mem); (case i => assumption); (case j => assumption); (case z => first | omega | (simp only [List.length_append, List.length_nil]; omega))); k_whole; intro c' h' F' N' hS'; (try dsimp only at N'); (try k_sweep)))
local macro_rules | `(tactic| walk_at "subscriptTail Name Name ref int") => `(tactic| (k_here; (with_reducible show wpAny _ _ (subscriptTail _ _ (Value.ref _) (Value.int _ _)) _ _ _); k_dflt (refine' itemS ?iN ?ia ?ii ?i0 ?ih ?ix ?_ ?is; (case iN => k_asm); (case ia => k_mem); (case ii => assumption); (case i0 => omega); (case ih => omega); (case ix => assumption); (case is => with_unfolding_all rfl); k_whole; intro t9)))
local macro_rules | `(tactic| walk_at "call ref") => `(tactic| (k_here; (try dsimp only [List.nil_append, List.cons_append]); (with_reducible show wpAny _ _ (call (Value.ref _) [Value.str _ _, Value.int _ _, Value.ref _]) _ _ _); k_dflt (refine' written_use _ _ _ _ _ _ _ _ _ _ _ _ _ _ _ _ _ _ _ _ _ _ _ _ _ _ _ _ _ _ _ _ _ ?k1 ?k2 ?k3 ?k4 ?k5 ?kK ?ku1 ?ku2 ?ku3 ?ku4 ?ku5 ?ku6 ?ku7 ?ku8 ?kd ?ku ?_; (case k1 => k_asm); (case k2 => k_asm); (case k3 => k_asm); (case k4 => k_asm); (case k5 => k_asm); (case kK => first | exact rfl | assumption); (case ku8 => k_mem); (case ku1 => assumption); (case ku2 => assumption); (case ku3 => assumption); (case ku4 => assumption); (case ku5 => assumption); (case ku6 => omega); (case ku7 => omega); (case kd => ktr_room); (case ku => ktr_units); k_whole; intro r9 rs9 xs9 c9 h9 tk9 hx9 hl9 ho9 F9 N9 l1 hS9; (try k_lt l1); (try dsimp only); (try k_fold))))
set_option hygiene false in
local macro_rules | `(tactic| walk_at "subscriptTail Name Slice ref ref") => `(tactic| (k_here; (with_reducible show wpAny _ _ (subscriptTail _ (PySem.Expr.Slice _ _ none _) (Value.ref _) (Value.ref _)) _ _ _); k_dflt (refine' sliceS ?sF ?sN ?sa ?sp ?sq ?si ?sm ?_ ?ss ?st ?sz; (case sF => k_asm); (case sN => k_asm); (case sa => k_mem); (case sp => kmk_part); (case sq => kmk_part); (case si => assumption); (case sm => first | with_reducible exact strs_run (by assumption) (by decide) (by decide) | exact strs_from (by assumption) (by decide)); (case ss => with_unfolding_all rfl); (case st => kmk_pure); (case sz => omega)); intro DS rsS h' F' N' l1 hS'; (try k_lt l1); (try k_sweep)))
theorem ok_part {its : List Str} (h : ∀ y ∈ its, LowS y) (a b : Nat) : ∀ z ∈ (its.drop a).take b, PyData.strOk z = true := fun z hz => strOk_low (h z (List.mem_of_mem_drop (List.mem_of_mem_take hz)))
theorem ok_two : ∀ z ∈ [Str.ofString " ", Str.ofString "\""], PyData.strOk z = true := by decide +kernel
local macro_rules | `(tactic| walk_at "compareOp NotEq ref ref") => `(tactic| (k_here; (with_reducible show wpAny _ _ (compareOp CmpOp.NotEq (Value.ref _) (Value.ref _)) _ _ _); k_dflt (refine' neS ?nN ?na ?nb ?ni ?nj ?oi ?oj ?nu ?_; (case nN => k_asm); (case na => k_mem); (case nb => k_mem); (case ni => assumption); (case nj => exact StrsAre.cons _ _ (StrsAre.cons _ _ .nil)); (case oi => exact ok_part (by assumption) _ _); (case oj => exact ok_two); (case nu => first | ktr_units | ke_room); k_whole)))
local macro_rules | `(tactic| walk_at "pyIter ref") => `(tactic| ((rename IsRange _ _ _ _ _ _ _ _ => rgX); refine Mine.stop ?_))
local macro_rules | `(tactic| walk_at "call builtin:str.split") => `(tactic| (k_here; refine Mine.stop ?_))
local macro_rules | `(tactic| walk_at "InvEndN") => `(tactic| (k_dflt ((rename News _ _ _ _ => nE'); (rename Fr _ _ _ _ => fE'); (refine kF_end ⟨_, _, _⟩ fE' nE' (by first | kst_in | kst_inAny) (by first | (intro p hp; kst_mem) | kst_anyIn) (by rfl) (by (dsimp only [KnownAt]; (repeat (refine ⟨some_of rfl rfl, ?_⟩)); exact trivial)) (by ((try dsimp only); k_extra "state"))))))
local macro_rules | `(tactic| walk_at "InvEndN") => `(tactic| (k_dflt ((rename News _ _ _ _ => nE'); (rename Fr _ _ _ _ => fE'); (refine kF_end ⟨_, _, _, _⟩ fE' nE' (by first | kst_in | kst_inAny) (by first | (intro p hp; kst_mem) | kst_anyIn) (by rfl) (by (dsimp only [KnownAt]; (repeat (refine ⟨some_of rfl rfl, ?_⟩)); exact trivial)) (by ((try dsimp only); k_extra "state"))))))
set_option rowWalk.seconds 0
theorem due_ok (w : World) (p : Program) (loose : List Str) (mean : ExcName → Option Value) (mg mb : Str → Option Value) (ahead : Str) (ta : Tok) (ha : ahead.length ≤ 5) (hla : ∀ c ∈ toL ahead, c < 0x110000) (body : Str) (tb : Tok) (hx : body.length ≤ 20) (hlb : ∀ c ∈ toL body, c < 0x110000) (W : Int) (tw : Tok) (hW : 3 ≤ W) (hW2 : W ≤ 11) (qe : Addr) (us : List Value) (nn q : Nat) (ws : List Str) (hwq : ws = List.replicate q (Str.ofString "\"")) (hws : q ≤ 3) (hus : StrsAre us ws)
  (dp un : Nat) (gd : Option (List Code)) (cn : Str) (cs : Scope) (a : Addr) (ccd : Value) (cl : List (Str × Addr)) (outer : List Env) (A₀ : Around) (base h₀ : Heap) (L : Addr) (m : Str → Option Value) (news : List (Addr × Obj)) (s : Shared) (Q E : Value → Shared → Prop)
  (B : Below A₀ base outer h₀) (F : Fr h₀ L s.heap m) (X : (Mine.K w.params).In h₀) (N : News h₀ L s.heap news) (T : Top p loose mean mg mb h₀) (hk : cs.kind = .function) (hd : dp + 5 < recursionLimit) (hu : un + 200 < cLine)
  (hq : (qe, PySem.W.listOf us.toArray nn) ∈ news)
  (ret : ∀ t h' tk', Fr h₀ L h' m → News h₀ L h' news → Q (resV (dueL (toL ahead) (toL body) W.toNat q) t) { s with heap := h', toks := tk' }) :
  wpAny (model PySem.Challenge.pw_rw0036_01 w) (ktrTop dp un gd cn cs L a ccd cl outer) (call (.ref 94) [.str ahead ta, .str body tb, .int W tw, .ref qe]) Q E s := by
  have hwl : ws.length ≤ 3 := by rw [hwq, List.length_replicate]; exact hws
  k_with_none
  refine wpAny_call ?_
  k_dflt cell_enter
  rename Fr _ _ _ _ => lF'
  obtain ⟨u0, F0⟩ : ∃ u, Fr _ _ _ (kstB u [(Str.ofString "ahead", .str ahead ta), (Str.ofString "body", .str body tb), (Str.ofString "width", .int W tw), (Str.ofString "end", .ref qe)]) := ⟨_, fr_known lF' ⟨some_of rfl rfl, some_of rfl rfl, some_of rfl rfl, some_of rfl rfl, trivial⟩⟩
  clear lF'
  dsimp only [kstB] at F0
  (k_with "exec Assign cons ListComp" => refine Mine.stop ?_)
  k_steps
  · exact res_int ret (du_0 (by assumption)) (by assumption) (by assumption)
  · exact res_int ret (du_1 (by assumption) (by assumption)) (by assumption) (by assumption)
  · unfold Stop
    refine wpAny_later1 (by assumption) ?_
    k_with_none
    k_steps
    unfold Stop
    (try dsimp only)
    refine' splitK ?rF ?rN ?ry ?_ ?rz
    case rF => k_asm
    case rN => k_asm
    case ry => decide +kernel
    case rz => exact Nat.le_trans (r2_len body) (by omega)
    k_whole
    intro rl vs zs h' k' hz hv F' N' l1
    (try k_lt l1)
    have hzl : zs.map toL = lns (toL body) := by rw [hz]; exact r2_lines body
    have hzz : zs.length ≤ 30 := by
      have h1 := congrArg List.length hzl
      rw [List.length_map, lns_pl, List.length_append] at h1
      have h2 := (pl_size (toL body)).1
      rw [toL_length] at h2
      have h3 : (if endsOpen (toL body) then [([] : List Nat)] else []).length ≤ 1 := by split <;> simp
      omega
    k_steps
    unfold Stop
    rename CarriedAll _ _ => hca
    rename Fr _ _ _ _ => lF'
    rename News _ _ _ _ => lN'
    rename IsRange _ _ _ _ _ _ _ _ => rgX
    rw [List.filter_eq_self.mpr (fun _ _ => rfl)] at hca
    have hsg := StrsAre.of_carried hca
    clear hca
    rename ∀ p ∈ news, p.1 ≠ _ => hnD
    obtain ⟨D, ys, nd, u1, hys, l0, l2, F1, N1⟩ : ∃ D ys nd u, StrsAre ys (signs ahead) ∧ (∀ p ∈ news, p.1 ≠ D) ∧ (@LT.lt Nat _ D rl ∧ AllLt rl news) ∧
        Fr _ _ _ (kstB u [(Str.ofString "width", .int W tw), (Str.ofString "end", .ref qe), (Str.ofString "items", .ref D), (Str.ofString "lines", .ref rl)]) ∧
        News _ _ _ ((rl, PySem.W.listOf (List.toArray vs) 0) :: (D, PySem.W.listOf (List.toArray ys) nd) :: news) :=
      ⟨_, _, _, _, hsg, by assumption, by assumption, fr_known lF' ⟨some_of rfl rfl, some_of rfl rfl, some_of rfl rfl, some_of rfl rfl, trivial⟩, lN'⟩
    clear lF' lN' hsg hnD
    dsimp only [kstB] at F1
    refine' loopF_range (σ := List Value × List Str × Nat) (n := zs.length) (fun c => (rl, PySem.W.listOf vs.toArray 0) :: (D, PySem.W.listOf c.1.toArray c.2.2) :: news)
      (fun c => [(Str.ofString "width", .int W tw), (Str.ofString "end", .ref qe), (Str.ofString "items", .ref D), (Str.ofString "lines", .ref rl)])
      (fun i c => StrsAre c.1 c.2.1 ∧ DI W q ahead zs i c.2.1 ∧ ∀ y ∈ c.2.1, LowS y) ⟨ys, signs ahead, nd⟩ rfl rgX ?ks ?kr ?kF ?kn ?kk ?kp ?_ ?_
    case ks => exact small_one (by omega) (by omega) (by omega) (by omega)
    case kr => exact rangeSize_nat _ _
    case kF => exact F1
    case kn => exact N1
    case kk => exact ⟨some_of rfl rfl, some_of rfl rfl, some_of rfl rfl, some_of rfl rfl, trivial⟩
    case kp => exact ⟨hys, di_start ha, signs_low hla⟩
    · rintro ⟨ys', its, cn⟩ i t u h tk own hi hoff ⟨hsa, hE, hlo⟩ F2 N2
      have kMark := kstMark
      obtain ⟨z, hz0⟩ : ∃ z, zs[i]? = some z := ⟨zs[i], List.getElem?_eq_getElem hi⟩
      have hzi : zs[(0 + (i : Int)).toNat]? = some z := by rw [show (0 + (i : Int)).toNat = i by omega]; exact hz0
      have hzm : toL z ∈ lns (toL body) := by rw [← hzl]; exact List.mem_map_of_mem (List.mem_of_getElem? hz0)
      have hzlow : ∀ c ∈ toL z, c < 0x110000 := lns_low hlb _ hzm
      have hz20 : z.length ≤ 20 := by
        have h1 := (pl_size (toL body)).2
        rw [lns_pl] at hzm
        rw [toL_length] at h1
        rcases List.mem_append.mp hzm with hm | hm
        · have h2 := h1 _ hm
          rw [toL_length] at h2
          omega
        · split at hm
          · have h2 := List.mem_singleton.mp hm
            have h3 := toL_length z
            rw [h2] at h3
            simp at h3; omega
          · cases hm
      replace hoff : OwnOff own (rl :: D :: news.map (·.1)) := hoff
      rw [List.cons_append, List.cons_append] at N2
      have hq2 : (qe, PySem.W.listOf us.toArray nn) ∈ news ++ own := List.mem_append_left _ hq
      dsimp only [kstB] at F2
      dsimp only at N2 hsa hE hlo
      have hel : its.length ≤ 6005 := by have := hE.2; omega
      clear F1 N1
      (k_with "state" => with_reducible ((refine ⟨by assumption, ?_⟩); first
        | exact di_turn0 hws hz0 hz20 hE hlo hwq (by assumption) (by assumption) (by assumption)
        | exact di_turn1 hws hz0 hz20 hE hlo hwq (by assumption) (by assumption) (by assumption)))
      k_steps
    · clear rgX
      rintro ⟨ys', its, cn⟩ u h tk ⟨hsa, hE, hlo⟩ F2 N2
      have kMark := kstMark
      dsimp only [kstB] at F2
      dsimp only at N2 hsa hE hlo
      clear F1 N1
      have hel : its.length ≤ 6005 := by have := hE.2; omega
      have hall := di_all hzl (by omega) hE
      k_with_none
      (k_with "pyIter ref" => refine Mine.stop ?_)
      k_steps
      · unfold Stop
        k_with_none
        rename Fr _ _ _ _ => lF'
        rename News _ _ _ _ => lN'
        have hpart : (its.drop 3).take (min 5 its.length - 3) = [Str.ofString " ", Str.ofString "\""] := by assumption
        obtain ⟨tm, tt, u1, hrs, F1, N1⟩ : ∃ tm tt u, StrsAre rsS (its.drop 5) ∧ Fr _ _ _ (kstB u [(Str.ofString "told", .str (Str.ofString "") tt), (Str.ofString "marks", .int 0 tm)]) ∧ News _ _ _ ((DS, PySem.W.listOf (List.toArray rsS) 0) :: news) :=
          ⟨_, _, _, by assumption, fr_known lF' ⟨some_of rfl rfl, some_of rfl rfl, trivial⟩, cb_drop lN' fun p hp => (List.mem_cons.mp hp).elim (fun e => e ▸ .head _) fun hp => .tail _ (.tail _ (.tail _ (.tail _ (.tail _ hp))))⟩
        clear lF' lN'
        dsimp only [kstB] at F1
        have hX : (its.drop 5).length ≤ 6005 := by rw [List.length_drop]; omega
        refine' loopF_txt (σ := Int × Tok × Str × Tok) (fun c => (DS, PySem.W.listOf rsS.toArray 0) :: news)
          (fun c => [(Str.ofString "told", .str c.2.2.1 c.2.2.2), (Str.ofString "marks", .int c.1 c.2.1)])
          (fun i c => TI (its.drop 5) i c.1 c.2.2.1) ⟨0, tm, Str.ofString "", tt⟩ rfl (fun c => .head _) hrs ?sF ?sn ?sk ?sp ?_ ?_
        case sF => exact F1
        case sn => exact N1
        case sk => exact ⟨some_of rfl rfl, some_of rfl rfl, trivial⟩
        case sp => exact ti_start
        · rintro ⟨marks, tm', told, tt'⟩ i z t u h tk own hzi hoff hT F2 N2
          have kMark := kstMark
          have hz3 : z.length ≤ 3 := by
            have := (hlo z (List.mem_of_mem_drop (List.mem_of_getElem? hzi))).1
            rwa [toL_length] at this
          have hil := (List.getElem?_eq_some_iff.mp hzi).1
          replace hoff : OwnOff own (DS :: news.map (·.1)) := hoff
          rw [List.cons_append] at N2
          dsimp only [kstB] at F2
          dsimp only at N2 hT
          have j0 := hT.2.1
          have j1 := hT.2.2.1
          have j2 := hT.2.2.2
          clear F1 N1
          (k_with "state" => with_reducible first
            | exact ti_even hT hzi (by assumption) (by assumption)
            | exact ti_odd hT hzi (by assumption) (by assumption)
            | exact ti_other hT hzi hz3 (by assumption) (by assumption))
          k_steps
          exact res_str ret (du_yes (by assumption) (by assumption) hall hpart (ti_stop hT hzi (by assumption) (by assumption))) (by assumption) (cb_drop (by assumption) fun p hp => .tail _ (List.mem_append_left _ hp))
        · rintro ⟨marks, tm', told, tt'⟩ u h tk hT F2 N2
          have kMark := kstMark
          dsimp only [kstB] at F2
          dsimp only at N2 hT
          clear F1 N1
          k_with_none
          k_steps
          exact res_str ret (du_yes (by assumption) (by assumption) hall hpart (ti_end hT)) (by assumption) (cb_drop (by assumption) fun p hp => .tail _ hp)
      · exact res_str ret (du_no (by assumption) (by assumption) hall (by assumption)) (by assumption) (cb_drop (by assumption) fun p hp => .tail _ (.tail _ (.tail _ (.tail _ hp))))
end Mine
end TW6
section TW7
open PySem PySem.W PySem.Calls PyProof.Rows
set_option maxRecDepth 100000
set_option maxHeartbeats 4000000
namespace Mine
theorem enc_use (w : World) (p : Program) (loose : List Str) (mean : ExcName → Option Value) (mg mb : Str → Option Value) (body : Str) (tx : Tok) (W : Int) (tw : Tok) (eol : Str) (te : Tok) (q : Nat)
  (dp un : Nat) (gd : Option (List Code)) (cn : Str) (cs : Scope) (a : Addr) (ccd : Value) (cl : List (Str × Addr)) (outer : List Env) (A₀ : Around) (base h₀ : Heap) (L : Addr) (m : Str → Option Value) (news : List (Addr × Obj)) (s : Shared) (Q E : Value → Shared → Prop)
  (B : Below A₀ base outer h₀) (F : Fr h₀ L s.heap m) (X : (Mine.K w.params).In h₀) (N : News h₀ L s.heap news) (T : Top p loose mean mg mb h₀) (hk : cs.kind = .function) (hW : 4 ≤ W) (hW2 : W ≤ 11) (hx : body.length ≤ 20) (hsg : Signs (toL body)) (hq : q ≤ 3) (he : toL eol = marksL q) (hd : dp + 5 < recursionLimit) (hu : un + 60 < cLine)
  (ret : ∀ y t h' tk', y = ofL (encT W.toNat (toL eol) (toL body)) → y.length ≤ 900 → Fr h₀ L h' m → News h₀ L h' news → Q (.str y t) { s with heap := h', toks := tk' }) :
  wpAny (model PySem.Challenge.pw_rw0036_01 w) (ktrTop dp un gd cn cs L a ccd cl outer) (call (.ref 82) [.str body tx, .int W tw, .str eol te]) Q E s := by
  have hel : eol.length ≤ 3 := by
    rw [← toL_length, he]; unfold marksL; rw [List.length_replicate]; exact hq
  refine enc_ok w p loose mean mg mb body tx hx hsg W tw hW hW2 eol te hel dp un gd cn cs a ccd cl outer A₀ base h₀ L m news s Q E B F X N T hk hd hu fun t h' tk' F' N' => ret _ t h' tk' rfl ?_ F' N'
  rw [ofL_length, he]
  exact enc_len (by omega) hq (by rw [toL_length]; exact hx)
set_option rowWalk.seconds 0
section
local macro_rules | `(tactic| walk_at "call ref") => `(tactic| (k_here; (try dsimp only [List.nil_append, List.cons_append]); (with_reducible show wpAny _ _ (call (Value.ref 82) [Value.str _ _, Value.int _ _, Value.str _ _]) _ _ _); (refine wpAny_call ?_); k_dflt (refine' code_def ?k1 ?k2 ?k3 ?k4 ?k5 ?kA ?kF ?kK ?k6 ?k7 ?k8 ?k9 ?kB ?_ ?c2 ?c3 ?c4 ?c5; (case kA => exact rfl); (case kF => exact rfl); (case kK => first | exact rfl | assumption); (case k1 => k_asm); (case k2 => k_asm); (case k3 => k_asm); (case k4 => k_asm); (case k5 => k_asm); (case k6 => k_is); (case k7 => k_is); (case k8 => ktr_room); (case k9 => exact binds_K (by k_in) rfl (by k_is) rfl rfl rfl); (case c5 => decide); (case kB => exact locs rfl); (case c2 => exact rfl); (case c3 => exact rfl); (case c4 => exact rfl); k_whole; intro g' L' h' FG' F' N' B' X' T'; (try dsimp only); (try k_lift B'); (try k_fold))))
theorem heard_3 (w : World) (p : Program) (loose : List Str) (mean : ExcName → Option Value) (mg mb : Str → Option Value) (ahead : Str) (ta : Tok) (body : Str) (tb : Tok) (W : Int) (tw : Tok) (eol : Str) (te : Tok) (q : Nat) (hW : W < 4) (hW2 : 3 ≤ W)
  (dp un : Nat) (gd : Option (List Code)) (cn : Str) (cs : Scope) (a : Addr) (ccd : Value) (A₀ : Around) (base h₀ : Heap) (L : Addr) (m : Str → Option Value) (news : List (Addr × Obj)) (s : Shared) (Q E : Value → Shared → Prop)
  (B : Below A₀ base [] h₀) (F : Fr h₀ L s.heap m) (X : (Mine.K w.params).In h₀) (N : News h₀ L s.heap news) (T : Top p loose mean mg mb h₀) (XB : (Mine.K w.params).In base) (TB : Top p loose mean mg mb base) (hk : cs.kind = .function) (hd : dp + 15 < recursionLimit) (hu : un + 300 < cLine)
  (ret : ∀ t h' tk', Fr h₀ L h' m → News h₀ L h' news → Q (resV (heardL (toL ahead) (toL body) W.toNat q) t) { s with heap := h', toks := tk' }) :
  wpAny (model PySem.Challenge.pw_rw0036_01 w) (ktrTop dp un gd cn cs L a ccd [] []) (call (.ref 101) [.str ahead ta, .str body tb, .int W tw, .str eol te]) Q E s := by
  k_with_none
  refine wpAny_call ?_
  k_dflt (refine' code_defS0 ?k1 ?k2 ?k3 ?k4 ?k5 ?kA ?k6 ?k7 ?k8 ?k9 ?kB ?_ ?cK ?c2 ?c3 ?c4 ?c5; (case kA => exact rfl); (case k2 => k_asm); (case k1 => k_asm); (case k3 => k_asm); (case k4 => k_asm); (case k5 => k_asm); (case k6 => k_is); (case k7 => k_is); (case k8 => ktr_room); (case k9 => exact BindsTo.of_eq rfl); (case kB => exact locs rfl); (case cK => assumption); (case c2 => exact rfl); (case c3 => exact rfl); (case c4 => exact rfl); (case c5 => decide); k_whole; intro g' L' h' FG' F' N' B' X' T' D'; (try dsimp only); (try k_lift B'); (try k_fold))
  k_steps
  all_goals exact res_int ret (hh_0 hW) (by assumption) (by assumption)
end
end Mine
end TW7
section TW8
open PySem PySem.W PySem.Calls PyProof.Rows
set_option maxRecDepth 100000
set_option maxHeartbeats 4000000
namespace Mine
set_option rowWalk.seconds 0
local macro_rules | `(tactic| walk_at "call ref") => `(tactic| (k_here; (try dsimp only [List.nil_append, List.cons_append]); (with_reducible show wpAny _ _ (call (Value.ref 82) [Value.str _ _, Value.int _ _, Value.str _ _]) _ _ _); k_dflt (refine' enc_use _ _ _ _ _ _ _ _ _ _ _ _ _ _ _ _ _ _ _ _ _ _ _ _ _ _ _ _ _ _ _ ?k1 ?k2 ?k3 ?k4 ?k5 ?kK ?e1 ?e2 ?e3 ?e4 ?e5 ?e6 ?kd ?ku ?_; (case k1 => k_asm); (case k2 => k_asm); (case k3 => k_asm); (case k4 => k_asm); (case k5 => k_asm); (case kK => first | exact rfl | assumption); (case e6 => assumption); (case e1 => assumption); (case e2 => assumption); (case e3 => assumption); (case e4 => assumption); (case e5 => assumption); (case kd => ktr_room); (case ku => ktr_units); k_whole; intro y9 t9 h9 tk9 hy9 hl9 F9 N9; (try dsimp only); (try k_fold))))
local macro_rules | `(tactic| walk_at "call ref") => `(tactic| (k_here; (try dsimp only [List.nil_append, List.cons_append]); (with_reducible show wpAny _ _ (call (Value.ref 46) [Value.str _ _]) _ _ _); (refine wpAny_call ?_); k_dflt (refine' code_def ?k1 ?k2 ?k3 ?k4 ?k5 ?kA ?kF ?kK ?k6 ?k7 ?k8 ?k9 ?kB ?_ ?c2 ?c3 ?c4 ?c5; (case kA => exact rfl); (case kF => exact rfl); (case kK => first | exact rfl | assumption); (case k1 => k_asm); (case k2 => k_asm); (case k3 => k_asm); (case k4 => k_asm); (case k5 => k_asm); (case k6 => k_is); (case k7 => k_is); (case k8 => ktr_room); (case k9 => exact BindsTo.of_eq rfl); (case c5 => decide); (case kB => exact locs rfl); (case c2 => exact rfl); (case c3 => exact rfl); (case c4 => exact rfl); k_whole; intro g' L' h' FG' F' N' B' X' T'; (try dsimp only); (try k_lift B'); (try k_fold))))
theorem heard_1 (w : World) (p : Program) (loose : List Str) (mean : ExcName → Option Value) (mg mb : Str → Option Value) (ahead : Str) (ta : Tok) (body : Str) (tb : Tok) (W : Int) (tw : Tok) (eol : Str) (te : Tok) (q : Nat) (hW : 4 ≤ W) (hW2 : W ≤ 11) (ha : ahead.length ≤ 5) (hx : body.length ≤ 20) (hsg : Signs (toL body)) (hq : q ≤ 3) (he : toL eol = marksL q) (hc : (toL ahead ++ encT W.toNat (marksL q) (toL body)).take 3 ≠ code257)
  (dp un : Nat) (gd : Option (List Code)) (cn : Str) (cs : Scope) (a : Addr) (ccd : Value) (A₀ : Around) (base h₀ : Heap) (L : Addr) (m : Str → Option Value) (news : List (Addr × Obj)) (s : Shared) (Q E : Value → Shared → Prop)
  (B : Below A₀ base [] h₀) (F : Fr h₀ L s.heap m) (X : (Mine.K w.params).In h₀) (N : News h₀ L s.heap news) (T : Top p loose mean mg mb h₀) (XB : (Mine.K w.params).In base) (TB : Top p loose mean mg mb base) (hk : cs.kind = .function) (hd : dp + 15 < recursionLimit) (hu : un + 300 < cLine)
  (ret : ∀ t h' tk', Fr h₀ L h' m → News h₀ L h' news → Q (resV (heardL (toL ahead) (toL body) W.toNat q) t) { s with heap := h', toks := tk' }) :
  wpAny (model PySem.Challenge.pw_rw0036_01 w) (ktrTop dp un gd cn cs L a ccd [] []) (call (.ref 101) [.str ahead ta, .str body tb, .int W tw, .str eol te]) Q E s := by
  k_with_none
  refine wpAny_call ?_
  k_dflt (refine' code_defS0 ?k1 ?k2 ?k3 ?k4 ?k5 ?kA ?k6 ?k7 ?k8 ?k9 ?kB ?_ ?cK ?c2 ?c3 ?c4 ?c5; (case kA => exact rfl); (case k2 => k_asm); (case k1 => k_asm); (case k3 => k_asm); (case k4 => k_asm); (case k5 => k_asm); (case k6 => k_is); (case k7 => k_is); (case k8 => ktr_room); (case k9 => exact BindsTo.of_eq rfl); (case kB => exact locs rfl); (case cK => assumption); (case c2 => exact rfl); (case c3 => exact rfl); (case c4 => exact rfl); (case c5 => decide); k_whole; intro g' L' h' FG' F' N' B' X' T' D'; (try dsimp only); (try k_lift B'); (try k_fold))
  (k_with "execs nil" => exact (hh_bad hc he (by assumption) (by assumption)).elim)
  k_steps
  all_goals exact res_int ret (hh_1 hW hc) (by assumption) (by assumption)
local macro_rules | `(tactic| walk_at "call ref") => `(tactic| (k_here; (try dsimp only [List.nil_append, List.cons_append]); (with_reducible show wpAny _ _ (call (Value.ref 46) [Value.str _ _]) _ _ _); k_dflt (refine' parse_ok _ _ _ _ _ _ _ _ ?e1 ?e2 _ _ _ _ _ _ _ _ _ _ _ _ _ _ _ _ _ _ ?k1 ?k2 ?k3 ?k4 ?k5 ?kK ?kd ?ku ?_; (case k1 => k_asm); (case k2 => k_asm); (case k3 => k_asm); (case k4 => k_asm); (case k5 => k_asm); (case kK => first | exact rfl | assumption); (case e1 => omega); (case e2 => exact hh_good (by assumption) (by assumption) (by assumption)); (case kd => ktr_room); (case ku => ktr_units); k_whole; intro t9 h9 tk9 F9 N9; (try dsimp only); (try k_fold))))
theorem heard_s (w : World) (p : Program) (loose : List Str) (mean : ExcName → Option Value) (mg mb : Str → Option Value) (ahead : Str) (ta : Tok) (body : Str) (tb : Tok) (W : Int) (tw : Tok) (eol : Str) (te : Tok) (q : Nat) (hW : 4 ≤ W) (hW2 : W ≤ 11) (ha : ahead.length ≤ 5) (hx : body.length ≤ 20) (hsg : Signs (toL body)) (hq : q ≤ 3) (he : toL eol = marksL q) (hc : (toL ahead ++ encT W.toNat (marksL q) (toL body)).take 3 = code257)
  (dp un : Nat) (gd : Option (List Code)) (cn : Str) (cs : Scope) (a : Addr) (ccd : Value) (A₀ : Around) (base h₀ : Heap) (L : Addr) (m : Str → Option Value) (news : List (Addr × Obj)) (s : Shared) (Q E : Value → Shared → Prop)
  (B : Below A₀ base [] h₀) (F : Fr h₀ L s.heap m) (X : (Mine.K w.params).In h₀) (N : News h₀ L s.heap news) (T : Top p loose mean mg mb h₀) (XB : (Mine.K w.params).In base) (TB : Top p loose mean mg mb base) (hk : cs.kind = .function) (hd : dp + 15 < recursionLimit) (hu : un + 300 < cLine)
  (ret : ∀ t h' tk', Fr h₀ L h' m → News h₀ L h' news → Q (resV (heardL (toL ahead) (toL body) W.toNat q) t) { s with heap := h', toks := tk' }) :
  wpAny (model PySem.Challenge.pw_rw0036_01 w) (ktrTop dp un gd cn cs L a ccd [] []) (call (.ref 101) [.str ahead ta, .str body tb, .int W tw, .str eol te]) Q E s := by
  k_with_none
  refine wpAny_call ?_
  k_dflt (refine' code_defS0 ?k1 ?k2 ?k3 ?k4 ?k5 ?kA ?k6 ?k7 ?k8 ?k9 ?kB ?_ ?cK ?c2 ?c3 ?c4 ?c5; (case kA => exact rfl); (case k2 => k_asm); (case k1 => k_asm); (case k3 => k_asm); (case k4 => k_asm); (case k5 => k_asm); (case k6 => k_is); (case k7 => k_is); (case k8 => ktr_room); (case k9 => exact BindsTo.of_eq rfl); (case kB => exact locs rfl); (case cK => assumption); (case c2 => exact rfl); (case c3 => exact rfl); (case c4 => exact rfl); (case c5 => decide); k_whole; intro g' L' h' FG' F' N' B' X' T' D'; (try dsimp only); (try k_lift B'); (try k_fold))
  k_steps
  all_goals exact res_str ret (hh_s hW hc he (by assumption)) (by assumption) (by assumption)
theorem heard_ok (w : World) (p : Program) (loose : List Str) (mean : ExcName → Option Value) (mg mb : Str → Option Value) (ahead : Str) (ta : Tok) (body : Str) (tb : Tok) (W : Int) (tw : Tok) (eol : Str) (te : Tok) (q : Nat) (hW : 3 ≤ W) (hW2 : W ≤ 11) (ha : ahead.length ≤ 5) (hx : body.length ≤ 20) (hsg : Signs (toL body)) (hq : q ≤ 3) (he : toL eol = marksL q) 
  (dp un : Nat) (gd : Option (List Code)) (cn : Str) (cs : Scope) (a : Addr) (ccd : Value) (A₀ : Around) (base h₀ : Heap) (L : Addr) (m : Str → Option Value) (news : List (Addr × Obj)) (s : Shared) (Q E : Value → Shared → Prop)
  (B : Below A₀ base [] h₀) (F : Fr h₀ L s.heap m) (X : (Mine.K w.params).In h₀) (N : News h₀ L s.heap news) (T : Top p loose mean mg mb h₀) (XB : (Mine.K w.params).In base) (TB : Top p loose mean mg mb base) (hk : cs.kind = .function) (hd : dp + 15 < recursionLimit) (hu : un + 300 < cLine)
  (ret : ∀ t h' tk', Fr h₀ L h' m → News h₀ L h' news → Q (resV (heardL (toL ahead) (toL body) W.toNat q) t) { s with heap := h', toks := tk' }) :
  wpAny (model PySem.Challenge.pw_rw0036_01 w) (ktrTop dp un gd cn cs L a ccd [] []) (call (.ref 101) [.str ahead ta, .str body tb, .int W tw, .str eol te]) Q E s := by
  by_cases h4 : W < 4
  · exact heard_3 w p loose mean mg mb ahead ta body tb W tw eol te q h4 hW dp un gd cn cs a ccd A₀ base h₀ L m news s Q E B F X N T XB TB hk hd hu ret
  · by_cases hc : (toL ahead ++ encT W.toNat (marksL q) (toL body)).take 3 = code257
    · exact heard_s w p loose mean mg mb ahead ta body tb W tw eol te q (by omega) hW2 ha hx hsg hq he hc dp un gd cn cs a ccd A₀ base h₀ L m news s Q E B F X N T XB TB hk hd hu ret
    · exact heard_1 w p loose mean mg mb ahead ta body tb W tw eol te q (by omega) hW2 ha hx hsg hq he hc dp un gd cn cs a ccd A₀ base h₀ L m news s Q E B F X N T XB TB hk hd hu ret
end Mine
end TW8
section TLawK
open PySem PySem.W PySem.Calls PyProof.Rows PySem.StrLaws PySem.Builtin PySem.Builtin.Str
set_option maxRecDepth 100000
namespace Mine
def SG : Str := Str.ofString "a\"\"b= \t\n\r"
theorem sg_toL : toL SG = [97, 34, 34, 98, 61, 32, 9, 10, 13] := by decide +kernel
theorem fmod_b (a : Int) {b : Int} (hb : 0 < b) : 0 ≤ a.fmod b ∧ a.fmod b < b := by
  rw [Int.fmod_eq_emod_of_nonneg _ (Int.le_of_lt hb)]
  exact ⟨Int.emod_nonneg _ (by omega), Int.emod_lt_of_pos _ hb⟩
theorem fmod_0 {a b : Int} (hb : 0 < b) : 0 ≤ a.fmod b := (fmod_b a hb).1
theorem fmod_lt {a b : Int} (hb : 0 < b) : a.fmod b < b := (fmod_b a hb).2
theorem sg_item (k : Int) : ∃ c, toL (Txt.item SG (k.fmod 9)) = [c] ∧ c ∈ [97, 34, 34, 98, 61, 32, 9, 10, 13] := by
  have hb := fmod_b k (b := 9) (by decide)
  have hl : (k.fmod 9).toNat < (toL SG).length := by rw [sg_toL]; simp only [List.length_cons, List.length_nil]; omega
  refine ⟨(toL SG)[(k.fmod 9).toNat], item_toL hb.1 (List.getElem?_eq_getElem hl), ?_⟩
  have := List.getElem_mem hl
  simpa only [sg_toL] using this
theorem joinL_nil : ∀ l : List (List Nat), joinL [] l = l.flatten
  | [] => rfl
  | [a] => by simp [joinL]
  | a :: b :: r => by
    have := joinL_nil (b :: r)
    rw [joinL_cons [] a (by simp), this]; simp
theorem text_of (ns : List Int) : (toL (Txt.join (Str.ofString "") (ns.map fun k => Txt.item SG (k.fmod 9)))).length = ns.length ∧ Signs (toL (Txt.join (Str.ofString "") (ns.map fun k => Txt.item SG (k.fmod 9)))) := by
  have e : toL (Txt.join (Str.ofString "") (ns.map fun k => Txt.item SG (k.fmod 9))) = (ns.map fun k => toL (Txt.item SG (k.fmod 9))).flatten := by
    show toL (glued (Str.ofString "") _) = _
    rw [glued_eq_join, toL_join, t_nil, joinL_nil, List.map_map]; rfl
  rw [e]
  induction ns with
  | nil => exact ⟨rfl, fun c hc => by cases hc⟩
  | cons k r ih =>
    obtain ⟨c, hc, hm⟩ := sg_item k
    have ih' := ih (by
      show toL (glued (Str.ofString "") _) = _
      rw [glued_eq_join, toL_join, t_nil, joinL_nil, List.map_map]; rfl)
    rw [List.map_cons, List.flatten_cons, hc]
    refine ⟨by rw [List.length_append, ih'.1]; simp; omega, fun d hd => ?_⟩
    rcases List.mem_append.mp hd with hd | hd
    · have h9 : ∀ c ∈ [97, 34, 34, 98, 61, 32, 9, 10, 13], c ∈ [97, 34, 98, 61, 32, 9, 10, 13, 48, 49, 50, 51, 52, 53, 54, 55, 56, 57, 68] := by decide
      exact List.mem_singleton.mp hd ▸ h9 c hm
    · exact ih'.2 d hd
section
variable {prog : Program} {w : World} {A : Around} {E : Value → Shared → Prop} {s : Shared} {h₀ : Heap} {L l D : Addr} {m : Str → Option Value} {news : List (Addr × Obj)} {value slice : PySem.Expr} {us : List Value} {ws : List Str} {n : Nat} {Q : Value → Shared → Prop}
theorem strs_of_ints {ys : List Value} {ns : List Int} {g : Int → Str} (h : CarriedAll ys (ns.map fun k => PyData.str (g k))) : StrsAre ys (ns.map g) := by
  refine StrsAre.of_carried ?_
  rw [List.map_map]; exact h
theorem joinT {ns : List Int} {t : Tok} (N : News h₀ L s.heap news) (ha : (D, PySem.W.listOf us.toArray n) ∈ news) (hc : CarriedAll us (ns.map fun k => PyData.str (Txt.item SG (k.fmod 9)))) (hn : ns.length ≤ 12)
    (h : ∀ x t' k, x.length ≤ 12 → Signs (toL x) → Q (.str x t') { s with toks := k }) : wpAny (model prog w) A (call (.builtin "str.join") [.str (Str.ofString "") t, .ref D]) Q E s := by
  refine joinK N ha (strs_of_ints hc) (by decide +kernel) (fun y hy => ?_) (by rw [List.length_map]; omega) fun t' k => ?_
  · obtain ⟨k, _, rfl⟩ := List.mem_map.mp hy
    obtain ⟨c, hc, _⟩ := sg_item k
    rw [← toL_length, hc]; simp
  · have h1 := text_of ns
    rw [toL_length] at h1
    exact h _ t' k (by omega) h1.2
theorem itemP {k : Int} {u : Tok} {P : Str → Prop} (N : News h₀ L s.heap news) (ha : (l, PySem.W.listOf us.toArray n) ∈ news) (hi : StrsAre us ws) (h0 : 0 ≤ k) (h1 : k < (ws.length : Int)) (hz : ws.length ≤ 100) (hP : ∀ z ∈ ws, P z) (h : ∀ z t, P z → Q (.str z t) s)
    (hs : subscripted slice false (.ref l) (.int k u) = operate [.ref l, .int k u] (getItem (.ref l) (.int k u)) := by with_unfolding_all rfl) :
    wpAny (model prog w) A (subscriptTail value slice (.ref l) (.int k u)) Q E s := by
  have hlt : k.toNat < ws.length := by omega
  exact itemS N ha hi h0 (by omega) (List.getElem?_eq_getElem hlt) (fun t => h _ t (hP _ (List.getElem_mem hlt))) hs
theorem mulS {k : Int} {u tx : Tok} {x : Str} (F : Fr h₀ L s.heap m) (N : News h₀ L s.heap news) (ha : (l, PySem.W.listOf (List.toArray [Value.str x tx]) n) ∈ news) (h0 : 0 ≤ k) (h4 : k < 4)
    (h : ∀ D rs h' q, q = k.toNat → q ≤ 3 → Fr h₀ L h' m → News h₀ L h' ((D, PySem.W.listOf (List.toArray rs) 0) :: news) → (∀ p ∈ news, p.1 < D) → StrsAre rs (List.replicate q x) → Q (.ref D) { s with heap := h' }) :
    wpAny (model prog w) A (binaryOp .Mult (.ref l) (.int k u)) Q E s := by
  refine mul_list F N (N _ ha).1 (by omega) (by omega) (by simp; omega) fun h' F' N' => ?_
  have e : ∀ q : Nat, List.foldl (fun x1 x2 => x1 ++ x2) #[] (List.replicate q (List.toArray [Value.str x tx])) = (List.replicate q (Value.str x tx)).toArray := by
    intro q
    have h1 : ∀ (q : Nat) (a : List Value), List.foldl (fun x1 x2 => x1 ++ x2) a.toArray (List.replicate q (List.toArray [Value.str x tx])) = (a ++ List.replicate q (Value.str x tx)).toArray := by
      intro q
      induction q with
      | zero => intro a; simp
      | succ q ih =>
        intro a
        rw [List.replicate_succ, List.foldl_cons, List.append_toArray, ih, List.replicate_succ, List.append_assoc]; rfl
    have := h1 q []
    simpa using this
  refine h _ (List.replicate k.toNat (Value.str x tx)) h' k.toNat rfl (by omega) F' ?_ (fun p hp => Heap.lt_size (N p hp).1) ?_
  · have e2 : (if (List.toArray [Value.str x tx]).isEmpty = true then 0 else k.toNat) = k.toNat := rfl
    rw [e2, e] at N'
    exact N'
  · generalize k.toNat = q
    induction q with
    | zero => exact .nil
    | succ q ih => rw [List.replicate_succ, List.replicate_succ]; exact .cons _ _ ih
theorem joinQ {q : Nat} {t : Tok} (N : News h₀ L s.heap news) (ha : (D, PySem.W.listOf us.toArray n) ∈ news) (hi : StrsAre us (List.replicate q (Str.ofString "\""))) (hq : q ≤ 3)
    (h : ∀ y t' k, toL y = marksL q → Q (.str y t') { s with toks := k }) : wpAny (model prog w) A (call (.builtin "str.join") [.str (Str.ofString "") t, .ref D]) Q E s := by
  refine joinK N ha hi (by decide +kernel) (fun y hy => ?_) (by rw [List.length_replicate]; omega) fun t' k => h _ t' k ?_
  · rw [(List.mem_replicate.mp hy).2]; decide +kernel
  · show toL (glued (Str.ofString "") _) = _
    rw [glued_eq_join, toL_join, t_nil, joinL_nil, rep_marks, marks_flat]
theorem lenI {ns : List Int} {vs : List Value} (F : Fr h₀ L s.heap m) (hl : h₀.IsList l vs.toArray) (hi : IntsAre vs ns) (hn : ns.length ≤ 63) (h : ∀ t k, Q (.int (ns.length : Int) t) { s with toks := k }) : wpAny (model prog w) A (call (.builtin "len") [.ref l]) Q E s := by
  have e : vs.toArray.size = ns.length := by rw [List.size_toArray, hi.length]
  obtain ⟨o, ho, r⟩ := hl
  refine call_len_list (items := vs.toArray) ⟨o, F.keep _ _ ho, r⟩ (by rw [e]; omega) ?_
  rw [e]; exact h _ _
theorem neR {r r' : Res} {t u : Tok} (e : r = r') (h : Q (.bool false) s) : wpAny (model prog w) A (compareOp .NotEq (resV r t) (resV r' u)) Q E s := by
  subst e
  cases r with
  | i n => exact PyProof.Rows.ne_int (by simpa using h)
  | s x => exact PyProof.Rows.ne_str (by simpa using h)
end
/-- one of the four codes -/
def CodeOk (z : Str) : Prop := z.length = 3 ∧ ∀ c ∈ toL z, 48 ≤ c ∧ c ≤ 57
def FrontOk (code z : Str) : Prop := z = code ++ Str.ofString " \"" ∨ z = Str.ofString "" ∨ z = code ++ Str.ofString " "
theorem codes_ok : ∀ z ∈ [Str.ofString "257", Str.ofString "257", Str.ofString "257", Str.ofString "257", Str.ofString "257", Str.ofString "257", Str.ofString "257", Str.ofString "257", Str.ofString "257", Str.ofString "257", Str.ofString "257", Str.ofString "257", Str.ofString "257", Str.ofString "157", Str.ofString "247", Str.ofString "250"], CodeOk z := by
  unfold CodeOk
  decide +kernel
theorem fronts_ok (code : Str) : ∀ z ∈ [code ++ Str.ofString " \"", Str.ofString "", code ++ Str.ofString " "], FrontOk code z := by
  intro z hz
  simp only [List.mem_cons, List.not_mem_nil, or_false] at hz
  exact hz
/-- what the turns ask of the two texts -/
structure TwoOk (front text : Str) : Prop where
  fl : front.length ≤ 5
  fs : ∀ c ∈ toL front, c < 0x110000
  tl : text.length ≤ 20
  ts : Signs (toL text)
  op : Opens (toL front) (toL text)
theorem Signs.low {l : List Nat} (h : Signs l) : ∀ c ∈ l, c < 0x110000 := fun c hc => by
  have h3 : ∀ c ∈ [97, 34, 98, 61, 32, 9, 10, 13, 48, 49, 50, 51, 52, 53, 54, 55, 56, 57, 68], c < 0x110000 := by decide
  exact h3 c (h c hc)
theorem digit_sign {c : Nat} (h : 48 ≤ c ∧ c ≤ 57) : c ∈ [97, 34, 98, 61, 32, 9, 10, 13, 48, 49, 50, 51, 52, 53, 54, 55, 56, 57, 68] := by
  have h3 : ∀ d : Nat, d < 10 → 48 + d ∈ [97, 34, 98, 61, 32, 9, 10, 13, 48, 49, 50, 51, 52, 53, 54, 55, 56, 57, 68] := by decide
  have := h3 (c - 48) (by omega)
  rwa [show 48 + (c - 48) = c by omega] at this
theorem code_toL {code : Str} (h : CodeOk code) : ∃ a b c, toL code = [a, b, c] ∧ (48 ≤ a ∧ a ≤ 57) ∧ (48 ≤ b ∧ b ≤ 57) ∧ (48 ≤ c ∧ c ≤ 57) := by
  obtain ⟨h1, h2⟩ := h
  rw [← toL_length] at h1
  match e : toL code, h1, h2 with
  | [a, b, c], _, h2 => exact ⟨a, b, c, rfl, h2 a (by simp), h2 b (by simp), h2 c (by simp)⟩
theorem two_in {code front text : Str} (hc : CodeOk code) (_hf : FrontOk code front) (h : (front == Str.ofString "") = true) (hl : text.length ≤ 12) (hs : Signs (toL text)) : TwoOk front (code ++ Str.ofString " \"" ++ text) := by
  rw [beq_iff_eq] at h
  subst h
  obtain ⟨a, b, c, e, ha, hb, hc'⟩ := code_toL hc
  have et : toL (code ++ Str.ofString " \"" ++ text) = a :: b :: c :: 32 :: 34 :: toL text := by
    rw [toL_append, toL_append, e, t_open]; rfl
  refine ⟨by decide +kernel, ?_, ?_, ?_, ?_⟩
  · rw [t_nil]; intro c hc; cases hc
  · rw [← toL_length, et]
    simp only [List.length_cons, toL_length]; omega
  · rw [et]
    intro x hx
    simp only [List.mem_cons] at hx
    rcases hx with rfl | rfl | rfl | rfl | rfl | hx
    · exact digit_sign ha
    · exact digit_sign hb
    · exact digit_sign hc'
    · decide
    · decide
    · exact hs x hx
  · refine .inr ⟨t_nil, a, b, c, 32, 34 :: toL text, et, fun x hx => ?_⟩
    simp only [List.mem_cons, List.not_mem_nil, or_false] at hx
    omega
theorem two_out {code front text : Str} (hc : CodeOk code) (hf : FrontOk code front) (h : (front == Str.ofString "") = false) (hl : text.length ≤ 12) (hs : Signs (toL text)) : TwoOk front text := by
  rw [beq_eq_false_iff_ne] at h
  obtain ⟨a, b, c, e, ha, hb, hc'⟩ := code_toL hc
  have et : ∃ r, toL front = a :: b :: c :: 32 :: r ∧ (r = [] ∨ r = [34]) := by
    rcases hf with rfl | rfl | rfl
    · exact ⟨[34], by rw [toL_append, e, t_open]; rfl, .inr rfl⟩
    · exact absurd rfl h
    · exact ⟨[], by rw [toL_append, e, t_blank]; rfl, .inl rfl⟩
  obtain ⟨r, et, hr⟩ := et
  have hrl : r.length ≤ 1 := by rcases hr with rfl | rfl <;> simp
  refine ⟨?_, ?_, by omega, hs, .inl ⟨a, b, c, 32 :: r, et⟩⟩
  · rw [← toL_length, et]
    simp only [List.length_cons]; omega
  · rw [et]
    intro x hx
    simp only [List.mem_cons] at hx
    rcases hx with rfl | rfl | rfl | rfl | hx
    · omega
    · omega
    · omega
    · omega
    · rcases hr with rfl | rfl
      · cases hx
      · rw [List.mem_singleton.mp hx]; omega
end Mine
end TLawK
section THeadC
set_option maxRecDepth 100000
set_option linter.unusedVariables false
set_option maxHeartbeats 8000000
namespace Mine
noncomputable abbrev om_48 (P : PySem.Params) : PySem.Obj := PySem.Obj.mk (PySem.Value.type "range_iterator") Option.none (PySem.Data.fields (List.toArray (PySem.Value.int 1 0 :: PySem.Value.int 255 0 :: PySem.Value.int 1 0 :: []))) #[]
noncomputable abbrev om_49 (P : PySem.Params) : PySem.Obj := PySem.Obj.mk (PySem.Value.type "list") Option.none (PySem.Data.seq (List.toArray (PySem.Value.str (PySem.Str.ofString "=00") 246 :: [])) 1) #[]
noncomputable abbrev om_50 (P : PySem.Params) : PySem.Obj := PySem.Obj.mk (PySem.Value.type "dict") Option.none (PySem.Data.dict (List.toArray (PySem.DictEntry.mk (PySem.PyData.keyHash P (PySem.Str.ofString "c")) (PySem.Value.str (PySem.Str.ofString "c") 244) (PySem.Value.int 0 243) :: [])) 1) #[]
noncomputable abbrev tree_m (P : PySem.Params) : PySem.W.BT := (PySem.W.BT.node (PySem.W.boot_o_0 P) (PySem.W.BT.node (PySem.W.boot_o_1 P) (PySem.W.BT.node (oa_3 P) (PySem.W.BT.node (PySem.W.boot_o_7 P) (PySem.W.BT.node (oz_15 P) (PySem.W.BT.node (oz_31 P) PySem.W.BT.nil PySem.W.BT.nil) (PySem.W.BT.node (oz_47 P) PySem.W.BT.nil PySem.W.BT.nil)) (PySem.W.BT.node (oz_23 P) (PySem.W.BT.node (oz_39 P) PySem.W.BT.nil PySem.W.BT.nil) PySem.W.BT.nil)) (PySem.W.BT.node (oz_11 P) (PySem.W.BT.node (oz_19 P) (PySem.W.BT.node (oz_35 P) PySem.W.BT.nil PySem.W.BT.nil) PySem.W.BT.nil) (PySem.W.BT.node (oz_27 P) (PySem.W.BT.node (oz_43 P) PySem.W.BT.nil PySem.W.BT.nil) PySem.W.BT.nil))) (PySem.W.BT.node (PySem.W.boot_o_5 P) (PySem.W.BT.node (PySem.W.boot_o_9 P) (PySem.W.BT.node (oz_17 P) (PySem.W.BT.node (oz_33 P) PySem.W.BT.nil PySem.W.BT.nil) (PySem.W.BT.node (om_49 P) PySem.W.BT.nil PySem.W.BT.nil)) (PySem.W.BT.node (oz_25 P) (PySem.W.BT.node (oz_41 P) PySem.W.BT.nil PySem.W.BT.nil) PySem.W.BT.nil)) (PySem.W.BT.node (oz_13 P) (PySem.W.BT.node (oz_21 P) (PySem.W.BT.node (oz_37 P) PySem.W.BT.nil PySem.W.BT.nil) PySem.W.BT.nil) (PySem.W.BT.node (oz_29 P) (PySem.W.BT.node (oz_45 P) PySem.W.BT.nil PySem.W.BT.nil) PySem.W.BT.nil)))) (PySem.W.BT.node (oz_2 P) (PySem.W.BT.node (PySem.W.boot_o_4 P) (PySem.W.BT.node (PySem.W.boot_o_8 P) (PySem.W.BT.node (oz_16 P) (PySem.W.BT.node (oz_32 P) PySem.W.BT.nil PySem.W.BT.nil) (PySem.W.BT.node (om_48 P) PySem.W.BT.nil PySem.W.BT.nil)) (PySem.W.BT.node (oz_24 P) (PySem.W.BT.node (oz_40 P) PySem.W.BT.nil PySem.W.BT.nil) PySem.W.BT.nil)) (PySem.W.BT.node (oa_12 P) (PySem.W.BT.node (oz_20 P) (PySem.W.BT.node (oz_36 P) PySem.W.BT.nil PySem.W.BT.nil) PySem.W.BT.nil) (PySem.W.BT.node (oz_28 P) (PySem.W.BT.node (oz_44 P) PySem.W.BT.nil PySem.W.BT.nil) PySem.W.BT.nil))) (PySem.W.BT.node (PySem.W.boot_o_6 P) (PySem.W.BT.node (PySem.W.boot_o_10 P) (PySem.W.BT.node (oz_18 P) (PySem.W.BT.node (oz_34 P) PySem.W.BT.nil PySem.W.BT.nil) (PySem.W.BT.node (om_50 P) PySem.W.BT.nil PySem.W.BT.nil)) (PySem.W.BT.node (oz_26 P) (PySem.W.BT.node (oz_42 P) PySem.W.BT.nil PySem.W.BT.nil) PySem.W.BT.nil)) (PySem.W.BT.node (oz_14 P) (PySem.W.BT.node (oz_22 P) (PySem.W.BT.node (oz_38 P) PySem.W.BT.nil PySem.W.BT.nil) PySem.W.BT.nil) (PySem.W.BT.node (oz_30 P) (PySem.W.BT.node (oz_46 P) PySem.W.BT.nil PySem.W.BT.nil) PySem.W.BT.nil)))))
noncomputable abbrev oq_48 (P : PySem.Params) : PySem.Obj := PySem.Obj.mk (PySem.Value.type "range_iterator") Option.none (PySem.Data.fields (List.toArray (PySem.Value.int 64 0 :: PySem.Value.int 192 0 :: PySem.Value.int 1 0 :: []))) #[]
noncomputable abbrev oq_49 (P : PySem.Params) : PySem.Obj := PySem.Obj.mk (PySem.Value.type "list") Option.none (PySem.Data.seq (List.toArray (PySem.Value.str (PySem.Str.ofString "=00") 246 :: PySem.Value.str (PySem.Str.ofString "=01") 250 :: PySem.Value.str (PySem.Str.ofString "=02") 254 :: PySem.Value.str (PySem.Str.ofString "=03") 258 :: PySem.Value.str (PySem.Str.ofString "=04") 262 :: PySem.Value.str (PySem.Str.ofString "=05") 266 :: PySem.Value.str (PySem.Str.ofString "=06") 270 :: PySem.Value.str (PySem.Str.ofString "=07") 274 :: PySem.Value.str (PySem.Str.ofString "=08") 278 :: PySem.Value.str (PySem.Str.ofString "=09") 282 :: PySem.Value.str (PySem.Str.ofString "=0A") 286 :: PySem.Value.str (PySem.Str.ofString "=0B") 290 :: PySem.Value.str (PySem.Str.ofString "=0C") 294 :: PySem.Value.str (PySem.Str.ofString "=0D") 298 :: PySem.Value.str (PySem.Str.ofString "=0E") 302 :: PySem.Value.str (PySem.Str.ofString "=0F") 306 :: PySem.Value.str (PySem.Str.ofString "=10") 310 :: PySem.Value.str (PySem.Str.ofString "=11") 314 :: PySem.Value.str (PySem.Str.ofString "=12") 318 :: PySem.Value.str (PySem.Str.ofString "=13") 322 :: PySem.Value.str (PySem.Str.ofString "=14") 326 :: PySem.Value.str (PySem.Str.ofString "=15") 330 :: PySem.Value.str (PySem.Str.ofString "=16") 334 :: PySem.Value.str (PySem.Str.ofString "=17") 338 :: PySem.Value.str (PySem.Str.ofString "=18") 342 :: PySem.Value.str (PySem.Str.ofString "=19") 346 :: PySem.Value.str (PySem.Str.ofString "=1A") 350 :: PySem.Value.str (PySem.Str.ofString "=1B") 354 :: PySem.Value.str (PySem.Str.ofString "=1C") 358 :: PySem.Value.str (PySem.Str.ofString "=1D") 362 :: PySem.Value.str (PySem.Str.ofString "=1E") 366 :: PySem.Value.str (PySem.Str.ofString "=1F") 370 :: PySem.Value.str (PySem.Str.ofString "=20") 374 :: PySem.Value.str (PySem.Str.ofString "=21") 378 :: PySem.Value.str (PySem.Str.ofString "=22") 382 :: PySem.Value.str (PySem.Str.ofString "=23") 386 :: PySem.Value.str (PySem.Str.ofString "=24") 390 :: PySem.Value.str (PySem.Str.ofString "=25") 394 :: PySem.Value.str (PySem.Str.ofString "=26") 398 :: PySem.Value.str (PySem.Str.ofString "=27") 402 :: PySem.Value.str (PySem.Str.ofString "=28") 406 :: PySem.Value.str (PySem.Str.ofString "=29") 410 :: PySem.Value.str (PySem.Str.ofString "=2A") 414 :: PySem.Value.str (PySem.Str.ofString "=2B") 418 :: PySem.Value.str (PySem.Str.ofString "=2C") 422 :: PySem.Value.str (PySem.Str.ofString "=2D") 426 :: PySem.Value.str (PySem.Str.ofString "=2E") 430 :: PySem.Value.str (PySem.Str.ofString "=2F") 434 :: PySem.Value.str (PySem.Str.ofString "=30") 438 :: PySem.Value.str (PySem.Str.ofString "=31") 442 :: PySem.Value.str (PySem.Str.ofString "=32") 446 :: PySem.Value.str (PySem.Str.ofString "=33") 450 :: PySem.Value.str (PySem.Str.ofString "=34") 454 :: PySem.Value.str (PySem.Str.ofString "=35") 458 :: PySem.Value.str (PySem.Str.ofString "=36") 462 :: PySem.Value.str (PySem.Str.ofString "=37") 466 :: PySem.Value.str (PySem.Str.ofString "=38") 470 :: PySem.Value.str (PySem.Str.ofString "=39") 474 :: PySem.Value.str (PySem.Str.ofString "=3A") 478 :: PySem.Value.str (PySem.Str.ofString "=3B") 482 :: PySem.Value.str (PySem.Str.ofString "=3C") 486 :: PySem.Value.str (PySem.Str.ofString "=3D") 490 :: PySem.Value.str (PySem.Str.ofString "=3E") 494 :: PySem.Value.str (PySem.Str.ofString "=3F") 498 :: [])) 64) #[]
noncomputable abbrev oq_50 (P : PySem.Params) : PySem.Obj := PySem.Obj.mk (PySem.Value.type "dict") Option.none (PySem.Data.dict (List.toArray (PySem.DictEntry.mk (PySem.PyData.keyHash P (PySem.Str.ofString "c")) (PySem.Value.str (PySem.Str.ofString "c") 244) (PySem.Value.int 63 495) :: [])) 1) #[]
noncomputable abbrev tree_q (P : PySem.Params) : PySem.W.BT := (PySem.W.BT.node (PySem.W.boot_o_0 P) (PySem.W.BT.node (PySem.W.boot_o_1 P) (PySem.W.BT.node (oa_3 P) (PySem.W.BT.node (PySem.W.boot_o_7 P) (PySem.W.BT.node (oz_15 P) (PySem.W.BT.node (oz_31 P) PySem.W.BT.nil PySem.W.BT.nil) (PySem.W.BT.node (oz_47 P) PySem.W.BT.nil PySem.W.BT.nil)) (PySem.W.BT.node (oz_23 P) (PySem.W.BT.node (oz_39 P) PySem.W.BT.nil PySem.W.BT.nil) PySem.W.BT.nil)) (PySem.W.BT.node (oz_11 P) (PySem.W.BT.node (oz_19 P) (PySem.W.BT.node (oz_35 P) PySem.W.BT.nil PySem.W.BT.nil) PySem.W.BT.nil) (PySem.W.BT.node (oz_27 P) (PySem.W.BT.node (oz_43 P) PySem.W.BT.nil PySem.W.BT.nil) PySem.W.BT.nil))) (PySem.W.BT.node (PySem.W.boot_o_5 P) (PySem.W.BT.node (PySem.W.boot_o_9 P) (PySem.W.BT.node (oz_17 P) (PySem.W.BT.node (oz_33 P) PySem.W.BT.nil PySem.W.BT.nil) (PySem.W.BT.node (oq_49 P) PySem.W.BT.nil PySem.W.BT.nil)) (PySem.W.BT.node (oz_25 P) (PySem.W.BT.node (oz_41 P) PySem.W.BT.nil PySem.W.BT.nil) PySem.W.BT.nil)) (PySem.W.BT.node (oz_13 P) (PySem.W.BT.node (oz_21 P) (PySem.W.BT.node (oz_37 P) PySem.W.BT.nil PySem.W.BT.nil) PySem.W.BT.nil) (PySem.W.BT.node (oz_29 P) (PySem.W.BT.node (oz_45 P) PySem.W.BT.nil PySem.W.BT.nil) PySem.W.BT.nil)))) (PySem.W.BT.node (oz_2 P) (PySem.W.BT.node (PySem.W.boot_o_4 P) (PySem.W.BT.node (PySem.W.boot_o_8 P) (PySem.W.BT.node (oz_16 P) (PySem.W.BT.node (oz_32 P) PySem.W.BT.nil PySem.W.BT.nil) (PySem.W.BT.node (oq_48 P) PySem.W.BT.nil PySem.W.BT.nil)) (PySem.W.BT.node (oz_24 P) (PySem.W.BT.node (oz_40 P) PySem.W.BT.nil PySem.W.BT.nil) PySem.W.BT.nil)) (PySem.W.BT.node (oa_12 P) (PySem.W.BT.node (oz_20 P) (PySem.W.BT.node (oz_36 P) PySem.W.BT.nil PySem.W.BT.nil) PySem.W.BT.nil) (PySem.W.BT.node (oz_28 P) (PySem.W.BT.node (oz_44 P) PySem.W.BT.nil PySem.W.BT.nil) PySem.W.BT.nil))) (PySem.W.BT.node (PySem.W.boot_o_6 P) (PySem.W.BT.node (PySem.W.boot_o_10 P) (PySem.W.BT.node (oz_18 P) (PySem.W.BT.node (oz_34 P) PySem.W.BT.nil PySem.W.BT.nil) (PySem.W.BT.node (oq_50 P) PySem.W.BT.nil PySem.W.BT.nil)) (PySem.W.BT.node (oz_26 P) (PySem.W.BT.node (oz_42 P) PySem.W.BT.nil PySem.W.BT.nil) PySem.W.BT.nil)) (PySem.W.BT.node (oz_14 P) (PySem.W.BT.node (oz_22 P) (PySem.W.BT.node (oz_38 P) PySem.W.BT.nil PySem.W.BT.nil) PySem.W.BT.nil) (PySem.W.BT.node (oz_30 P) (PySem.W.BT.node (oz_46 P) PySem.W.BT.nil PySem.W.BT.nil) PySem.W.BT.nil)))))
noncomputable abbrev on_48 (P : PySem.Params) : PySem.Obj := PySem.Obj.mk (PySem.Value.type "range_iterator") Option.none (PySem.Data.fields (List.toArray (PySem.Value.int 128 0 :: PySem.Value.int 128 0 :: PySem.Value.int 1 0 :: []))) #[]
noncomputable abbrev on_49 (P : PySem.Params) : PySem.Obj := PySem.Obj.mk (PySem.Value.type "list") Option.none (PySem.Data.seq (List.toArray (PySem.Value.str (PySem.Str.ofString "=00") 246 :: PySem.Value.str (PySem.Str.ofString "=01") 250 :: PySem.Value.str (PySem.Str.ofString "=02") 254 :: PySem.Value.str (PySem.Str.ofString "=03") 258 :: PySem.Value.str (PySem.Str.ofString "=04") 262 :: PySem.Value.str (PySem.Str.ofString "=05") 266 :: PySem.Value.str (PySem.Str.ofString "=06") 270 :: PySem.Value.str (PySem.Str.ofString "=07") 274 :: PySem.Value.str (PySem.Str.ofString "=08") 278 :: PySem.Value.str (PySem.Str.ofString "=09") 282 :: PySem.Value.str (PySem.Str.ofString "=0A") 286 :: PySem.Value.str (PySem.Str.ofString "=0B") 290 :: PySem.Value.str (PySem.Str.ofString "=0C") 294 :: PySem.Value.str (PySem.Str.ofString "=0D") 298 :: PySem.Value.str (PySem.Str.ofString "=0E") 302 :: PySem.Value.str (PySem.Str.ofString "=0F") 306 :: PySem.Value.str (PySem.Str.ofString "=10") 310 :: PySem.Value.str (PySem.Str.ofString "=11") 314 :: PySem.Value.str (PySem.Str.ofString "=12") 318 :: PySem.Value.str (PySem.Str.ofString "=13") 322 :: PySem.Value.str (PySem.Str.ofString "=14") 326 :: PySem.Value.str (PySem.Str.ofString "=15") 330 :: PySem.Value.str (PySem.Str.ofString "=16") 334 :: PySem.Value.str (PySem.Str.ofString "=17") 338 :: PySem.Value.str (PySem.Str.ofString "=18") 342 :: PySem.Value.str (PySem.Str.ofString "=19") 346 :: PySem.Value.str (PySem.Str.ofString "=1A") 350 :: PySem.Value.str (PySem.Str.ofString "=1B") 354 :: PySem.Value.str (PySem.Str.ofString "=1C") 358 :: PySem.Value.str (PySem.Str.ofString "=1D") 362 :: PySem.Value.str (PySem.Str.ofString "=1E") 366 :: PySem.Value.str (PySem.Str.ofString "=1F") 370 :: PySem.Value.str (PySem.Str.ofString "=20") 374 :: PySem.Value.str (PySem.Str.ofString "=21") 378 :: PySem.Value.str (PySem.Str.ofString "=22") 382 :: PySem.Value.str (PySem.Str.ofString "=23") 386 :: PySem.Value.str (PySem.Str.ofString "=24") 390 :: PySem.Value.str (PySem.Str.ofString "=25") 394 :: PySem.Value.str (PySem.Str.ofString "=26") 398 :: PySem.Value.str (PySem.Str.ofString "=27") 402 :: PySem.Value.str (PySem.Str.ofString "=28") 406 :: PySem.Value.str (PySem.Str.ofString "=29") 410 :: PySem.Value.str (PySem.Str.ofString "=2A") 414 :: PySem.Value.str (PySem.Str.ofString "=2B") 418 :: PySem.Value.str (PySem.Str.ofString "=2C") 422 :: PySem.Value.str (PySem.Str.ofString "=2D") 426 :: PySem.Value.str (PySem.Str.ofString "=2E") 430 :: PySem.Value.str (PySem.Str.ofString "=2F") 434 :: PySem.Value.str (PySem.Str.ofString "=30") 438 :: PySem.Value.str (PySem.Str.ofString "=31") 442 :: PySem.Value.str (PySem.Str.ofString "=32") 446 :: PySem.Value.str (PySem.Str.ofString "=33") 450 :: PySem.Value.str (PySem.Str.ofString "=34") 454 :: PySem.Value.str (PySem.Str.ofString "=35") 458 :: PySem.Value.str (PySem.Str.ofString "=36") 462 :: PySem.Value.str (PySem.Str.ofString "=37") 466 :: PySem.Value.str (PySem.Str.ofString "=38") 470 :: PySem.Value.str (PySem.Str.ofString "=39") 474 :: PySem.Value.str (PySem.Str.ofString "=3A") 478 :: PySem.Value.str (PySem.Str.ofString "=3B") 482 :: PySem.Value.str (PySem.Str.ofString "=3C") 486 :: PySem.Value.str (PySem.Str.ofString "=3D") 490 :: PySem.Value.str (PySem.Str.ofString "=3E") 494 :: PySem.Value.str (PySem.Str.ofString "=3F") 498 :: PySem.Value.str (PySem.Str.ofString "=40") 502 :: PySem.Value.str (PySem.Str.ofString "=41") 506 :: PySem.Value.str (PySem.Str.ofString "=42") 510 :: PySem.Value.str (PySem.Str.ofString "=43") 514 :: PySem.Value.str (PySem.Str.ofString "=44") 518 :: PySem.Value.str (PySem.Str.ofString "=45") 522 :: PySem.Value.str (PySem.Str.ofString "=46") 526 :: PySem.Value.str (PySem.Str.ofString "=47") 530 :: PySem.Value.str (PySem.Str.ofString "=48") 534 :: PySem.Value.str (PySem.Str.ofString "=49") 538 :: PySem.Value.str (PySem.Str.ofString "=4A") 542 :: PySem.Value.str (PySem.Str.ofString "=4B") 546 :: PySem.Value.str (PySem.Str.ofString "=4C") 550 :: PySem.Value.str (PySem.Str.ofString "=4D") 554 :: PySem.Value.str (PySem.Str.ofString "=4E") 558 :: PySem.Value.str (PySem.Str.ofString "=4F") 562 :: PySem.Value.str (PySem.Str.ofString "=50") 566 :: PySem.Value.str (PySem.Str.ofString "=51") 570 :: PySem.Value.str (PySem.Str.ofString "=52") 574 :: PySem.Value.str (PySem.Str.ofString "=53") 578 :: PySem.Value.str (PySem.Str.ofString "=54") 582 :: PySem.Value.str (PySem.Str.ofString "=55") 586 :: PySem.Value.str (PySem.Str.ofString "=56") 590 :: PySem.Value.str (PySem.Str.ofString "=57") 594 :: PySem.Value.str (PySem.Str.ofString "=58") 598 :: PySem.Value.str (PySem.Str.ofString "=59") 602 :: PySem.Value.str (PySem.Str.ofString "=5A") 606 :: PySem.Value.str (PySem.Str.ofString "=5B") 610 :: PySem.Value.str (PySem.Str.ofString "=5C") 614 :: PySem.Value.str (PySem.Str.ofString "=5D") 618 :: PySem.Value.str (PySem.Str.ofString "=5E") 622 :: PySem.Value.str (PySem.Str.ofString "=5F") 626 :: PySem.Value.str (PySem.Str.ofString "=60") 630 :: PySem.Value.str (PySem.Str.ofString "=61") 634 :: PySem.Value.str (PySem.Str.ofString "=62") 638 :: PySem.Value.str (PySem.Str.ofString "=63") 642 :: PySem.Value.str (PySem.Str.ofString "=64") 646 :: PySem.Value.str (PySem.Str.ofString "=65") 650 :: PySem.Value.str (PySem.Str.ofString "=66") 654 :: PySem.Value.str (PySem.Str.ofString "=67") 658 :: PySem.Value.str (PySem.Str.ofString "=68") 662 :: PySem.Value.str (PySem.Str.ofString "=69") 666 :: PySem.Value.str (PySem.Str.ofString "=6A") 670 :: PySem.Value.str (PySem.Str.ofString "=6B") 674 :: PySem.Value.str (PySem.Str.ofString "=6C") 678 :: PySem.Value.str (PySem.Str.ofString "=6D") 682 :: PySem.Value.str (PySem.Str.ofString "=6E") 686 :: PySem.Value.str (PySem.Str.ofString "=6F") 690 :: PySem.Value.str (PySem.Str.ofString "=70") 694 :: PySem.Value.str (PySem.Str.ofString "=71") 698 :: PySem.Value.str (PySem.Str.ofString "=72") 702 :: PySem.Value.str (PySem.Str.ofString "=73") 706 :: PySem.Value.str (PySem.Str.ofString "=74") 710 :: PySem.Value.str (PySem.Str.ofString "=75") 714 :: PySem.Value.str (PySem.Str.ofString "=76") 718 :: PySem.Value.str (PySem.Str.ofString "=77") 722 :: PySem.Value.str (PySem.Str.ofString "=78") 726 :: PySem.Value.str (PySem.Str.ofString "=79") 730 :: PySem.Value.str (PySem.Str.ofString "=7A") 734 :: PySem.Value.str (PySem.Str.ofString "=7B") 738 :: PySem.Value.str (PySem.Str.ofString "=7C") 742 :: PySem.Value.str (PySem.Str.ofString "=7D") 746 :: PySem.Value.str (PySem.Str.ofString "=7E") 750 :: PySem.Value.str (PySem.Str.ofString "=7F") 754 :: [])) 128) #[]
noncomputable abbrev on_50 (P : PySem.Params) : PySem.Obj := PySem.Obj.mk (PySem.Value.type "dict") Option.none (PySem.Data.dict (List.toArray (PySem.DictEntry.mk (PySem.PyData.keyHash P (PySem.Str.ofString "c")) (PySem.Value.str (PySem.Str.ofString "c") 244) (PySem.Value.int 127 751) :: [])) 1) #[]
noncomputable abbrev tree_n (P : PySem.Params) : PySem.W.BT := (PySem.W.BT.node (PySem.W.boot_o_0 P) (PySem.W.BT.node (PySem.W.boot_o_1 P) (PySem.W.BT.node (oa_3 P) (PySem.W.BT.node (PySem.W.boot_o_7 P) (PySem.W.BT.node (oz_15 P) (PySem.W.BT.node (oz_31 P) PySem.W.BT.nil PySem.W.BT.nil) (PySem.W.BT.node (oz_47 P) PySem.W.BT.nil PySem.W.BT.nil)) (PySem.W.BT.node (oz_23 P) (PySem.W.BT.node (oz_39 P) PySem.W.BT.nil PySem.W.BT.nil) PySem.W.BT.nil)) (PySem.W.BT.node (oz_11 P) (PySem.W.BT.node (oz_19 P) (PySem.W.BT.node (oz_35 P) PySem.W.BT.nil PySem.W.BT.nil) PySem.W.BT.nil) (PySem.W.BT.node (oz_27 P) (PySem.W.BT.node (oz_43 P) PySem.W.BT.nil PySem.W.BT.nil) PySem.W.BT.nil))) (PySem.W.BT.node (PySem.W.boot_o_5 P) (PySem.W.BT.node (PySem.W.boot_o_9 P) (PySem.W.BT.node (oz_17 P) (PySem.W.BT.node (oz_33 P) PySem.W.BT.nil PySem.W.BT.nil) (PySem.W.BT.node (on_49 P) PySem.W.BT.nil PySem.W.BT.nil)) (PySem.W.BT.node (oz_25 P) (PySem.W.BT.node (oz_41 P) PySem.W.BT.nil PySem.W.BT.nil) PySem.W.BT.nil)) (PySem.W.BT.node (oz_13 P) (PySem.W.BT.node (oz_21 P) (PySem.W.BT.node (oz_37 P) PySem.W.BT.nil PySem.W.BT.nil) PySem.W.BT.nil) (PySem.W.BT.node (oz_29 P) (PySem.W.BT.node (oz_45 P) PySem.W.BT.nil PySem.W.BT.nil) PySem.W.BT.nil)))) (PySem.W.BT.node (oz_2 P) (PySem.W.BT.node (PySem.W.boot_o_4 P) (PySem.W.BT.node (PySem.W.boot_o_8 P) (PySem.W.BT.node (oz_16 P) (PySem.W.BT.node (oz_32 P) PySem.W.BT.nil PySem.W.BT.nil) (PySem.W.BT.node (on_48 P) PySem.W.BT.nil PySem.W.BT.nil)) (PySem.W.BT.node (oz_24 P) (PySem.W.BT.node (oz_40 P) PySem.W.BT.nil PySem.W.BT.nil) PySem.W.BT.nil)) (PySem.W.BT.node (oa_12 P) (PySem.W.BT.node (oz_20 P) (PySem.W.BT.node (oz_36 P) PySem.W.BT.nil PySem.W.BT.nil) PySem.W.BT.nil) (PySem.W.BT.node (oz_28 P) (PySem.W.BT.node (oz_44 P) PySem.W.BT.nil PySem.W.BT.nil) PySem.W.BT.nil))) (PySem.W.BT.node (PySem.W.boot_o_6 P) (PySem.W.BT.node (PySem.W.boot_o_10 P) (PySem.W.BT.node (oz_18 P) (PySem.W.BT.node (oz_34 P) PySem.W.BT.nil PySem.W.BT.nil) (PySem.W.BT.node (on_50 P) PySem.W.BT.nil PySem.W.BT.nil)) (PySem.W.BT.node (oz_26 P) (PySem.W.BT.node (oz_42 P) PySem.W.BT.nil PySem.W.BT.nil) PySem.W.BT.nil)) (PySem.W.BT.node (oz_14 P) (PySem.W.BT.node (oz_22 P) (PySem.W.BT.node (oz_38 P) PySem.W.BT.nil PySem.W.BT.nil) PySem.W.BT.nil) (PySem.W.BT.node (oz_30 P) (PySem.W.BT.node (oz_46 P) PySem.W.BT.nil PySem.W.BT.nil) PySem.W.BT.nil)))))
noncomputable abbrev ou_48 (P : PySem.Params) : PySem.Obj := PySem.Obj.mk (PySem.Value.type "range_iterator") Option.none (PySem.Data.fields (List.toArray (PySem.Value.int 192 0 :: PySem.Value.int 64 0 :: PySem.Value.int 1 0 :: []))) #[]
noncomputable abbrev ou_49 (P : PySem.Params) : PySem.Obj := PySem.Obj.mk (PySem.Value.type "list") Option.none (PySem.Data.seq (List.toArray (PySem.Value.str (PySem.Str.ofString "=00") 246 :: PySem.Value.str (PySem.Str.ofString "=01") 250 :: PySem.Value.str (PySem.Str.ofString "=02") 254 :: PySem.Value.str (PySem.Str.ofString "=03") 258 :: PySem.Value.str (PySem.Str.ofString "=04") 262 :: PySem.Value.str (PySem.Str.ofString "=05") 266 :: PySem.Value.str (PySem.Str.ofString "=06") 270 :: PySem.Value.str (PySem.Str.ofString "=07") 274 :: PySem.Value.str (PySem.Str.ofString "=08") 278 :: PySem.Value.str (PySem.Str.ofString "=09") 282 :: PySem.Value.str (PySem.Str.ofString "=0A") 286 :: PySem.Value.str (PySem.Str.ofString "=0B") 290 :: PySem.Value.str (PySem.Str.ofString "=0C") 294 :: PySem.Value.str (PySem.Str.ofString "=0D") 298 :: PySem.Value.str (PySem.Str.ofString "=0E") 302 :: PySem.Value.str (PySem.Str.ofString "=0F") 306 :: PySem.Value.str (PySem.Str.ofString "=10") 310 :: PySem.Value.str (PySem.Str.ofString "=11") 314 :: PySem.Value.str (PySem.Str.ofString "=12") 318 :: PySem.Value.str (PySem.Str.ofString "=13") 322 :: PySem.Value.str (PySem.Str.ofString "=14") 326 :: PySem.Value.str (PySem.Str.ofString "=15") 330 :: PySem.Value.str (PySem.Str.ofString "=16") 334 :: PySem.Value.str (PySem.Str.ofString "=17") 338 :: PySem.Value.str (PySem.Str.ofString "=18") 342 :: PySem.Value.str (PySem.Str.ofString "=19") 346 :: PySem.Value.str (PySem.Str.ofString "=1A") 350 :: PySem.Value.str (PySem.Str.ofString "=1B") 354 :: PySem.Value.str (PySem.Str.ofString "=1C") 358 :: PySem.Value.str (PySem.Str.ofString "=1D") 362 :: PySem.Value.str (PySem.Str.ofString "=1E") 366 :: PySem.Value.str (PySem.Str.ofString "=1F") 370 :: PySem.Value.str (PySem.Str.ofString "=20") 374 :: PySem.Value.str (PySem.Str.ofString "=21") 378 :: PySem.Value.str (PySem.Str.ofString "=22") 382 :: PySem.Value.str (PySem.Str.ofString "=23") 386 :: PySem.Value.str (PySem.Str.ofString "=24") 390 :: PySem.Value.str (PySem.Str.ofString "=25") 394 :: PySem.Value.str (PySem.Str.ofString "=26") 398 :: PySem.Value.str (PySem.Str.ofString "=27") 402 :: PySem.Value.str (PySem.Str.ofString "=28") 406 :: PySem.Value.str (PySem.Str.ofString "=29") 410 :: PySem.Value.str (PySem.Str.ofString "=2A") 414 :: PySem.Value.str (PySem.Str.ofString "=2B") 418 :: PySem.Value.str (PySem.Str.ofString "=2C") 422 :: PySem.Value.str (PySem.Str.ofString "=2D") 426 :: PySem.Value.str (PySem.Str.ofString "=2E") 430 :: PySem.Value.str (PySem.Str.ofString "=2F") 434 :: PySem.Value.str (PySem.Str.ofString "=30") 438 :: PySem.Value.str (PySem.Str.ofString "=31") 442 :: PySem.Value.str (PySem.Str.ofString "=32") 446 :: PySem.Value.str (PySem.Str.ofString "=33") 450 :: PySem.Value.str (PySem.Str.ofString "=34") 454 :: PySem.Value.str (PySem.Str.ofString "=35") 458 :: PySem.Value.str (PySem.Str.ofString "=36") 462 :: PySem.Value.str (PySem.Str.ofString "=37") 466 :: PySem.Value.str (PySem.Str.ofString "=38") 470 :: PySem.Value.str (PySem.Str.ofString "=39") 474 :: PySem.Value.str (PySem.Str.ofString "=3A") 478 :: PySem.Value.str (PySem.Str.ofString "=3B") 482 :: PySem.Value.str (PySem.Str.ofString "=3C") 486 :: PySem.Value.str (PySem.Str.ofString "=3D") 490 :: PySem.Value.str (PySem.Str.ofString "=3E") 494 :: PySem.Value.str (PySem.Str.ofString "=3F") 498 :: PySem.Value.str (PySem.Str.ofString "=40") 502 :: PySem.Value.str (PySem.Str.ofString "=41") 506 :: PySem.Value.str (PySem.Str.ofString "=42") 510 :: PySem.Value.str (PySem.Str.ofString "=43") 514 :: PySem.Value.str (PySem.Str.ofString "=44") 518 :: PySem.Value.str (PySem.Str.ofString "=45") 522 :: PySem.Value.str (PySem.Str.ofString "=46") 526 :: PySem.Value.str (PySem.Str.ofString "=47") 530 :: PySem.Value.str (PySem.Str.ofString "=48") 534 :: PySem.Value.str (PySem.Str.ofString "=49") 538 :: PySem.Value.str (PySem.Str.ofString "=4A") 542 :: PySem.Value.str (PySem.Str.ofString "=4B") 546 :: PySem.Value.str (PySem.Str.ofString "=4C") 550 :: PySem.Value.str (PySem.Str.ofString "=4D") 554 :: PySem.Value.str (PySem.Str.ofString "=4E") 558 :: PySem.Value.str (PySem.Str.ofString "=4F") 562 :: PySem.Value.str (PySem.Str.ofString "=50") 566 :: PySem.Value.str (PySem.Str.ofString "=51") 570 :: PySem.Value.str (PySem.Str.ofString "=52") 574 :: PySem.Value.str (PySem.Str.ofString "=53") 578 :: PySem.Value.str (PySem.Str.ofString "=54") 582 :: PySem.Value.str (PySem.Str.ofString "=55") 586 :: PySem.Value.str (PySem.Str.ofString "=56") 590 :: PySem.Value.str (PySem.Str.ofString "=57") 594 :: PySem.Value.str (PySem.Str.ofString "=58") 598 :: PySem.Value.str (PySem.Str.ofString "=59") 602 :: PySem.Value.str (PySem.Str.ofString "=5A") 606 :: PySem.Value.str (PySem.Str.ofString "=5B") 610 :: PySem.Value.str (PySem.Str.ofString "=5C") 614 :: PySem.Value.str (PySem.Str.ofString "=5D") 618 :: PySem.Value.str (PySem.Str.ofString "=5E") 622 :: PySem.Value.str (PySem.Str.ofString "=5F") 626 :: PySem.Value.str (PySem.Str.ofString "=60") 630 :: PySem.Value.str (PySem.Str.ofString "=61") 634 :: PySem.Value.str (PySem.Str.ofString "=62") 638 :: PySem.Value.str (PySem.Str.ofString "=63") 642 :: PySem.Value.str (PySem.Str.ofString "=64") 646 :: PySem.Value.str (PySem.Str.ofString "=65") 650 :: PySem.Value.str (PySem.Str.ofString "=66") 654 :: PySem.Value.str (PySem.Str.ofString "=67") 658 :: PySem.Value.str (PySem.Str.ofString "=68") 662 :: PySem.Value.str (PySem.Str.ofString "=69") 666 :: PySem.Value.str (PySem.Str.ofString "=6A") 670 :: PySem.Value.str (PySem.Str.ofString "=6B") 674 :: PySem.Value.str (PySem.Str.ofString "=6C") 678 :: PySem.Value.str (PySem.Str.ofString "=6D") 682 :: PySem.Value.str (PySem.Str.ofString "=6E") 686 :: PySem.Value.str (PySem.Str.ofString "=6F") 690 :: PySem.Value.str (PySem.Str.ofString "=70") 694 :: PySem.Value.str (PySem.Str.ofString "=71") 698 :: PySem.Value.str (PySem.Str.ofString "=72") 702 :: PySem.Value.str (PySem.Str.ofString "=73") 706 :: PySem.Value.str (PySem.Str.ofString "=74") 710 :: PySem.Value.str (PySem.Str.ofString "=75") 714 :: PySem.Value.str (PySem.Str.ofString "=76") 718 :: PySem.Value.str (PySem.Str.ofString "=77") 722 :: PySem.Value.str (PySem.Str.ofString "=78") 726 :: PySem.Value.str (PySem.Str.ofString "=79") 730 :: PySem.Value.str (PySem.Str.ofString "=7A") 734 :: PySem.Value.str (PySem.Str.ofString "=7B") 738 :: PySem.Value.str (PySem.Str.ofString "=7C") 742 :: PySem.Value.str (PySem.Str.ofString "=7D") 746 :: PySem.Value.str (PySem.Str.ofString "=7E") 750 :: PySem.Value.str (PySem.Str.ofString "=7F") 754 :: PySem.Value.str (PySem.Str.ofString "=80") 758 :: PySem.Value.str (PySem.Str.ofString "=81") 762 :: PySem.Value.str (PySem.Str.ofString "=82") 766 :: PySem.Value.str (PySem.Str.ofString "=83") 770 :: PySem.Value.str (PySem.Str.ofString "=84") 774 :: PySem.Value.str (PySem.Str.ofString "=85") 778 :: PySem.Value.str (PySem.Str.ofString "=86") 782 :: PySem.Value.str (PySem.Str.ofString "=87") 786 :: PySem.Value.str (PySem.Str.ofString "=88") 790 :: PySem.Value.str (PySem.Str.ofString "=89") 794 :: PySem.Value.str (PySem.Str.ofString "=8A") 798 :: PySem.Value.str (PySem.Str.ofString "=8B") 802 :: PySem.Value.str (PySem.Str.ofString "=8C") 806 :: PySem.Value.str (PySem.Str.ofString "=8D") 810 :: PySem.Value.str (PySem.Str.ofString "=8E") 814 :: PySem.Value.str (PySem.Str.ofString "=8F") 818 :: PySem.Value.str (PySem.Str.ofString "=90") 822 :: PySem.Value.str (PySem.Str.ofString "=91") 826 :: PySem.Value.str (PySem.Str.ofString "=92") 830 :: PySem.Value.str (PySem.Str.ofString "=93") 834 :: PySem.Value.str (PySem.Str.ofString "=94") 838 :: PySem.Value.str (PySem.Str.ofString "=95") 842 :: PySem.Value.str (PySem.Str.ofString "=96") 846 :: PySem.Value.str (PySem.Str.ofString "=97") 850 :: PySem.Value.str (PySem.Str.ofString "=98") 854 :: PySem.Value.str (PySem.Str.ofString "=99") 858 :: PySem.Value.str (PySem.Str.ofString "=9A") 862 :: PySem.Value.str (PySem.Str.ofString "=9B") 866 :: PySem.Value.str (PySem.Str.ofString "=9C") 870 :: PySem.Value.str (PySem.Str.ofString "=9D") 874 :: PySem.Value.str (PySem.Str.ofString "=9E") 878 :: PySem.Value.str (PySem.Str.ofString "=9F") 882 :: PySem.Value.str (PySem.Str.ofString "=A0") 886 :: PySem.Value.str (PySem.Str.ofString "=A1") 890 :: PySem.Value.str (PySem.Str.ofString "=A2") 894 :: PySem.Value.str (PySem.Str.ofString "=A3") 898 :: PySem.Value.str (PySem.Str.ofString "=A4") 902 :: PySem.Value.str (PySem.Str.ofString "=A5") 906 :: PySem.Value.str (PySem.Str.ofString "=A6") 910 :: PySem.Value.str (PySem.Str.ofString "=A7") 914 :: PySem.Value.str (PySem.Str.ofString "=A8") 918 :: PySem.Value.str (PySem.Str.ofString "=A9") 922 :: PySem.Value.str (PySem.Str.ofString "=AA") 926 :: PySem.Value.str (PySem.Str.ofString "=AB") 930 :: PySem.Value.str (PySem.Str.ofString "=AC") 934 :: PySem.Value.str (PySem.Str.ofString "=AD") 938 :: PySem.Value.str (PySem.Str.ofString "=AE") 942 :: PySem.Value.str (PySem.Str.ofString "=AF") 946 :: PySem.Value.str (PySem.Str.ofString "=B0") 950 :: PySem.Value.str (PySem.Str.ofString "=B1") 954 :: PySem.Value.str (PySem.Str.ofString "=B2") 958 :: PySem.Value.str (PySem.Str.ofString "=B3") 962 :: PySem.Value.str (PySem.Str.ofString "=B4") 966 :: PySem.Value.str (PySem.Str.ofString "=B5") 970 :: PySem.Value.str (PySem.Str.ofString "=B6") 974 :: PySem.Value.str (PySem.Str.ofString "=B7") 978 :: PySem.Value.str (PySem.Str.ofString "=B8") 982 :: PySem.Value.str (PySem.Str.ofString "=B9") 986 :: PySem.Value.str (PySem.Str.ofString "=BA") 990 :: PySem.Value.str (PySem.Str.ofString "=BB") 994 :: PySem.Value.str (PySem.Str.ofString "=BC") 998 :: PySem.Value.str (PySem.Str.ofString "=BD") 1002 :: PySem.Value.str (PySem.Str.ofString "=BE") 1006 :: PySem.Value.str (PySem.Str.ofString "=BF") 1010 :: [])) 192) #[]
noncomputable abbrev ou_50 (P : PySem.Params) : PySem.Obj := PySem.Obj.mk (PySem.Value.type "dict") Option.none (PySem.Data.dict (List.toArray (PySem.DictEntry.mk (PySem.PyData.keyHash P (PySem.Str.ofString "c")) (PySem.Value.str (PySem.Str.ofString "c") 244) (PySem.Value.int 191 1007) :: [])) 1) #[]
noncomputable abbrev tree_u (P : PySem.Params) : PySem.W.BT := (PySem.W.BT.node (PySem.W.boot_o_0 P) (PySem.W.BT.node (PySem.W.boot_o_1 P) (PySem.W.BT.node (oa_3 P) (PySem.W.BT.node (PySem.W.boot_o_7 P) (PySem.W.BT.node (oz_15 P) (PySem.W.BT.node (oz_31 P) PySem.W.BT.nil PySem.W.BT.nil) (PySem.W.BT.node (oz_47 P) PySem.W.BT.nil PySem.W.BT.nil)) (PySem.W.BT.node (oz_23 P) (PySem.W.BT.node (oz_39 P) PySem.W.BT.nil PySem.W.BT.nil) PySem.W.BT.nil)) (PySem.W.BT.node (oz_11 P) (PySem.W.BT.node (oz_19 P) (PySem.W.BT.node (oz_35 P) PySem.W.BT.nil PySem.W.BT.nil) PySem.W.BT.nil) (PySem.W.BT.node (oz_27 P) (PySem.W.BT.node (oz_43 P) PySem.W.BT.nil PySem.W.BT.nil) PySem.W.BT.nil))) (PySem.W.BT.node (PySem.W.boot_o_5 P) (PySem.W.BT.node (PySem.W.boot_o_9 P) (PySem.W.BT.node (oz_17 P) (PySem.W.BT.node (oz_33 P) PySem.W.BT.nil PySem.W.BT.nil) (PySem.W.BT.node (ou_49 P) PySem.W.BT.nil PySem.W.BT.nil)) (PySem.W.BT.node (oz_25 P) (PySem.W.BT.node (oz_41 P) PySem.W.BT.nil PySem.W.BT.nil) PySem.W.BT.nil)) (PySem.W.BT.node (oz_13 P) (PySem.W.BT.node (oz_21 P) (PySem.W.BT.node (oz_37 P) PySem.W.BT.nil PySem.W.BT.nil) PySem.W.BT.nil) (PySem.W.BT.node (oz_29 P) (PySem.W.BT.node (oz_45 P) PySem.W.BT.nil PySem.W.BT.nil) PySem.W.BT.nil)))) (PySem.W.BT.node (oz_2 P) (PySem.W.BT.node (PySem.W.boot_o_4 P) (PySem.W.BT.node (PySem.W.boot_o_8 P) (PySem.W.BT.node (oz_16 P) (PySem.W.BT.node (oz_32 P) PySem.W.BT.nil PySem.W.BT.nil) (PySem.W.BT.node (ou_48 P) PySem.W.BT.nil PySem.W.BT.nil)) (PySem.W.BT.node (oz_24 P) (PySem.W.BT.node (oz_40 P) PySem.W.BT.nil PySem.W.BT.nil) PySem.W.BT.nil)) (PySem.W.BT.node (oa_12 P) (PySem.W.BT.node (oz_20 P) (PySem.W.BT.node (oz_36 P) PySem.W.BT.nil PySem.W.BT.nil) PySem.W.BT.nil) (PySem.W.BT.node (oz_28 P) (PySem.W.BT.node (oz_44 P) PySem.W.BT.nil PySem.W.BT.nil) PySem.W.BT.nil))) (PySem.W.BT.node (PySem.W.boot_o_6 P) (PySem.W.BT.node (PySem.W.boot_o_10 P) (PySem.W.BT.node (oz_18 P) (PySem.W.BT.node (oz_34 P) PySem.W.BT.nil PySem.W.BT.nil) (PySem.W.BT.node (ou_50 P) PySem.W.BT.nil PySem.W.BT.nil)) (PySem.W.BT.node (oz_26 P) (PySem.W.BT.node (oz_42 P) PySem.W.BT.nil PySem.W.BT.nil) PySem.W.BT.nil)) (PySem.W.BT.node (oz_14 P) (PySem.W.BT.node (oz_22 P) (PySem.W.BT.node (oz_38 P) PySem.W.BT.nil PySem.W.BT.nil) PySem.W.BT.nil) (PySem.W.BT.node (oz_30 P) (PySem.W.BT.node (oz_46 P) PySem.W.BT.nil PySem.W.BT.nil) PySem.W.BT.nil)))))
noncomputable abbrev oc_3 (P : PySem.Params) : PySem.Obj := PySem.Obj.mk (PySem.Value.type "dict") Option.none (PySem.Data.dict (List.toArray (PySem.DictEntry.mk (PySem.PyData.keyHash P (PySem.Str.ofString "__name__")) (PySem.Value.str (PySem.Str.ofString "__name__") 165) (PySem.Value.str (PySem.Str.ofString "cpy313.email.quoprimime") 1278) :: PySem.DictEntry.mk (PySem.PyData.keyHash P (PySem.Str.ofString "__doc__")) (PySem.Value.str (PySem.Str.ofString "__doc__") 166) PySem.Value.none :: PySem.DictEntry.mk (PySem.PyData.keyHash P (PySem.Str.ofString "__package__")) (PySem.Value.str (PySem.Str.ofString "__package__") 167) PySem.Value.none :: PySem.DictEntry.mk (PySem.PyData.keyHash P (PySem.Str.ofString "__loader__")) (PySem.Value.str (PySem.Str.ofString "__loader__") 168) (PySem.Value.builtin "__main__.__loader__#opaque") :: PySem.DictEntry.mk (PySem.PyData.keyHash P (PySem.Str.ofString "__spec__")) (PySem.Value.str (PySem.Str.ofString "__spec__") 169) PySem.Value.none :: PySem.DictEntry.mk (PySem.PyData.keyHash P (PySem.Str.ofString "__annotations__")) (PySem.Value.str (PySem.Str.ofString "__annotations__") 170) (PySem.Value.ref 6) :: PySem.DictEntry.mk (PySem.PyData.keyHash P (PySem.Str.ofString "__builtins__")) (PySem.Value.str (PySem.Str.ofString "__builtins__") 171) (PySem.Value.ref 4) :: PySem.DictEntry.mk (PySem.PyData.keyHash P (PySem.Str.ofString "__file__")) (PySem.Value.str (PySem.Str.ofString "__file__") 173) (PySem.Value.str (PySem.Str.ofString "/claim/cut.py") 172) :: PySem.DictEntry.mk (PySem.PyData.keyHash P (PySem.Str.ofString "__cached__")) (PySem.Value.str (PySem.Str.ofString "__cached__") 174) PySem.Value.none :: PySem.DictEntry.mk (PySem.PyData.keyHash P (PySem.Str.ofString "Error")) (PySem.Value.str (PySem.Str.ofString "Error") 208) (PySem.Value.ref 24) :: PySem.DictEntry.mk (PySem.PyData.keyHash P (PySem.Str.ofString "error_reply")) (PySem.Value.str (PySem.Str.ofString "error_reply") 224) (PySem.Value.ref 37) :: PySem.DictEntry.mk (PySem.PyData.keyHash P (PySem.Str.ofString "parse257")) (PySem.Value.str (PySem.Str.ofString "parse257") 235) (PySem.Value.ref 46) :: PySem.DictEntry.mk (PySem.PyData.keyHash P (PySem.Str.ofString "CRLF")) (PySem.Value.str (PySem.Str.ofString "CRLF") 237) (PySem.Value.str (PySem.Str.ofString "\x0d\n") 236) :: PySem.DictEntry.mk (PySem.PyData.keyHash P (PySem.Str.ofString "NL")) (PySem.Value.str (PySem.Str.ofString "NL") 239) (PySem.Value.str (PySem.Str.ofString "\n") 238) :: PySem.DictEntry.mk (PySem.PyData.keyHash P (PySem.Str.ofString "_QUOPRI_MAP")) (PySem.Value.str (PySem.Str.ofString "_QUOPRI_MAP") 1267) (PySem.Value.ref 49) :: PySem.DictEntry.mk (PySem.PyData.keyHash P (PySem.Str.ofString "_QUOPRI_HEADER_MAP")) (PySem.Value.str (PySem.Str.ofString "_QUOPRI_HEADER_MAP") 1268) (PySem.Value.ref 54) :: PySem.DictEntry.mk (PySem.PyData.keyHash P (PySem.Str.ofString "_QUOPRI_BODY_MAP")) (PySem.Value.str (PySem.Str.ofString "_QUOPRI_BODY_MAP") 1269) (PySem.Value.ref 56) :: PySem.DictEntry.mk (PySem.PyData.keyHash P (PySem.Str.ofString "ascii_lowercase")) (PySem.Value.str (PySem.Str.ofString "ascii_lowercase") 1271) (PySem.Value.str (PySem.Str.ofString "abcdefghijklmnopqrstuvwxyz") 1270) :: PySem.DictEntry.mk (PySem.PyData.keyHash P (PySem.Str.ofString "ascii_uppercase")) (PySem.Value.str (PySem.Str.ofString "ascii_uppercase") 1273) (PySem.Value.str (PySem.Str.ofString "ABCDEFGHIJKLMNOPQRSTUVWXYZ") 1272) :: PySem.DictEntry.mk (PySem.PyData.keyHash P (PySem.Str.ofString "ascii_letters")) (PySem.Value.str (PySem.Str.ofString "ascii_letters") 1275) (PySem.Value.str (PySem.Str.ofString "abcdefghijklmnopqrstuvwxyzABCDEFGHIJKLMNOPQRSTUVWXYZ") 1274) :: PySem.DictEntry.mk (PySem.PyData.keyHash P (PySem.Str.ofString "digits")) (PySem.Value.str (PySem.Str.ofString "digits") 1277) (PySem.Value.str (PySem.Str.ofString "0123456789") 1276) :: [])) 21) #[]
noncomputable abbrev oc_54 (P : PySem.Params) : PySem.Obj := PySem.Obj.mk (PySem.Value.type "list") Option.none (PySem.Data.seq (List.toArray (PySem.Value.str (PySem.Str.ofString "=00") 246 :: PySem.Value.str (PySem.Str.ofString "=01") 250 :: PySem.Value.str (PySem.Str.ofString "=02") 254 :: PySem.Value.str (PySem.Str.ofString "=03") 258 :: PySem.Value.str (PySem.Str.ofString "=04") 262 :: PySem.Value.str (PySem.Str.ofString "=05") 266 :: PySem.Value.str (PySem.Str.ofString "=06") 270 :: PySem.Value.str (PySem.Str.ofString "=07") 274 :: PySem.Value.str (PySem.Str.ofString "=08") 278 :: PySem.Value.str (PySem.Str.ofString "=09") 282 :: PySem.Value.str (PySem.Str.ofString "=0A") 286 :: PySem.Value.str (PySem.Str.ofString "=0B") 290 :: PySem.Value.str (PySem.Str.ofString "=0C") 294 :: PySem.Value.str (PySem.Str.ofString "=0D") 298 :: PySem.Value.str (PySem.Str.ofString "=0E") 302 :: PySem.Value.str (PySem.Str.ofString "=0F") 306 :: PySem.Value.str (PySem.Str.ofString "=10") 310 :: PySem.Value.str (PySem.Str.ofString "=11") 314 :: PySem.Value.str (PySem.Str.ofString "=12") 318 :: PySem.Value.str (PySem.Str.ofString "=13") 322 :: PySem.Value.str (PySem.Str.ofString "=14") 326 :: PySem.Value.str (PySem.Str.ofString "=15") 330 :: PySem.Value.str (PySem.Str.ofString "=16") 334 :: PySem.Value.str (PySem.Str.ofString "=17") 338 :: PySem.Value.str (PySem.Str.ofString "=18") 342 :: PySem.Value.str (PySem.Str.ofString "=19") 346 :: PySem.Value.str (PySem.Str.ofString "=1A") 350 :: PySem.Value.str (PySem.Str.ofString "=1B") 354 :: PySem.Value.str (PySem.Str.ofString "=1C") 358 :: PySem.Value.str (PySem.Str.ofString "=1D") 362 :: PySem.Value.str (PySem.Str.ofString "=1E") 366 :: PySem.Value.str (PySem.Str.ofString "=1F") 370 :: PySem.Value.str (PySem.Str.ofString "=20") 374 :: PySem.Value.str (PySem.Str.ofString "=21") 378 :: PySem.Value.str (PySem.Str.ofString "=22") 382 :: PySem.Value.str (PySem.Str.ofString "=23") 386 :: PySem.Value.str (PySem.Str.ofString "=24") 390 :: PySem.Value.str (PySem.Str.ofString "=25") 394 :: PySem.Value.str (PySem.Str.ofString "=26") 398 :: PySem.Value.str (PySem.Str.ofString "=27") 402 :: PySem.Value.str (PySem.Str.ofString "=28") 406 :: PySem.Value.str (PySem.Str.ofString "=29") 410 :: PySem.Value.str (PySem.Str.ofString "=2A") 414 :: PySem.Value.str (PySem.Str.ofString "=2B") 418 :: PySem.Value.str (PySem.Str.ofString "=2C") 422 :: PySem.Value.str (PySem.Str.ofString "=2D") 426 :: PySem.Value.str (PySem.Str.ofString "=2E") 430 :: PySem.Value.str (PySem.Str.ofString "=2F") 434 :: PySem.Value.str (PySem.Str.ofString "=30") 438 :: PySem.Value.str (PySem.Str.ofString "=31") 442 :: PySem.Value.str (PySem.Str.ofString "=32") 446 :: PySem.Value.str (PySem.Str.ofString "=33") 450 :: PySem.Value.str (PySem.Str.ofString "=34") 454 :: PySem.Value.str (PySem.Str.ofString "=35") 458 :: PySem.Value.str (PySem.Str.ofString "=36") 462 :: PySem.Value.str (PySem.Str.ofString "=37") 466 :: PySem.Value.str (PySem.Str.ofString "=38") 470 :: PySem.Value.str (PySem.Str.ofString "=39") 474 :: PySem.Value.str (PySem.Str.ofString "=3A") 478 :: PySem.Value.str (PySem.Str.ofString "=3B") 482 :: PySem.Value.str (PySem.Str.ofString "=3C") 486 :: PySem.Value.str (PySem.Str.ofString "=3D") 490 :: PySem.Value.str (PySem.Str.ofString "=3E") 494 :: PySem.Value.str (PySem.Str.ofString "=3F") 498 :: PySem.Value.str (PySem.Str.ofString "=40") 502 :: PySem.Value.str (PySem.Str.ofString "=41") 506 :: PySem.Value.str (PySem.Str.ofString "=42") 510 :: PySem.Value.str (PySem.Str.ofString "=43") 514 :: PySem.Value.str (PySem.Str.ofString "=44") 518 :: PySem.Value.str (PySem.Str.ofString "=45") 522 :: PySem.Value.str (PySem.Str.ofString "=46") 526 :: PySem.Value.str (PySem.Str.ofString "=47") 530 :: PySem.Value.str (PySem.Str.ofString "=48") 534 :: PySem.Value.str (PySem.Str.ofString "=49") 538 :: PySem.Value.str (PySem.Str.ofString "=4A") 542 :: PySem.Value.str (PySem.Str.ofString "=4B") 546 :: PySem.Value.str (PySem.Str.ofString "=4C") 550 :: PySem.Value.str (PySem.Str.ofString "=4D") 554 :: PySem.Value.str (PySem.Str.ofString "=4E") 558 :: PySem.Value.str (PySem.Str.ofString "=4F") 562 :: PySem.Value.str (PySem.Str.ofString "=50") 566 :: PySem.Value.str (PySem.Str.ofString "=51") 570 :: PySem.Value.str (PySem.Str.ofString "=52") 574 :: PySem.Value.str (PySem.Str.ofString "=53") 578 :: PySem.Value.str (PySem.Str.ofString "=54") 582 :: PySem.Value.str (PySem.Str.ofString "=55") 586 :: PySem.Value.str (PySem.Str.ofString "=56") 590 :: PySem.Value.str (PySem.Str.ofString "=57") 594 :: PySem.Value.str (PySem.Str.ofString "=58") 598 :: PySem.Value.str (PySem.Str.ofString "=59") 602 :: PySem.Value.str (PySem.Str.ofString "=5A") 606 :: PySem.Value.str (PySem.Str.ofString "=5B") 610 :: PySem.Value.str (PySem.Str.ofString "=5C") 614 :: PySem.Value.str (PySem.Str.ofString "=5D") 618 :: PySem.Value.str (PySem.Str.ofString "=5E") 622 :: PySem.Value.str (PySem.Str.ofString "=5F") 626 :: PySem.Value.str (PySem.Str.ofString "=60") 630 :: PySem.Value.str (PySem.Str.ofString "=61") 634 :: PySem.Value.str (PySem.Str.ofString "=62") 638 :: PySem.Value.str (PySem.Str.ofString "=63") 642 :: PySem.Value.str (PySem.Str.ofString "=64") 646 :: PySem.Value.str (PySem.Str.ofString "=65") 650 :: PySem.Value.str (PySem.Str.ofString "=66") 654 :: PySem.Value.str (PySem.Str.ofString "=67") 658 :: PySem.Value.str (PySem.Str.ofString "=68") 662 :: PySem.Value.str (PySem.Str.ofString "=69") 666 :: PySem.Value.str (PySem.Str.ofString "=6A") 670 :: PySem.Value.str (PySem.Str.ofString "=6B") 674 :: PySem.Value.str (PySem.Str.ofString "=6C") 678 :: PySem.Value.str (PySem.Str.ofString "=6D") 682 :: PySem.Value.str (PySem.Str.ofString "=6E") 686 :: PySem.Value.str (PySem.Str.ofString "=6F") 690 :: PySem.Value.str (PySem.Str.ofString "=70") 694 :: PySem.Value.str (PySem.Str.ofString "=71") 698 :: PySem.Value.str (PySem.Str.ofString "=72") 702 :: PySem.Value.str (PySem.Str.ofString "=73") 706 :: PySem.Value.str (PySem.Str.ofString "=74") 710 :: PySem.Value.str (PySem.Str.ofString "=75") 714 :: PySem.Value.str (PySem.Str.ofString "=76") 718 :: PySem.Value.str (PySem.Str.ofString "=77") 722 :: PySem.Value.str (PySem.Str.ofString "=78") 726 :: PySem.Value.str (PySem.Str.ofString "=79") 730 :: PySem.Value.str (PySem.Str.ofString "=7A") 734 :: PySem.Value.str (PySem.Str.ofString "=7B") 738 :: PySem.Value.str (PySem.Str.ofString "=7C") 742 :: PySem.Value.str (PySem.Str.ofString "=7D") 746 :: PySem.Value.str (PySem.Str.ofString "=7E") 750 :: PySem.Value.str (PySem.Str.ofString "=7F") 754 :: PySem.Value.str (PySem.Str.ofString "=80") 758 :: PySem.Value.str (PySem.Str.ofString "=81") 762 :: PySem.Value.str (PySem.Str.ofString "=82") 766 :: PySem.Value.str (PySem.Str.ofString "=83") 770 :: PySem.Value.str (PySem.Str.ofString "=84") 774 :: PySem.Value.str (PySem.Str.ofString "=85") 778 :: PySem.Value.str (PySem.Str.ofString "=86") 782 :: PySem.Value.str (PySem.Str.ofString "=87") 786 :: PySem.Value.str (PySem.Str.ofString "=88") 790 :: PySem.Value.str (PySem.Str.ofString "=89") 794 :: PySem.Value.str (PySem.Str.ofString "=8A") 798 :: PySem.Value.str (PySem.Str.ofString "=8B") 802 :: PySem.Value.str (PySem.Str.ofString "=8C") 806 :: PySem.Value.str (PySem.Str.ofString "=8D") 810 :: PySem.Value.str (PySem.Str.ofString "=8E") 814 :: PySem.Value.str (PySem.Str.ofString "=8F") 818 :: PySem.Value.str (PySem.Str.ofString "=90") 822 :: PySem.Value.str (PySem.Str.ofString "=91") 826 :: PySem.Value.str (PySem.Str.ofString "=92") 830 :: PySem.Value.str (PySem.Str.ofString "=93") 834 :: PySem.Value.str (PySem.Str.ofString "=94") 838 :: PySem.Value.str (PySem.Str.ofString "=95") 842 :: PySem.Value.str (PySem.Str.ofString "=96") 846 :: PySem.Value.str (PySem.Str.ofString "=97") 850 :: PySem.Value.str (PySem.Str.ofString "=98") 854 :: PySem.Value.str (PySem.Str.ofString "=99") 858 :: PySem.Value.str (PySem.Str.ofString "=9A") 862 :: PySem.Value.str (PySem.Str.ofString "=9B") 866 :: PySem.Value.str (PySem.Str.ofString "=9C") 870 :: PySem.Value.str (PySem.Str.ofString "=9D") 874 :: PySem.Value.str (PySem.Str.ofString "=9E") 878 :: PySem.Value.str (PySem.Str.ofString "=9F") 882 :: PySem.Value.str (PySem.Str.ofString "=A0") 886 :: PySem.Value.str (PySem.Str.ofString "=A1") 890 :: PySem.Value.str (PySem.Str.ofString "=A2") 894 :: PySem.Value.str (PySem.Str.ofString "=A3") 898 :: PySem.Value.str (PySem.Str.ofString "=A4") 902 :: PySem.Value.str (PySem.Str.ofString "=A5") 906 :: PySem.Value.str (PySem.Str.ofString "=A6") 910 :: PySem.Value.str (PySem.Str.ofString "=A7") 914 :: PySem.Value.str (PySem.Str.ofString "=A8") 918 :: PySem.Value.str (PySem.Str.ofString "=A9") 922 :: PySem.Value.str (PySem.Str.ofString "=AA") 926 :: PySem.Value.str (PySem.Str.ofString "=AB") 930 :: PySem.Value.str (PySem.Str.ofString "=AC") 934 :: PySem.Value.str (PySem.Str.ofString "=AD") 938 :: PySem.Value.str (PySem.Str.ofString "=AE") 942 :: PySem.Value.str (PySem.Str.ofString "=AF") 946 :: PySem.Value.str (PySem.Str.ofString "=B0") 950 :: PySem.Value.str (PySem.Str.ofString "=B1") 954 :: PySem.Value.str (PySem.Str.ofString "=B2") 958 :: PySem.Value.str (PySem.Str.ofString "=B3") 962 :: PySem.Value.str (PySem.Str.ofString "=B4") 966 :: PySem.Value.str (PySem.Str.ofString "=B5") 970 :: PySem.Value.str (PySem.Str.ofString "=B6") 974 :: PySem.Value.str (PySem.Str.ofString "=B7") 978 :: PySem.Value.str (PySem.Str.ofString "=B8") 982 :: PySem.Value.str (PySem.Str.ofString "=B9") 986 :: PySem.Value.str (PySem.Str.ofString "=BA") 990 :: PySem.Value.str (PySem.Str.ofString "=BB") 994 :: PySem.Value.str (PySem.Str.ofString "=BC") 998 :: PySem.Value.str (PySem.Str.ofString "=BD") 1002 :: PySem.Value.str (PySem.Str.ofString "=BE") 1006 :: PySem.Value.str (PySem.Str.ofString "=BF") 1010 :: PySem.Value.str (PySem.Str.ofString "=C0") 1014 :: PySem.Value.str (PySem.Str.ofString "=C1") 1018 :: PySem.Value.str (PySem.Str.ofString "=C2") 1022 :: PySem.Value.str (PySem.Str.ofString "=C3") 1026 :: PySem.Value.str (PySem.Str.ofString "=C4") 1030 :: PySem.Value.str (PySem.Str.ofString "=C5") 1034 :: PySem.Value.str (PySem.Str.ofString "=C6") 1038 :: PySem.Value.str (PySem.Str.ofString "=C7") 1042 :: PySem.Value.str (PySem.Str.ofString "=C8") 1046 :: PySem.Value.str (PySem.Str.ofString "=C9") 1050 :: PySem.Value.str (PySem.Str.ofString "=CA") 1054 :: PySem.Value.str (PySem.Str.ofString "=CB") 1058 :: PySem.Value.str (PySem.Str.ofString "=CC") 1062 :: PySem.Value.str (PySem.Str.ofString "=CD") 1066 :: PySem.Value.str (PySem.Str.ofString "=CE") 1070 :: PySem.Value.str (PySem.Str.ofString "=CF") 1074 :: PySem.Value.str (PySem.Str.ofString "=D0") 1078 :: PySem.Value.str (PySem.Str.ofString "=D1") 1082 :: PySem.Value.str (PySem.Str.ofString "=D2") 1086 :: PySem.Value.str (PySem.Str.ofString "=D3") 1090 :: PySem.Value.str (PySem.Str.ofString "=D4") 1094 :: PySem.Value.str (PySem.Str.ofString "=D5") 1098 :: PySem.Value.str (PySem.Str.ofString "=D6") 1102 :: PySem.Value.str (PySem.Str.ofString "=D7") 1106 :: PySem.Value.str (PySem.Str.ofString "=D8") 1110 :: PySem.Value.str (PySem.Str.ofString "=D9") 1114 :: PySem.Value.str (PySem.Str.ofString "=DA") 1118 :: PySem.Value.str (PySem.Str.ofString "=DB") 1122 :: PySem.Value.str (PySem.Str.ofString "=DC") 1126 :: PySem.Value.str (PySem.Str.ofString "=DD") 1130 :: PySem.Value.str (PySem.Str.ofString "=DE") 1134 :: PySem.Value.str (PySem.Str.ofString "=DF") 1138 :: PySem.Value.str (PySem.Str.ofString "=E0") 1142 :: PySem.Value.str (PySem.Str.ofString "=E1") 1146 :: PySem.Value.str (PySem.Str.ofString "=E2") 1150 :: PySem.Value.str (PySem.Str.ofString "=E3") 1154 :: PySem.Value.str (PySem.Str.ofString "=E4") 1158 :: PySem.Value.str (PySem.Str.ofString "=E5") 1162 :: PySem.Value.str (PySem.Str.ofString "=E6") 1166 :: PySem.Value.str (PySem.Str.ofString "=E7") 1170 :: PySem.Value.str (PySem.Str.ofString "=E8") 1174 :: PySem.Value.str (PySem.Str.ofString "=E9") 1178 :: PySem.Value.str (PySem.Str.ofString "=EA") 1182 :: PySem.Value.str (PySem.Str.ofString "=EB") 1186 :: PySem.Value.str (PySem.Str.ofString "=EC") 1190 :: PySem.Value.str (PySem.Str.ofString "=ED") 1194 :: PySem.Value.str (PySem.Str.ofString "=EE") 1198 :: PySem.Value.str (PySem.Str.ofString "=EF") 1202 :: PySem.Value.str (PySem.Str.ofString "=F0") 1206 :: PySem.Value.str (PySem.Str.ofString "=F1") 1210 :: PySem.Value.str (PySem.Str.ofString "=F2") 1214 :: PySem.Value.str (PySem.Str.ofString "=F3") 1218 :: PySem.Value.str (PySem.Str.ofString "=F4") 1222 :: PySem.Value.str (PySem.Str.ofString "=F5") 1226 :: PySem.Value.str (PySem.Str.ofString "=F6") 1230 :: PySem.Value.str (PySem.Str.ofString "=F7") 1234 :: PySem.Value.str (PySem.Str.ofString "=F8") 1238 :: PySem.Value.str (PySem.Str.ofString "=F9") 1242 :: PySem.Value.str (PySem.Str.ofString "=FA") 1246 :: PySem.Value.str (PySem.Str.ofString "=FB") 1250 :: PySem.Value.str (PySem.Str.ofString "=FC") 1254 :: PySem.Value.str (PySem.Str.ofString "=FD") 1258 :: PySem.Value.str (PySem.Str.ofString "=FE") 1262 :: PySem.Value.str (PySem.Str.ofString "=FF") 1266 :: []))) #[]
noncomputable abbrev tree_c (P : PySem.Params) : PySem.W.BT := (PySem.W.BT.node (PySem.W.boot_o_0 P) (PySem.W.BT.node (PySem.W.boot_o_1 P) (PySem.W.BT.node (oc_3 P) (PySem.W.BT.node (PySem.W.boot_o_7 P) (PySem.W.BT.node (oz_15 P) (PySem.W.BT.node (oz_31 P) PySem.W.BT.nil PySem.W.BT.nil) (PySem.W.BT.node (oz_47 P) PySem.W.BT.nil PySem.W.BT.nil)) (PySem.W.BT.node (oz_23 P) (PySem.W.BT.node (oz_39 P) PySem.W.BT.nil PySem.W.BT.nil) (PySem.W.BT.node (oz_55 P) PySem.W.BT.nil PySem.W.BT.nil))) (PySem.W.BT.node (oz_11 P) (PySem.W.BT.node (oz_19 P) (PySem.W.BT.node (oz_35 P) PySem.W.BT.nil PySem.W.BT.nil) (PySem.W.BT.node (oz_51 P) PySem.W.BT.nil PySem.W.BT.nil)) (PySem.W.BT.node (oz_27 P) (PySem.W.BT.node (oz_43 P) PySem.W.BT.nil PySem.W.BT.nil) PySem.W.BT.nil))) (PySem.W.BT.node (PySem.W.boot_o_5 P) (PySem.W.BT.node (PySem.W.boot_o_9 P) (PySem.W.BT.node (oz_17 P) (PySem.W.BT.node (oz_33 P) PySem.W.BT.nil PySem.W.BT.nil) (PySem.W.BT.node (oz_49 P) PySem.W.BT.nil PySem.W.BT.nil)) (PySem.W.BT.node (oz_25 P) (PySem.W.BT.node (oz_41 P) PySem.W.BT.nil PySem.W.BT.nil) PySem.W.BT.nil)) (PySem.W.BT.node (oz_13 P) (PySem.W.BT.node (oz_21 P) (PySem.W.BT.node (oz_37 P) PySem.W.BT.nil PySem.W.BT.nil) (PySem.W.BT.node (oz_53 P) PySem.W.BT.nil PySem.W.BT.nil)) (PySem.W.BT.node (oz_29 P) (PySem.W.BT.node (oz_45 P) PySem.W.BT.nil PySem.W.BT.nil) PySem.W.BT.nil)))) (PySem.W.BT.node (oz_2 P) (PySem.W.BT.node (PySem.W.boot_o_4 P) (PySem.W.BT.node (PySem.W.boot_o_8 P) (PySem.W.BT.node (oz_16 P) (PySem.W.BT.node (oz_32 P) PySem.W.BT.nil PySem.W.BT.nil) (PySem.W.BT.node (oz_48 P) PySem.W.BT.nil PySem.W.BT.nil)) (PySem.W.BT.node (oz_24 P) (PySem.W.BT.node (oz_40 P) PySem.W.BT.nil PySem.W.BT.nil) (PySem.W.BT.node (oc_54 P) PySem.W.BT.nil PySem.W.BT.nil))) (PySem.W.BT.node (oa_12 P) (PySem.W.BT.node (oz_20 P) (PySem.W.BT.node (oz_36 P) PySem.W.BT.nil PySem.W.BT.nil) (PySem.W.BT.node (oz_52 P) PySem.W.BT.nil PySem.W.BT.nil)) (PySem.W.BT.node (oz_28 P) (PySem.W.BT.node (oz_44 P) PySem.W.BT.nil PySem.W.BT.nil) PySem.W.BT.nil))) (PySem.W.BT.node (PySem.W.boot_o_6 P) (PySem.W.BT.node (PySem.W.boot_o_10 P) (PySem.W.BT.node (oz_18 P) (PySem.W.BT.node (oz_34 P) PySem.W.BT.nil PySem.W.BT.nil) (PySem.W.BT.node (oz_50 P) PySem.W.BT.nil PySem.W.BT.nil)) (PySem.W.BT.node (oz_26 P) (PySem.W.BT.node (oz_42 P) PySem.W.BT.nil PySem.W.BT.nil) PySem.W.BT.nil)) (PySem.W.BT.node (oz_14 P) (PySem.W.BT.node (oz_22 P) (PySem.W.BT.node (oz_38 P) PySem.W.BT.nil PySem.W.BT.nil) (PySem.W.BT.node (oc_54 P) PySem.W.BT.nil PySem.W.BT.nil)) (PySem.W.BT.node (oz_30 P) (PySem.W.BT.node (oz_46 P) PySem.W.BT.nil PySem.W.BT.nil) PySem.W.BT.nil)))))
noncomputable abbrev od_57 (P : PySem.Params) : PySem.Obj := PySem.Obj.mk (PySem.Value.type "bytes_iterator") Option.none (PySem.Data.fields (List.toArray (PySem.Value.bytes (List.toArray (45 :: 33 :: 42 :: 43 :: 47 :: 97 :: 98 :: 99 :: 100 :: 101 :: 102 :: 103 :: 104 :: 105 :: 106 :: 107 :: 108 :: 109 :: 110 :: 111 :: 112 :: 113 :: 114 :: 115 :: 116 :: 117 :: 118 :: 119 :: 120 :: 121 :: 122 :: 65 :: 66 :: 67 :: 68 :: 69 :: 70 :: 71 :: 72 :: 73 :: 74 :: 75 :: 76 :: 77 :: 78 :: 79 :: 80 :: 81 :: 82 :: 83 :: 84 :: 85 :: 86 :: 87 :: 88 :: 89 :: 90 :: 48 :: 49 :: 50 :: 51 :: 52 :: 53 :: 54 :: 55 :: 56 :: 57 :: [])) 1286 :: PySem.Value.int 0 0 :: []))) #[]
noncomputable abbrev tree_d (P : PySem.Params) : PySem.W.BT := (PySem.W.BT.node (PySem.W.boot_o_0 P) (PySem.W.BT.node (PySem.W.boot_o_1 P) (PySem.W.BT.node (oc_3 P) (PySem.W.BT.node (PySem.W.boot_o_7 P) (PySem.W.BT.node (oz_15 P) (PySem.W.BT.node (oz_31 P) PySem.W.BT.nil PySem.W.BT.nil) (PySem.W.BT.node (oz_47 P) PySem.W.BT.nil PySem.W.BT.nil)) (PySem.W.BT.node (oz_23 P) (PySem.W.BT.node (oz_39 P) PySem.W.BT.nil PySem.W.BT.nil) (PySem.W.BT.node (oz_55 P) PySem.W.BT.nil PySem.W.BT.nil))) (PySem.W.BT.node (oz_11 P) (PySem.W.BT.node (oz_19 P) (PySem.W.BT.node (oz_35 P) PySem.W.BT.nil PySem.W.BT.nil) (PySem.W.BT.node (oz_51 P) PySem.W.BT.nil PySem.W.BT.nil)) (PySem.W.BT.node (oz_27 P) (PySem.W.BT.node (oz_43 P) PySem.W.BT.nil PySem.W.BT.nil) PySem.W.BT.nil))) (PySem.W.BT.node (PySem.W.boot_o_5 P) (PySem.W.BT.node (PySem.W.boot_o_9 P) (PySem.W.BT.node (oz_17 P) (PySem.W.BT.node (oz_33 P) PySem.W.BT.nil PySem.W.BT.nil) (PySem.W.BT.node (oz_49 P) PySem.W.BT.nil PySem.W.BT.nil)) (PySem.W.BT.node (oz_25 P) (PySem.W.BT.node (oz_41 P) PySem.W.BT.nil PySem.W.BT.nil) (PySem.W.BT.node (od_57 P) PySem.W.BT.nil PySem.W.BT.nil))) (PySem.W.BT.node (oz_13 P) (PySem.W.BT.node (oz_21 P) (PySem.W.BT.node (oz_37 P) PySem.W.BT.nil PySem.W.BT.nil) (PySem.W.BT.node (oz_53 P) PySem.W.BT.nil PySem.W.BT.nil)) (PySem.W.BT.node (oz_29 P) (PySem.W.BT.node (oz_45 P) PySem.W.BT.nil PySem.W.BT.nil) PySem.W.BT.nil)))) (PySem.W.BT.node (oz_2 P) (PySem.W.BT.node (PySem.W.boot_o_4 P) (PySem.W.BT.node (PySem.W.boot_o_8 P) (PySem.W.BT.node (oz_16 P) (PySem.W.BT.node (oz_32 P) PySem.W.BT.nil PySem.W.BT.nil) (PySem.W.BT.node (oz_48 P) PySem.W.BT.nil PySem.W.BT.nil)) (PySem.W.BT.node (oz_24 P) (PySem.W.BT.node (oz_40 P) PySem.W.BT.nil PySem.W.BT.nil) (PySem.W.BT.node (oc_54 P) PySem.W.BT.nil PySem.W.BT.nil))) (PySem.W.BT.node (oa_12 P) (PySem.W.BT.node (oz_20 P) (PySem.W.BT.node (oz_36 P) PySem.W.BT.nil PySem.W.BT.nil) (PySem.W.BT.node (oz_52 P) PySem.W.BT.nil PySem.W.BT.nil)) (PySem.W.BT.node (oz_28 P) (PySem.W.BT.node (oz_44 P) PySem.W.BT.nil PySem.W.BT.nil) PySem.W.BT.nil))) (PySem.W.BT.node (PySem.W.boot_o_6 P) (PySem.W.BT.node (PySem.W.boot_o_10 P) (PySem.W.BT.node (oz_18 P) (PySem.W.BT.node (oz_34 P) PySem.W.BT.nil PySem.W.BT.nil) (PySem.W.BT.node (oz_50 P) PySem.W.BT.nil PySem.W.BT.nil)) (PySem.W.BT.node (oz_26 P) (PySem.W.BT.node (oz_42 P) PySem.W.BT.nil PySem.W.BT.nil) PySem.W.BT.nil)) (PySem.W.BT.node (oz_14 P) (PySem.W.BT.node (oz_22 P) (PySem.W.BT.node (oz_38 P) PySem.W.BT.nil PySem.W.BT.nil) (PySem.W.BT.node (oc_54 P) PySem.W.BT.nil PySem.W.BT.nil)) (PySem.W.BT.node (oz_30 P) (PySem.W.BT.node (oz_46 P) PySem.W.BT.nil PySem.W.BT.nil) PySem.W.BT.nil)))))
noncomputable abbrev oe_3 (P : PySem.Params) : PySem.Obj := PySem.Obj.mk (PySem.Value.type "dict") Option.none (PySem.Data.dict (List.toArray (PySem.DictEntry.mk (PySem.PyData.keyHash P (PySem.Str.ofString "__name__")) (PySem.Value.str (PySem.Str.ofString "__name__") 165) (PySem.Value.str (PySem.Str.ofString "cpy313.email.quoprimime") 1278) :: PySem.DictEntry.mk (PySem.PyData.keyHash P (PySem.Str.ofString "__doc__")) (PySem.Value.str (PySem.Str.ofString "__doc__") 166) PySem.Value.none :: PySem.DictEntry.mk (PySem.PyData.keyHash P (PySem.Str.ofString "__package__")) (PySem.Value.str (PySem.Str.ofString "__package__") 167) PySem.Value.none :: PySem.DictEntry.mk (PySem.PyData.keyHash P (PySem.Str.ofString "__loader__")) (PySem.Value.str (PySem.Str.ofString "__loader__") 168) (PySem.Value.builtin "__main__.__loader__#opaque") :: PySem.DictEntry.mk (PySem.PyData.keyHash P (PySem.Str.ofString "__spec__")) (PySem.Value.str (PySem.Str.ofString "__spec__") 169) PySem.Value.none :: PySem.DictEntry.mk (PySem.PyData.keyHash P (PySem.Str.ofString "__annotations__")) (PySem.Value.str (PySem.Str.ofString "__annotations__") 170) (PySem.Value.ref 6) :: PySem.DictEntry.mk (PySem.PyData.keyHash P (PySem.Str.ofString "__builtins__")) (PySem.Value.str (PySem.Str.ofString "__builtins__") 171) (PySem.Value.ref 4) :: PySem.DictEntry.mk (PySem.PyData.keyHash P (PySem.Str.ofString "__file__")) (PySem.Value.str (PySem.Str.ofString "__file__") 173) (PySem.Value.str (PySem.Str.ofString "/claim/cut.py") 172) :: PySem.DictEntry.mk (PySem.PyData.keyHash P (PySem.Str.ofString "__cached__")) (PySem.Value.str (PySem.Str.ofString "__cached__") 174) PySem.Value.none :: PySem.DictEntry.mk (PySem.PyData.keyHash P (PySem.Str.ofString "Error")) (PySem.Value.str (PySem.Str.ofString "Error") 208) (PySem.Value.ref 24) :: PySem.DictEntry.mk (PySem.PyData.keyHash P (PySem.Str.ofString "error_reply")) (PySem.Value.str (PySem.Str.ofString "error_reply") 224) (PySem.Value.ref 37) :: PySem.DictEntry.mk (PySem.PyData.keyHash P (PySem.Str.ofString "parse257")) (PySem.Value.str (PySem.Str.ofString "parse257") 235) (PySem.Value.ref 46) :: PySem.DictEntry.mk (PySem.PyData.keyHash P (PySem.Str.ofString "CRLF")) (PySem.Value.str (PySem.Str.ofString "CRLF") 237) (PySem.Value.str (PySem.Str.ofString "\x0d\n") 236) :: PySem.DictEntry.mk (PySem.PyData.keyHash P (PySem.Str.ofString "NL")) (PySem.Value.str (PySem.Str.ofString "NL") 239) (PySem.Value.str (PySem.Str.ofString "\n") 238) :: PySem.DictEntry.mk (PySem.PyData.keyHash P (PySem.Str.ofString "_QUOPRI_MAP")) (PySem.Value.str (PySem.Str.ofString "_QUOPRI_MAP") 1267) (PySem.Value.ref 49) :: PySem.DictEntry.mk (PySem.PyData.keyHash P (PySem.Str.ofString "_QUOPRI_HEADER_MAP")) (PySem.Value.str (PySem.Str.ofString "_QUOPRI_HEADER_MAP") 1268) (PySem.Value.ref 54) :: PySem.DictEntry.mk (PySem.PyData.keyHash P (PySem.Str.ofString "_QUOPRI_BODY_MAP")) (PySem.Value.str (PySem.Str.ofString "_QUOPRI_BODY_MAP") 1269) (PySem.Value.ref 56) :: PySem.DictEntry.mk (PySem.PyData.keyHash P (PySem.Str.ofString "ascii_lowercase")) (PySem.Value.str (PySem.Str.ofString "ascii_lowercase") 1271) (PySem.Value.str (PySem.Str.ofString "abcdefghijklmnopqrstuvwxyz") 1270) :: PySem.DictEntry.mk (PySem.PyData.keyHash P (PySem.Str.ofString "ascii_uppercase")) (PySem.Value.str (PySem.Str.ofString "ascii_uppercase") 1273) (PySem.Value.str (PySem.Str.ofString "ABCDEFGHIJKLMNOPQRSTUVWXYZ") 1272) :: PySem.DictEntry.mk (PySem.PyData.keyHash P (PySem.Str.ofString "ascii_letters")) (PySem.Value.str (PySem.Str.ofString "ascii_letters") 1275) (PySem.Value.str (PySem.Str.ofString "abcdefghijklmnopqrstuvwxyzABCDEFGHIJKLMNOPQRSTUVWXYZ") 1274) :: PySem.DictEntry.mk (PySem.PyData.keyHash P (PySem.Str.ofString "digits")) (PySem.Value.str (PySem.Str.ofString "digits") 1277) (PySem.Value.str (PySem.Str.ofString "0123456789") 1276) :: PySem.DictEntry.mk (PySem.PyData.keyHash P (PySem.Str.ofString "c")) (PySem.Value.str (PySem.Str.ofString "c") 1288) (PySem.Value.int 67 1386) :: [])) 22) #[]
noncomputable abbrev oe_54 (P : PySem.Params) : PySem.Obj := PySem.Obj.mk (PySem.Value.type "list") Option.none (PySem.Data.seq (List.toArray (PySem.Value.str (PySem.Str.ofString "=00") 246 :: PySem.Value.str (PySem.Str.ofString "=01") 250 :: PySem.Value.str (PySem.Str.ofString "=02") 254 :: PySem.Value.str (PySem.Str.ofString "=03") 258 :: PySem.Value.str (PySem.Str.ofString "=04") 262 :: PySem.Value.str (PySem.Str.ofString "=05") 266 :: PySem.Value.str (PySem.Str.ofString "=06") 270 :: PySem.Value.str (PySem.Str.ofString "=07") 274 :: PySem.Value.str (PySem.Str.ofString "=08") 278 :: PySem.Value.str (PySem.Str.ofString "=09") 282 :: PySem.Value.str (PySem.Str.ofString "=0A") 286 :: PySem.Value.str (PySem.Str.ofString "=0B") 290 :: PySem.Value.str (PySem.Str.ofString "=0C") 294 :: PySem.Value.str (PySem.Str.ofString "=0D") 298 :: PySem.Value.str (PySem.Str.ofString "=0E") 302 :: PySem.Value.str (PySem.Str.ofString "=0F") 306 :: PySem.Value.str (PySem.Str.ofString "=10") 310 :: PySem.Value.str (PySem.Str.ofString "=11") 314 :: PySem.Value.str (PySem.Str.ofString "=12") 318 :: PySem.Value.str (PySem.Str.ofString "=13") 322 :: PySem.Value.str (PySem.Str.ofString "=14") 326 :: PySem.Value.str (PySem.Str.ofString "=15") 330 :: PySem.Value.str (PySem.Str.ofString "=16") 334 :: PySem.Value.str (PySem.Str.ofString "=17") 338 :: PySem.Value.str (PySem.Str.ofString "=18") 342 :: PySem.Value.str (PySem.Str.ofString "=19") 346 :: PySem.Value.str (PySem.Str.ofString "=1A") 350 :: PySem.Value.str (PySem.Str.ofString "=1B") 354 :: PySem.Value.str (PySem.Str.ofString "=1C") 358 :: PySem.Value.str (PySem.Str.ofString "=1D") 362 :: PySem.Value.str (PySem.Str.ofString "=1E") 366 :: PySem.Value.str (PySem.Str.ofString "=1F") 370 :: PySem.Value.str (PySem.Str.ofString "=20") 374 :: PySem.Value.str (PySem.Str.ofString "!") 1292 :: PySem.Value.str (PySem.Str.ofString "=22") 382 :: PySem.Value.str (PySem.Str.ofString "=23") 386 :: PySem.Value.str (PySem.Str.ofString "=24") 390 :: PySem.Value.str (PySem.Str.ofString "=25") 394 :: PySem.Value.str (PySem.Str.ofString "=26") 398 :: PySem.Value.str (PySem.Str.ofString "=27") 402 :: PySem.Value.str (PySem.Str.ofString "=28") 406 :: PySem.Value.str (PySem.Str.ofString "=29") 410 :: PySem.Value.str (PySem.Str.ofString "*") 1295 :: PySem.Value.str (PySem.Str.ofString "+") 1298 :: PySem.Value.str (PySem.Str.ofString "=2C") 422 :: PySem.Value.str (PySem.Str.ofString "-") 1289 :: PySem.Value.str (PySem.Str.ofString "=2E") 430 :: PySem.Value.str (PySem.Str.ofString "/") 1301 :: PySem.Value.str (PySem.Str.ofString "=30") 438 :: PySem.Value.str (PySem.Str.ofString "=31") 442 :: PySem.Value.str (PySem.Str.ofString "=32") 446 :: PySem.Value.str (PySem.Str.ofString "=33") 450 :: PySem.Value.str (PySem.Str.ofString "=34") 454 :: PySem.Value.str (PySem.Str.ofString "=35") 458 :: PySem.Value.str (PySem.Str.ofString "=36") 462 :: PySem.Value.str (PySem.Str.ofString "=37") 466 :: PySem.Value.str (PySem.Str.ofString "=38") 470 :: PySem.Value.str (PySem.Str.ofString "=39") 474 :: PySem.Value.str (PySem.Str.ofString "=3A") 478 :: PySem.Value.str (PySem.Str.ofString "=3B") 482 :: PySem.Value.str (PySem.Str.ofString "=3C") 486 :: PySem.Value.str (PySem.Str.ofString "=3D") 490 :: PySem.Value.str (PySem.Str.ofString "=3E") 494 :: PySem.Value.str (PySem.Str.ofString "=3F") 498 :: PySem.Value.str (PySem.Str.ofString "=40") 502 :: PySem.Value.str (PySem.Str.ofString "A") 1382 :: PySem.Value.str (PySem.Str.ofString "B") 1385 :: PySem.Value.str (PySem.Str.ofString "C") 1388 :: PySem.Value.str (PySem.Str.ofString "=44") 518 :: PySem.Value.str (PySem.Str.ofString "=45") 522 :: PySem.Value.str (PySem.Str.ofString "=46") 526 :: PySem.Value.str (PySem.Str.ofString "=47") 530 :: PySem.Value.str (PySem.Str.ofString "=48") 534 :: PySem.Value.str (PySem.Str.ofString "=49") 538 :: PySem.Value.str (PySem.Str.ofString "=4A") 542 :: PySem.Value.str (PySem.Str.ofString "=4B") 546 :: PySem.Value.str (PySem.Str.ofString "=4C") 550 :: PySem.Value.str (PySem.Str.ofString "=4D") 554 :: PySem.Value.str (PySem.Str.ofString "=4E") 558 :: PySem.Value.str (PySem.Str.ofString "=4F") 562 :: PySem.Value.str (PySem.Str.ofString "=50") 566 :: PySem.Value.str (PySem.Str.ofString "=51") 570 :: PySem.Value.str (PySem.Str.ofString "=52") 574 :: PySem.Value.str (PySem.Str.ofString "=53") 578 :: PySem.Value.str (PySem.Str.ofString "=54") 582 :: PySem.Value.str (PySem.Str.ofString "=55") 586 :: PySem.Value.str (PySem.Str.ofString "=56") 590 :: PySem.Value.str (PySem.Str.ofString "=57") 594 :: PySem.Value.str (PySem.Str.ofString "=58") 598 :: PySem.Value.str (PySem.Str.ofString "=59") 602 :: PySem.Value.str (PySem.Str.ofString "=5A") 606 :: PySem.Value.str (PySem.Str.ofString "=5B") 610 :: PySem.Value.str (PySem.Str.ofString "=5C") 614 :: PySem.Value.str (PySem.Str.ofString "=5D") 618 :: PySem.Value.str (PySem.Str.ofString "=5E") 622 :: PySem.Value.str (PySem.Str.ofString "=5F") 626 :: PySem.Value.str (PySem.Str.ofString "=60") 630 :: PySem.Value.str (PySem.Str.ofString "a") 1304 :: PySem.Value.str (PySem.Str.ofString "b") 1307 :: PySem.Value.str (PySem.Str.ofString "c") 1310 :: PySem.Value.str (PySem.Str.ofString "d") 1313 :: PySem.Value.str (PySem.Str.ofString "e") 1316 :: PySem.Value.str (PySem.Str.ofString "f") 1319 :: PySem.Value.str (PySem.Str.ofString "g") 1322 :: PySem.Value.str (PySem.Str.ofString "h") 1325 :: PySem.Value.str (PySem.Str.ofString "i") 1328 :: PySem.Value.str (PySem.Str.ofString "j") 1331 :: PySem.Value.str (PySem.Str.ofString "k") 1334 :: PySem.Value.str (PySem.Str.ofString "l") 1337 :: PySem.Value.str (PySem.Str.ofString "m") 1340 :: PySem.Value.str (PySem.Str.ofString "n") 1343 :: PySem.Value.str (PySem.Str.ofString "o") 1346 :: PySem.Value.str (PySem.Str.ofString "p") 1349 :: PySem.Value.str (PySem.Str.ofString "q") 1352 :: PySem.Value.str (PySem.Str.ofString "r") 1355 :: PySem.Value.str (PySem.Str.ofString "s") 1358 :: PySem.Value.str (PySem.Str.ofString "t") 1361 :: PySem.Value.str (PySem.Str.ofString "u") 1364 :: PySem.Value.str (PySem.Str.ofString "v") 1367 :: PySem.Value.str (PySem.Str.ofString "w") 1370 :: PySem.Value.str (PySem.Str.ofString "x") 1373 :: PySem.Value.str (PySem.Str.ofString "y") 1376 :: PySem.Value.str (PySem.Str.ofString "z") 1379 :: PySem.Value.str (PySem.Str.ofString "=7B") 738 :: PySem.Value.str (PySem.Str.ofString "=7C") 742 :: PySem.Value.str (PySem.Str.ofString "=7D") 746 :: PySem.Value.str (PySem.Str.ofString "=7E") 750 :: PySem.Value.str (PySem.Str.ofString "=7F") 754 :: PySem.Value.str (PySem.Str.ofString "=80") 758 :: PySem.Value.str (PySem.Str.ofString "=81") 762 :: PySem.Value.str (PySem.Str.ofString "=82") 766 :: PySem.Value.str (PySem.Str.ofString "=83") 770 :: PySem.Value.str (PySem.Str.ofString "=84") 774 :: PySem.Value.str (PySem.Str.ofString "=85") 778 :: PySem.Value.str (PySem.Str.ofString "=86") 782 :: PySem.Value.str (PySem.Str.ofString "=87") 786 :: PySem.Value.str (PySem.Str.ofString "=88") 790 :: PySem.Value.str (PySem.Str.ofString "=89") 794 :: PySem.Value.str (PySem.Str.ofString "=8A") 798 :: PySem.Value.str (PySem.Str.ofString "=8B") 802 :: PySem.Value.str (PySem.Str.ofString "=8C") 806 :: PySem.Value.str (PySem.Str.ofString "=8D") 810 :: PySem.Value.str (PySem.Str.ofString "=8E") 814 :: PySem.Value.str (PySem.Str.ofString "=8F") 818 :: PySem.Value.str (PySem.Str.ofString "=90") 822 :: PySem.Value.str (PySem.Str.ofString "=91") 826 :: PySem.Value.str (PySem.Str.ofString "=92") 830 :: PySem.Value.str (PySem.Str.ofString "=93") 834 :: PySem.Value.str (PySem.Str.ofString "=94") 838 :: PySem.Value.str (PySem.Str.ofString "=95") 842 :: PySem.Value.str (PySem.Str.ofString "=96") 846 :: PySem.Value.str (PySem.Str.ofString "=97") 850 :: PySem.Value.str (PySem.Str.ofString "=98") 854 :: PySem.Value.str (PySem.Str.ofString "=99") 858 :: PySem.Value.str (PySem.Str.ofString "=9A") 862 :: PySem.Value.str (PySem.Str.ofString "=9B") 866 :: PySem.Value.str (PySem.Str.ofString "=9C") 870 :: PySem.Value.str (PySem.Str.ofString "=9D") 874 :: PySem.Value.str (PySem.Str.ofString "=9E") 878 :: PySem.Value.str (PySem.Str.ofString "=9F") 882 :: PySem.Value.str (PySem.Str.ofString "=A0") 886 :: PySem.Value.str (PySem.Str.ofString "=A1") 890 :: PySem.Value.str (PySem.Str.ofString "=A2") 894 :: PySem.Value.str (PySem.Str.ofString "=A3") 898 :: PySem.Value.str (PySem.Str.ofString "=A4") 902 :: PySem.Value.str (PySem.Str.ofString "=A5") 906 :: PySem.Value.str (PySem.Str.ofString "=A6") 910 :: PySem.Value.str (PySem.Str.ofString "=A7") 914 :: PySem.Value.str (PySem.Str.ofString "=A8") 918 :: PySem.Value.str (PySem.Str.ofString "=A9") 922 :: PySem.Value.str (PySem.Str.ofString "=AA") 926 :: PySem.Value.str (PySem.Str.ofString "=AB") 930 :: PySem.Value.str (PySem.Str.ofString "=AC") 934 :: PySem.Value.str (PySem.Str.ofString "=AD") 938 :: PySem.Value.str (PySem.Str.ofString "=AE") 942 :: PySem.Value.str (PySem.Str.ofString "=AF") 946 :: PySem.Value.str (PySem.Str.ofString "=B0") 950 :: PySem.Value.str (PySem.Str.ofString "=B1") 954 :: PySem.Value.str (PySem.Str.ofString "=B2") 958 :: PySem.Value.str (PySem.Str.ofString "=B3") 962 :: PySem.Value.str (PySem.Str.ofString "=B4") 966 :: PySem.Value.str (PySem.Str.ofString "=B5") 970 :: PySem.Value.str (PySem.Str.ofString "=B6") 974 :: PySem.Value.str (PySem.Str.ofString "=B7") 978 :: PySem.Value.str (PySem.Str.ofString "=B8") 982 :: PySem.Value.str (PySem.Str.ofString "=B9") 986 :: PySem.Value.str (PySem.Str.ofString "=BA") 990 :: PySem.Value.str (PySem.Str.ofString "=BB") 994 :: PySem.Value.str (PySem.Str.ofString "=BC") 998 :: PySem.Value.str (PySem.Str.ofString "=BD") 1002 :: PySem.Value.str (PySem.Str.ofString "=BE") 1006 :: PySem.Value.str (PySem.Str.ofString "=BF") 1010 :: PySem.Value.str (PySem.Str.ofString "=C0") 1014 :: PySem.Value.str (PySem.Str.ofString "=C1") 1018 :: PySem.Value.str (PySem.Str.ofString "=C2") 1022 :: PySem.Value.str (PySem.Str.ofString "=C3") 1026 :: PySem.Value.str (PySem.Str.ofString "=C4") 1030 :: PySem.Value.str (PySem.Str.ofString "=C5") 1034 :: PySem.Value.str (PySem.Str.ofString "=C6") 1038 :: PySem.Value.str (PySem.Str.ofString "=C7") 1042 :: PySem.Value.str (PySem.Str.ofString "=C8") 1046 :: PySem.Value.str (PySem.Str.ofString "=C9") 1050 :: PySem.Value.str (PySem.Str.ofString "=CA") 1054 :: PySem.Value.str (PySem.Str.ofString "=CB") 1058 :: PySem.Value.str (PySem.Str.ofString "=CC") 1062 :: PySem.Value.str (PySem.Str.ofString "=CD") 1066 :: PySem.Value.str (PySem.Str.ofString "=CE") 1070 :: PySem.Value.str (PySem.Str.ofString "=CF") 1074 :: PySem.Value.str (PySem.Str.ofString "=D0") 1078 :: PySem.Value.str (PySem.Str.ofString "=D1") 1082 :: PySem.Value.str (PySem.Str.ofString "=D2") 1086 :: PySem.Value.str (PySem.Str.ofString "=D3") 1090 :: PySem.Value.str (PySem.Str.ofString "=D4") 1094 :: PySem.Value.str (PySem.Str.ofString "=D5") 1098 :: PySem.Value.str (PySem.Str.ofString "=D6") 1102 :: PySem.Value.str (PySem.Str.ofString "=D7") 1106 :: PySem.Value.str (PySem.Str.ofString "=D8") 1110 :: PySem.Value.str (PySem.Str.ofString "=D9") 1114 :: PySem.Value.str (PySem.Str.ofString "=DA") 1118 :: PySem.Value.str (PySem.Str.ofString "=DB") 1122 :: PySem.Value.str (PySem.Str.ofString "=DC") 1126 :: PySem.Value.str (PySem.Str.ofString "=DD") 1130 :: PySem.Value.str (PySem.Str.ofString "=DE") 1134 :: PySem.Value.str (PySem.Str.ofString "=DF") 1138 :: PySem.Value.str (PySem.Str.ofString "=E0") 1142 :: PySem.Value.str (PySem.Str.ofString "=E1") 1146 :: PySem.Value.str (PySem.Str.ofString "=E2") 1150 :: PySem.Value.str (PySem.Str.ofString "=E3") 1154 :: PySem.Value.str (PySem.Str.ofString "=E4") 1158 :: PySem.Value.str (PySem.Str.ofString "=E5") 1162 :: PySem.Value.str (PySem.Str.ofString "=E6") 1166 :: PySem.Value.str (PySem.Str.ofString "=E7") 1170 :: PySem.Value.str (PySem.Str.ofString "=E8") 1174 :: PySem.Value.str (PySem.Str.ofString "=E9") 1178 :: PySem.Value.str (PySem.Str.ofString "=EA") 1182 :: PySem.Value.str (PySem.Str.ofString "=EB") 1186 :: PySem.Value.str (PySem.Str.ofString "=EC") 1190 :: PySem.Value.str (PySem.Str.ofString "=ED") 1194 :: PySem.Value.str (PySem.Str.ofString "=EE") 1198 :: PySem.Value.str (PySem.Str.ofString "=EF") 1202 :: PySem.Value.str (PySem.Str.ofString "=F0") 1206 :: PySem.Value.str (PySem.Str.ofString "=F1") 1210 :: PySem.Value.str (PySem.Str.ofString "=F2") 1214 :: PySem.Value.str (PySem.Str.ofString "=F3") 1218 :: PySem.Value.str (PySem.Str.ofString "=F4") 1222 :: PySem.Value.str (PySem.Str.ofString "=F5") 1226 :: PySem.Value.str (PySem.Str.ofString "=F6") 1230 :: PySem.Value.str (PySem.Str.ofString "=F7") 1234 :: PySem.Value.str (PySem.Str.ofString "=F8") 1238 :: PySem.Value.str (PySem.Str.ofString "=F9") 1242 :: PySem.Value.str (PySem.Str.ofString "=FA") 1246 :: PySem.Value.str (PySem.Str.ofString "=FB") 1250 :: PySem.Value.str (PySem.Str.ofString "=FC") 1254 :: PySem.Value.str (PySem.Str.ofString "=FD") 1258 :: PySem.Value.str (PySem.Str.ofString "=FE") 1262 :: PySem.Value.str (PySem.Str.ofString "=FF") 1266 :: []))) #[]
noncomputable abbrev oe_57 (P : PySem.Params) : PySem.Obj := PySem.Obj.mk (PySem.Value.type "bytes_iterator") Option.none (PySem.Data.fields (List.toArray (PySem.Value.bytes (List.toArray (45 :: 33 :: 42 :: 43 :: 47 :: 97 :: 98 :: 99 :: 100 :: 101 :: 102 :: 103 :: 104 :: 105 :: 106 :: 107 :: 108 :: 109 :: 110 :: 111 :: 112 :: 113 :: 114 :: 115 :: 116 :: 117 :: 118 :: 119 :: 120 :: 121 :: 122 :: 65 :: 66 :: 67 :: 68 :: 69 :: 70 :: 71 :: 72 :: 73 :: 74 :: 75 :: 76 :: 77 :: 78 :: 79 :: 80 :: 81 :: 82 :: 83 :: 84 :: 85 :: 86 :: 87 :: 88 :: 89 :: 90 :: 48 :: 49 :: 50 :: 51 :: 52 :: 53 :: 54 :: 55 :: 56 :: 57 :: [])) 1286 :: PySem.Value.int 34 0 :: []))) #[]
noncomputable abbrev tree_e (P : PySem.Params) : PySem.W.BT := (PySem.W.BT.node (PySem.W.boot_o_0 P) (PySem.W.BT.node (PySem.W.boot_o_1 P) (PySem.W.BT.node (oe_3 P) (PySem.W.BT.node (PySem.W.boot_o_7 P) (PySem.W.BT.node (oz_15 P) (PySem.W.BT.node (oz_31 P) PySem.W.BT.nil PySem.W.BT.nil) (PySem.W.BT.node (oz_47 P) PySem.W.BT.nil PySem.W.BT.nil)) (PySem.W.BT.node (oz_23 P) (PySem.W.BT.node (oz_39 P) PySem.W.BT.nil PySem.W.BT.nil) (PySem.W.BT.node (oz_55 P) PySem.W.BT.nil PySem.W.BT.nil))) (PySem.W.BT.node (oz_11 P) (PySem.W.BT.node (oz_19 P) (PySem.W.BT.node (oz_35 P) PySem.W.BT.nil PySem.W.BT.nil) (PySem.W.BT.node (oz_51 P) PySem.W.BT.nil PySem.W.BT.nil)) (PySem.W.BT.node (oz_27 P) (PySem.W.BT.node (oz_43 P) PySem.W.BT.nil PySem.W.BT.nil) PySem.W.BT.nil))) (PySem.W.BT.node (PySem.W.boot_o_5 P) (PySem.W.BT.node (PySem.W.boot_o_9 P) (PySem.W.BT.node (oz_17 P) (PySem.W.BT.node (oz_33 P) PySem.W.BT.nil PySem.W.BT.nil) (PySem.W.BT.node (oz_49 P) PySem.W.BT.nil PySem.W.BT.nil)) (PySem.W.BT.node (oz_25 P) (PySem.W.BT.node (oz_41 P) PySem.W.BT.nil PySem.W.BT.nil) (PySem.W.BT.node (oe_57 P) PySem.W.BT.nil PySem.W.BT.nil))) (PySem.W.BT.node (oz_13 P) (PySem.W.BT.node (oz_21 P) (PySem.W.BT.node (oz_37 P) PySem.W.BT.nil PySem.W.BT.nil) (PySem.W.BT.node (oz_53 P) PySem.W.BT.nil PySem.W.BT.nil)) (PySem.W.BT.node (oz_29 P) (PySem.W.BT.node (oz_45 P) PySem.W.BT.nil PySem.W.BT.nil) PySem.W.BT.nil)))) (PySem.W.BT.node (oz_2 P) (PySem.W.BT.node (PySem.W.boot_o_4 P) (PySem.W.BT.node (PySem.W.boot_o_8 P) (PySem.W.BT.node (oz_16 P) (PySem.W.BT.node (oz_32 P) PySem.W.BT.nil PySem.W.BT.nil) (PySem.W.BT.node (oz_48 P) PySem.W.BT.nil PySem.W.BT.nil)) (PySem.W.BT.node (oz_24 P) (PySem.W.BT.node (oz_40 P) PySem.W.BT.nil PySem.W.BT.nil) (PySem.W.BT.node (oc_54 P) PySem.W.BT.nil PySem.W.BT.nil))) (PySem.W.BT.node (oa_12 P) (PySem.W.BT.node (oz_20 P) (PySem.W.BT.node (oz_36 P) PySem.W.BT.nil PySem.W.BT.nil) (PySem.W.BT.node (oz_52 P) PySem.W.BT.nil PySem.W.BT.nil)) (PySem.W.BT.node (oz_28 P) (PySem.W.BT.node (oz_44 P) PySem.W.BT.nil PySem.W.BT.nil) PySem.W.BT.nil))) (PySem.W.BT.node (PySem.W.boot_o_6 P) (PySem.W.BT.node (PySem.W.boot_o_10 P) (PySem.W.BT.node (oz_18 P) (PySem.W.BT.node (oz_34 P) PySem.W.BT.nil PySem.W.BT.nil) (PySem.W.BT.node (oz_50 P) PySem.W.BT.nil PySem.W.BT.nil)) (PySem.W.BT.node (oz_26 P) (PySem.W.BT.node (oz_42 P) PySem.W.BT.nil PySem.W.BT.nil) PySem.W.BT.nil)) (PySem.W.BT.node (oz_14 P) (PySem.W.BT.node (oz_22 P) (PySem.W.BT.node (oz_38 P) PySem.W.BT.nil PySem.W.BT.nil) (PySem.W.BT.node (oe_54 P) PySem.W.BT.nil PySem.W.BT.nil)) (PySem.W.BT.node (oz_30 P) (PySem.W.BT.node (oz_46 P) PySem.W.BT.nil PySem.W.BT.nil) PySem.W.BT.nil)))))
noncomputable abbrev of_3 (P : PySem.Params) : PySem.Obj := PySem.Obj.mk (PySem.Value.type "dict") Option.none (PySem.Data.dict (List.toArray (PySem.DictEntry.mk (PySem.PyData.keyHash P (PySem.Str.ofString "__name__")) (PySem.Value.str (PySem.Str.ofString "__name__") 165) (PySem.Value.str (PySem.Str.ofString "cpy313.email.quoprimime") 1278) :: PySem.DictEntry.mk (PySem.PyData.keyHash P (PySem.Str.ofString "__doc__")) (PySem.Value.str (PySem.Str.ofString "__doc__") 166) PySem.Value.none :: PySem.DictEntry.mk (PySem.PyData.keyHash P (PySem.Str.ofString "__package__")) (PySem.Value.str (PySem.Str.ofString "__package__") 167) PySem.Value.none :: PySem.DictEntry.mk (PySem.PyData.keyHash P (PySem.Str.ofString "__loader__")) (PySem.Value.str (PySem.Str.ofString "__loader__") 168) (PySem.Value.builtin "__main__.__loader__#opaque") :: PySem.DictEntry.mk (PySem.PyData.keyHash P (PySem.Str.ofString "__spec__")) (PySem.Value.str (PySem.Str.ofString "__spec__") 169) PySem.Value.none :: PySem.DictEntry.mk (PySem.PyData.keyHash P (PySem.Str.ofString "__annotations__")) (PySem.Value.str (PySem.Str.ofString "__annotations__") 170) (PySem.Value.ref 6) :: PySem.DictEntry.mk (PySem.PyData.keyHash P (PySem.Str.ofString "__builtins__")) (PySem.Value.str (PySem.Str.ofString "__builtins__") 171) (PySem.Value.ref 4) :: PySem.DictEntry.mk (PySem.PyData.keyHash P (PySem.Str.ofString "__file__")) (PySem.Value.str (PySem.Str.ofString "__file__") 173) (PySem.Value.str (PySem.Str.ofString "/claim/cut.py") 172) :: PySem.DictEntry.mk (PySem.PyData.keyHash P (PySem.Str.ofString "__cached__")) (PySem.Value.str (PySem.Str.ofString "__cached__") 174) PySem.Value.none :: PySem.DictEntry.mk (PySem.PyData.keyHash P (PySem.Str.ofString "Error")) (PySem.Value.str (PySem.Str.ofString "Error") 208) (PySem.Value.ref 24) :: PySem.DictEntry.mk (PySem.PyData.keyHash P (PySem.Str.ofString "error_reply")) (PySem.Value.str (PySem.Str.ofString "error_reply") 224) (PySem.Value.ref 37) :: PySem.DictEntry.mk (PySem.PyData.keyHash P (PySem.Str.ofString "parse257")) (PySem.Value.str (PySem.Str.ofString "parse257") 235) (PySem.Value.ref 46) :: PySem.DictEntry.mk (PySem.PyData.keyHash P (PySem.Str.ofString "CRLF")) (PySem.Value.str (PySem.Str.ofString "CRLF") 237) (PySem.Value.str (PySem.Str.ofString "\x0d\n") 236) :: PySem.DictEntry.mk (PySem.PyData.keyHash P (PySem.Str.ofString "NL")) (PySem.Value.str (PySem.Str.ofString "NL") 239) (PySem.Value.str (PySem.Str.ofString "\n") 238) :: PySem.DictEntry.mk (PySem.PyData.keyHash P (PySem.Str.ofString "_QUOPRI_MAP")) (PySem.Value.str (PySem.Str.ofString "_QUOPRI_MAP") 1267) (PySem.Value.ref 49) :: PySem.DictEntry.mk (PySem.PyData.keyHash P (PySem.Str.ofString "_QUOPRI_HEADER_MAP")) (PySem.Value.str (PySem.Str.ofString "_QUOPRI_HEADER_MAP") 1268) (PySem.Value.ref 54) :: PySem.DictEntry.mk (PySem.PyData.keyHash P (PySem.Str.ofString "_QUOPRI_BODY_MAP")) (PySem.Value.str (PySem.Str.ofString "_QUOPRI_BODY_MAP") 1269) (PySem.Value.ref 56) :: PySem.DictEntry.mk (PySem.PyData.keyHash P (PySem.Str.ofString "ascii_lowercase")) (PySem.Value.str (PySem.Str.ofString "ascii_lowercase") 1271) (PySem.Value.str (PySem.Str.ofString "abcdefghijklmnopqrstuvwxyz") 1270) :: PySem.DictEntry.mk (PySem.PyData.keyHash P (PySem.Str.ofString "ascii_uppercase")) (PySem.Value.str (PySem.Str.ofString "ascii_uppercase") 1273) (PySem.Value.str (PySem.Str.ofString "ABCDEFGHIJKLMNOPQRSTUVWXYZ") 1272) :: PySem.DictEntry.mk (PySem.PyData.keyHash P (PySem.Str.ofString "ascii_letters")) (PySem.Value.str (PySem.Str.ofString "ascii_letters") 1275) (PySem.Value.str (PySem.Str.ofString "abcdefghijklmnopqrstuvwxyzABCDEFGHIJKLMNOPQRSTUVWXYZ") 1274) :: PySem.DictEntry.mk (PySem.PyData.keyHash P (PySem.Str.ofString "digits")) (PySem.Value.str (PySem.Str.ofString "digits") 1277) (PySem.Value.str (PySem.Str.ofString "0123456789") 1276) :: PySem.DictEntry.mk (PySem.PyData.keyHash P (PySem.Str.ofString "c")) (PySem.Value.str (PySem.Str.ofString "c") 1288) (PySem.Value.int 57 1485) :: [])) 22) #[]
noncomputable abbrev tree_f (P : PySem.Params) : PySem.W.BT := (PySem.W.BT.node (PySem.W.boot_o_0 P) (PySem.W.BT.node (PySem.W.boot_o_1 P) (PySem.W.BT.node (of_3 P) (PySem.W.BT.node (PySem.W.boot_o_7 P) (PySem.W.BT.node (oz_15 P) (PySem.W.BT.node (oz_31 P) PySem.W.BT.nil PySem.W.BT.nil) (PySem.W.BT.node (oz_47 P) PySem.W.BT.nil PySem.W.BT.nil)) (PySem.W.BT.node (oz_23 P) (PySem.W.BT.node (oz_39 P) PySem.W.BT.nil PySem.W.BT.nil) (PySem.W.BT.node (oz_55 P) PySem.W.BT.nil PySem.W.BT.nil))) (PySem.W.BT.node (oz_11 P) (PySem.W.BT.node (oz_19 P) (PySem.W.BT.node (oz_35 P) PySem.W.BT.nil PySem.W.BT.nil) (PySem.W.BT.node (oz_51 P) PySem.W.BT.nil PySem.W.BT.nil)) (PySem.W.BT.node (oz_27 P) (PySem.W.BT.node (oz_43 P) PySem.W.BT.nil PySem.W.BT.nil) (PySem.W.BT.node (oz_59 P) PySem.W.BT.nil PySem.W.BT.nil)))) (PySem.W.BT.node (PySem.W.boot_o_5 P) (PySem.W.BT.node (PySem.W.boot_o_9 P) (PySem.W.BT.node (oz_17 P) (PySem.W.BT.node (oz_33 P) PySem.W.BT.nil PySem.W.BT.nil) (PySem.W.BT.node (oz_49 P) PySem.W.BT.nil PySem.W.BT.nil)) (PySem.W.BT.node (oz_25 P) (PySem.W.BT.node (oz_41 P) PySem.W.BT.nil PySem.W.BT.nil) (PySem.W.BT.node (oz_57 P) PySem.W.BT.nil PySem.W.BT.nil))) (PySem.W.BT.node (oz_13 P) (PySem.W.BT.node (oz_21 P) (PySem.W.BT.node (oz_37 P) PySem.W.BT.nil PySem.W.BT.nil) (PySem.W.BT.node (oz_53 P) PySem.W.BT.nil PySem.W.BT.nil)) (PySem.W.BT.node (oz_29 P) (PySem.W.BT.node (oz_45 P) PySem.W.BT.nil PySem.W.BT.nil) PySem.W.BT.nil)))) (PySem.W.BT.node (oz_2 P) (PySem.W.BT.node (PySem.W.boot_o_4 P) (PySem.W.BT.node (PySem.W.boot_o_8 P) (PySem.W.BT.node (oz_16 P) (PySem.W.BT.node (oz_32 P) PySem.W.BT.nil PySem.W.BT.nil) (PySem.W.BT.node (oz_48 P) PySem.W.BT.nil PySem.W.BT.nil)) (PySem.W.BT.node (oz_24 P) (PySem.W.BT.node (oz_40 P) PySem.W.BT.nil PySem.W.BT.nil) (PySem.W.BT.node (oc_54 P) PySem.W.BT.nil PySem.W.BT.nil))) (PySem.W.BT.node (oa_12 P) (PySem.W.BT.node (oz_20 P) (PySem.W.BT.node (oz_36 P) PySem.W.BT.nil PySem.W.BT.nil) (PySem.W.BT.node (oz_52 P) PySem.W.BT.nil PySem.W.BT.nil)) (PySem.W.BT.node (oz_28 P) (PySem.W.BT.node (oz_44 P) PySem.W.BT.nil PySem.W.BT.nil) PySem.W.BT.nil))) (PySem.W.BT.node (PySem.W.boot_o_6 P) (PySem.W.BT.node (PySem.W.boot_o_10 P) (PySem.W.BT.node (oz_18 P) (PySem.W.BT.node (oz_34 P) PySem.W.BT.nil PySem.W.BT.nil) (PySem.W.BT.node (oz_50 P) PySem.W.BT.nil PySem.W.BT.nil)) (PySem.W.BT.node (oz_26 P) (PySem.W.BT.node (oz_42 P) PySem.W.BT.nil PySem.W.BT.nil) (PySem.W.BT.node (oz_58 P) PySem.W.BT.nil PySem.W.BT.nil))) (PySem.W.BT.node (oz_14 P) (PySem.W.BT.node (oz_22 P) (PySem.W.BT.node (oz_38 P) PySem.W.BT.nil PySem.W.BT.nil) (PySem.W.BT.node (oz_54 P) PySem.W.BT.nil PySem.W.BT.nil)) (PySem.W.BT.node (oz_30 P) (PySem.W.BT.node (oz_46 P) PySem.W.BT.nil PySem.W.BT.nil) PySem.W.BT.nil)))))
noncomputable abbrev og_60 (P : PySem.Params) : PySem.Obj := PySem.Obj.mk (PySem.Value.type "bytes_iterator") Option.none (PySem.Data.fields (List.toArray (PySem.Value.bytes (List.toArray (32 :: 33 :: 34 :: 35 :: 36 :: 37 :: 38 :: 39 :: 40 :: 41 :: 42 :: 43 :: 44 :: 45 :: 46 :: 47 :: 48 :: 49 :: 50 :: 51 :: 52 :: 53 :: 54 :: 55 :: 56 :: 57 :: 58 :: 59 :: 60 :: 62 :: 63 :: 64 :: 65 :: 66 :: 67 :: 68 :: 69 :: 70 :: 71 :: 72 :: 73 :: 74 :: 75 :: 76 :: 77 :: 78 :: 79 :: 80 :: 81 :: 82 :: 83 :: 84 :: 85 :: 86 :: 87 :: 88 :: 89 :: 90 :: 91 :: 92 :: 93 :: 94 :: 95 :: 96 :: 97 :: 98 :: 99 :: 100 :: 101 :: 102 :: 103 :: 104 :: 105 :: 106 :: 107 :: 108 :: 109 :: 110 :: 111 :: 112 :: 113 :: 114 :: 115 :: 116 :: 117 :: 118 :: 119 :: 120 :: 121 :: 122 :: 123 :: 124 :: 125 :: 126 :: 9 :: [])) 1491 :: PySem.Value.int 0 0 :: []))) #[]
noncomputable abbrev tree_g (P : PySem.Params) : PySem.W.BT := (PySem.W.BT.node (PySem.W.boot_o_0 P) (PySem.W.BT.node (PySem.W.boot_o_1 P) (PySem.W.BT.node (of_3 P) (PySem.W.BT.node (PySem.W.boot_o_7 P) (PySem.W.BT.node (oz_15 P) (PySem.W.BT.node (oz_31 P) PySem.W.BT.nil PySem.W.BT.nil) (PySem.W.BT.node (oz_47 P) PySem.W.BT.nil PySem.W.BT.nil)) (PySem.W.BT.node (oz_23 P) (PySem.W.BT.node (oz_39 P) PySem.W.BT.nil PySem.W.BT.nil) (PySem.W.BT.node (oz_55 P) PySem.W.BT.nil PySem.W.BT.nil))) (PySem.W.BT.node (oz_11 P) (PySem.W.BT.node (oz_19 P) (PySem.W.BT.node (oz_35 P) PySem.W.BT.nil PySem.W.BT.nil) (PySem.W.BT.node (oz_51 P) PySem.W.BT.nil PySem.W.BT.nil)) (PySem.W.BT.node (oz_27 P) (PySem.W.BT.node (oz_43 P) PySem.W.BT.nil PySem.W.BT.nil) (PySem.W.BT.node (oz_59 P) PySem.W.BT.nil PySem.W.BT.nil)))) (PySem.W.BT.node (PySem.W.boot_o_5 P) (PySem.W.BT.node (PySem.W.boot_o_9 P) (PySem.W.BT.node (oz_17 P) (PySem.W.BT.node (oz_33 P) PySem.W.BT.nil PySem.W.BT.nil) (PySem.W.BT.node (oz_49 P) PySem.W.BT.nil PySem.W.BT.nil)) (PySem.W.BT.node (oz_25 P) (PySem.W.BT.node (oz_41 P) PySem.W.BT.nil PySem.W.BT.nil) (PySem.W.BT.node (oz_57 P) PySem.W.BT.nil PySem.W.BT.nil))) (PySem.W.BT.node (oz_13 P) (PySem.W.BT.node (oz_21 P) (PySem.W.BT.node (oz_37 P) PySem.W.BT.nil PySem.W.BT.nil) (PySem.W.BT.node (oz_53 P) PySem.W.BT.nil PySem.W.BT.nil)) (PySem.W.BT.node (oz_29 P) (PySem.W.BT.node (oz_45 P) PySem.W.BT.nil PySem.W.BT.nil) PySem.W.BT.nil)))) (PySem.W.BT.node (oz_2 P) (PySem.W.BT.node (PySem.W.boot_o_4 P) (PySem.W.BT.node (PySem.W.boot_o_8 P) (PySem.W.BT.node (oz_16 P) (PySem.W.BT.node (oz_32 P) PySem.W.BT.nil PySem.W.BT.nil) (PySem.W.BT.node (oz_48 P) PySem.W.BT.nil PySem.W.BT.nil)) (PySem.W.BT.node (oz_24 P) (PySem.W.BT.node (oz_40 P) PySem.W.BT.nil PySem.W.BT.nil) (PySem.W.BT.node (oc_54 P) PySem.W.BT.nil PySem.W.BT.nil))) (PySem.W.BT.node (oa_12 P) (PySem.W.BT.node (oz_20 P) (PySem.W.BT.node (oz_36 P) PySem.W.BT.nil PySem.W.BT.nil) (PySem.W.BT.node (oz_52 P) PySem.W.BT.nil PySem.W.BT.nil)) (PySem.W.BT.node (oz_28 P) (PySem.W.BT.node (oz_44 P) PySem.W.BT.nil PySem.W.BT.nil) (PySem.W.BT.node (og_60 P) PySem.W.BT.nil PySem.W.BT.nil)))) (PySem.W.BT.node (PySem.W.boot_o_6 P) (PySem.W.BT.node (PySem.W.boot_o_10 P) (PySem.W.BT.node (oz_18 P) (PySem.W.BT.node (oz_34 P) PySem.W.BT.nil PySem.W.BT.nil) (PySem.W.BT.node (oz_50 P) PySem.W.BT.nil PySem.W.BT.nil)) (PySem.W.BT.node (oz_26 P) (PySem.W.BT.node (oz_42 P) PySem.W.BT.nil PySem.W.BT.nil) (PySem.W.BT.node (oz_58 P) PySem.W.BT.nil PySem.W.BT.nil))) (PySem.W.BT.node (oz_14 P) (PySem.W.BT.node (oz_22 P) (PySem.W.BT.node (oz_38 P) PySem.W.BT.nil PySem.W.BT.nil) (PySem.W.BT.node (oz_54 P) PySem.W.BT.nil PySem.W.BT.nil)) (PySem.W.BT.node (oz_30 P) (PySem.W.BT.node (oz_46 P) PySem.W.BT.nil PySem.W.BT.nil) PySem.W.BT.nil)))))
noncomputable abbrev oi_3 (P : PySem.Params) : PySem.Obj := PySem.Obj.mk (PySem.Value.type "dict") Option.none (PySem.Data.dict (List.toArray (PySem.DictEntry.mk (PySem.PyData.keyHash P (PySem.Str.ofString "__name__")) (PySem.Value.str (PySem.Str.ofString "__name__") 165) (PySem.Value.str (PySem.Str.ofString "cpy313.email.quoprimime") 1278) :: PySem.DictEntry.mk (PySem.PyData.keyHash P (PySem.Str.ofString "__doc__")) (PySem.Value.str (PySem.Str.ofString "__doc__") 166) PySem.Value.none :: PySem.DictEntry.mk (PySem.PyData.keyHash P (PySem.Str.ofString "__package__")) (PySem.Value.str (PySem.Str.ofString "__package__") 167) PySem.Value.none :: PySem.DictEntry.mk (PySem.PyData.keyHash P (PySem.Str.ofString "__loader__")) (PySem.Value.str (PySem.Str.ofString "__loader__") 168) (PySem.Value.builtin "__main__.__loader__#opaque") :: PySem.DictEntry.mk (PySem.PyData.keyHash P (PySem.Str.ofString "__spec__")) (PySem.Value.str (PySem.Str.ofString "__spec__") 169) PySem.Value.none :: PySem.DictEntry.mk (PySem.PyData.keyHash P (PySem.Str.ofString "__annotations__")) (PySem.Value.str (PySem.Str.ofString "__annotations__") 170) (PySem.Value.ref 6) :: PySem.DictEntry.mk (PySem.PyData.keyHash P (PySem.Str.ofString "__builtins__")) (PySem.Value.str (PySem.Str.ofString "__builtins__") 171) (PySem.Value.ref 4) :: PySem.DictEntry.mk (PySem.PyData.keyHash P (PySem.Str.ofString "__file__")) (PySem.Value.str (PySem.Str.ofString "__file__") 173) (PySem.Value.str (PySem.Str.ofString "/claim/cut.py") 172) :: PySem.DictEntry.mk (PySem.PyData.keyHash P (PySem.Str.ofString "__cached__")) (PySem.Value.str (PySem.Str.ofString "__cached__") 174) PySem.Value.none :: PySem.DictEntry.mk (PySem.PyData.keyHash P (PySem.Str.ofString "Error")) (PySem.Value.str (PySem.Str.ofString "Error") 208) (PySem.Value.ref 24) :: PySem.DictEntry.mk (PySem.PyData.keyHash P (PySem.Str.ofString "error_reply")) (PySem.Value.str (PySem.Str.ofString "error_reply") 224) (PySem.Value.ref 37) :: PySem.DictEntry.mk (PySem.PyData.keyHash P (PySem.Str.ofString "parse257")) (PySem.Value.str (PySem.Str.ofString "parse257") 235) (PySem.Value.ref 46) :: PySem.DictEntry.mk (PySem.PyData.keyHash P (PySem.Str.ofString "CRLF")) (PySem.Value.str (PySem.Str.ofString "CRLF") 237) (PySem.Value.str (PySem.Str.ofString "\x0d\n") 236) :: PySem.DictEntry.mk (PySem.PyData.keyHash P (PySem.Str.ofString "NL")) (PySem.Value.str (PySem.Str.ofString "NL") 239) (PySem.Value.str (PySem.Str.ofString "\n") 238) :: PySem.DictEntry.mk (PySem.PyData.keyHash P (PySem.Str.ofString "_QUOPRI_MAP")) (PySem.Value.str (PySem.Str.ofString "_QUOPRI_MAP") 1267) (PySem.Value.ref 49) :: PySem.DictEntry.mk (PySem.PyData.keyHash P (PySem.Str.ofString "_QUOPRI_HEADER_MAP")) (PySem.Value.str (PySem.Str.ofString "_QUOPRI_HEADER_MAP") 1268) (PySem.Value.ref 54) :: PySem.DictEntry.mk (PySem.PyData.keyHash P (PySem.Str.ofString "_QUOPRI_BODY_MAP")) (PySem.Value.str (PySem.Str.ofString "_QUOPRI_BODY_MAP") 1269) (PySem.Value.ref 56) :: PySem.DictEntry.mk (PySem.PyData.keyHash P (PySem.Str.ofString "ascii_lowercase")) (PySem.Value.str (PySem.Str.ofString "ascii_lowercase") 1271) (PySem.Value.str (PySem.Str.ofString "abcdefghijklmnopqrstuvwxyz") 1270) :: PySem.DictEntry.mk (PySem.PyData.keyHash P (PySem.Str.ofString "ascii_uppercase")) (PySem.Value.str (PySem.Str.ofString "ascii_uppercase") 1273) (PySem.Value.str (PySem.Str.ofString "ABCDEFGHIJKLMNOPQRSTUVWXYZ") 1272) :: PySem.DictEntry.mk (PySem.PyData.keyHash P (PySem.Str.ofString "ascii_letters")) (PySem.Value.str (PySem.Str.ofString "ascii_letters") 1275) (PySem.Value.str (PySem.Str.ofString "abcdefghijklmnopqrstuvwxyzABCDEFGHIJKLMNOPQRSTUVWXYZ") 1274) :: PySem.DictEntry.mk (PySem.PyData.keyHash P (PySem.Str.ofString "digits")) (PySem.Value.str (PySem.Str.ofString "digits") 1277) (PySem.Value.str (PySem.Str.ofString "0123456789") 1276) :: PySem.DictEntry.mk (PySem.PyData.keyHash P (PySem.Str.ofString "c")) (PySem.Value.str (PySem.Str.ofString "c") 1288) (PySem.Value.int 79 1630) :: [])) 22) #[]
noncomputable abbrev oi_56 (P : PySem.Params) : PySem.Obj := PySem.Obj.mk (PySem.Value.type "list") Option.none (PySem.Data.seq (List.toArray (PySem.Value.str (PySem.Str.ofString "=00") 246 :: PySem.Value.str (PySem.Str.ofString "=01") 250 :: PySem.Value.str (PySem.Str.ofString "=02") 254 :: PySem.Value.str (PySem.Str.ofString "=03") 258 :: PySem.Value.str (PySem.Str.ofString "=04") 262 :: PySem.Value.str (PySem.Str.ofString "=05") 266 :: PySem.Value.str (PySem.Str.ofString "=06") 270 :: PySem.Value.str (PySem.Str.ofString "=07") 274 :: PySem.Value.str (PySem.Str.ofString "=08") 278 :: PySem.Value.str (PySem.Str.ofString "=09") 282 :: PySem.Value.str (PySem.Str.ofString "=0A") 286 :: PySem.Value.str (PySem.Str.ofString "=0B") 290 :: PySem.Value.str (PySem.Str.ofString "=0C") 294 :: PySem.Value.str (PySem.Str.ofString "=0D") 298 :: PySem.Value.str (PySem.Str.ofString "=0E") 302 :: PySem.Value.str (PySem.Str.ofString "=0F") 306 :: PySem.Value.str (PySem.Str.ofString "=10") 310 :: PySem.Value.str (PySem.Str.ofString "=11") 314 :: PySem.Value.str (PySem.Str.ofString "=12") 318 :: PySem.Value.str (PySem.Str.ofString "=13") 322 :: PySem.Value.str (PySem.Str.ofString "=14") 326 :: PySem.Value.str (PySem.Str.ofString "=15") 330 :: PySem.Value.str (PySem.Str.ofString "=16") 334 :: PySem.Value.str (PySem.Str.ofString "=17") 338 :: PySem.Value.str (PySem.Str.ofString "=18") 342 :: PySem.Value.str (PySem.Str.ofString "=19") 346 :: PySem.Value.str (PySem.Str.ofString "=1A") 350 :: PySem.Value.str (PySem.Str.ofString "=1B") 354 :: PySem.Value.str (PySem.Str.ofString "=1C") 358 :: PySem.Value.str (PySem.Str.ofString "=1D") 362 :: PySem.Value.str (PySem.Str.ofString "=1E") 366 :: PySem.Value.str (PySem.Str.ofString "=1F") 370 :: PySem.Value.str (PySem.Str.ofString " ") 1494 :: PySem.Value.str (PySem.Str.ofString "!") 1497 :: PySem.Value.str (PySem.Str.ofString "\"") 1500 :: PySem.Value.str (PySem.Str.ofString "#") 1503 :: PySem.Value.str (PySem.Str.ofString "$") 1506 :: PySem.Value.str (PySem.Str.ofString "%") 1509 :: PySem.Value.str (PySem.Str.ofString "&") 1512 :: PySem.Value.str (PySem.Str.ofString "'") 1515 :: PySem.Value.str (PySem.Str.ofString "(") 1518 :: PySem.Value.str (PySem.Str.ofString ")") 1521 :: PySem.Value.str (PySem.Str.ofString "*") 1524 :: PySem.Value.str (PySem.Str.ofString "+") 1527 :: PySem.Value.str (PySem.Str.ofString ",") 1530 :: PySem.Value.str (PySem.Str.ofString "-") 1533 :: PySem.Value.str (PySem.Str.ofString ".") 1536 :: PySem.Value.str (PySem.Str.ofString "/") 1539 :: PySem.Value.str (PySem.Str.ofString "0") 1542 :: PySem.Value.str (PySem.Str.ofString "1") 1545 :: PySem.Value.str (PySem.Str.ofString "2") 1548 :: PySem.Value.str (PySem.Str.ofString "3") 1551 :: PySem.Value.str (PySem.Str.ofString "4") 1554 :: PySem.Value.str (PySem.Str.ofString "5") 1557 :: PySem.Value.str (PySem.Str.ofString "6") 1560 :: PySem.Value.str (PySem.Str.ofString "7") 1563 :: PySem.Value.str (PySem.Str.ofString "8") 1566 :: PySem.Value.str (PySem.Str.ofString "9") 1569 :: PySem.Value.str (PySem.Str.ofString ":") 1572 :: PySem.Value.str (PySem.Str.ofString ";") 1575 :: PySem.Value.str (PySem.Str.ofString "<") 1578 :: PySem.Value.str (PySem.Str.ofString "=3D") 490 :: PySem.Value.str (PySem.Str.ofString ">") 1581 :: PySem.Value.str (PySem.Str.ofString "?") 1584 :: PySem.Value.str (PySem.Str.ofString "@") 1587 :: PySem.Value.str (PySem.Str.ofString "A") 1590 :: PySem.Value.str (PySem.Str.ofString "B") 1593 :: PySem.Value.str (PySem.Str.ofString "C") 1596 :: PySem.Value.str (PySem.Str.ofString "D") 1599 :: PySem.Value.str (PySem.Str.ofString "E") 1602 :: PySem.Value.str (PySem.Str.ofString "F") 1605 :: PySem.Value.str (PySem.Str.ofString "G") 1608 :: PySem.Value.str (PySem.Str.ofString "H") 1611 :: PySem.Value.str (PySem.Str.ofString "I") 1614 :: PySem.Value.str (PySem.Str.ofString "J") 1617 :: PySem.Value.str (PySem.Str.ofString "K") 1620 :: PySem.Value.str (PySem.Str.ofString "L") 1623 :: PySem.Value.str (PySem.Str.ofString "M") 1626 :: PySem.Value.str (PySem.Str.ofString "N") 1629 :: PySem.Value.str (PySem.Str.ofString "O") 1632 :: PySem.Value.str (PySem.Str.ofString "=50") 566 :: PySem.Value.str (PySem.Str.ofString "=51") 570 :: PySem.Value.str (PySem.Str.ofString "=52") 574 :: PySem.Value.str (PySem.Str.ofString "=53") 578 :: PySem.Value.str (PySem.Str.ofString "=54") 582 :: PySem.Value.str (PySem.Str.ofString "=55") 586 :: PySem.Value.str (PySem.Str.ofString "=56") 590 :: PySem.Value.str (PySem.Str.ofString "=57") 594 :: PySem.Value.str (PySem.Str.ofString "=58") 598 :: PySem.Value.str (PySem.Str.ofString "=59") 602 :: PySem.Value.str (PySem.Str.ofString "=5A") 606 :: PySem.Value.str (PySem.Str.ofString "=5B") 610 :: PySem.Value.str (PySem.Str.ofString "=5C") 614 :: PySem.Value.str (PySem.Str.ofString "=5D") 618 :: PySem.Value.str (PySem.Str.ofString "=5E") 622 :: PySem.Value.str (PySem.Str.ofString "=5F") 626 :: PySem.Value.str (PySem.Str.ofString "=60") 630 :: PySem.Value.str (PySem.Str.ofString "=61") 634 :: PySem.Value.str (PySem.Str.ofString "=62") 638 :: PySem.Value.str (PySem.Str.ofString "=63") 642 :: PySem.Value.str (PySem.Str.ofString "=64") 646 :: PySem.Value.str (PySem.Str.ofString "=65") 650 :: PySem.Value.str (PySem.Str.ofString "=66") 654 :: PySem.Value.str (PySem.Str.ofString "=67") 658 :: PySem.Value.str (PySem.Str.ofString "=68") 662 :: PySem.Value.str (PySem.Str.ofString "=69") 666 :: PySem.Value.str (PySem.Str.ofString "=6A") 670 :: PySem.Value.str (PySem.Str.ofString "=6B") 674 :: PySem.Value.str (PySem.Str.ofString "=6C") 678 :: PySem.Value.str (PySem.Str.ofString "=6D") 682 :: PySem.Value.str (PySem.Str.ofString "=6E") 686 :: PySem.Value.str (PySem.Str.ofString "=6F") 690 :: PySem.Value.str (PySem.Str.ofString "=70") 694 :: PySem.Value.str (PySem.Str.ofString "=71") 698 :: PySem.Value.str (PySem.Str.ofString "=72") 702 :: PySem.Value.str (PySem.Str.ofString "=73") 706 :: PySem.Value.str (PySem.Str.ofString "=74") 710 :: PySem.Value.str (PySem.Str.ofString "=75") 714 :: PySem.Value.str (PySem.Str.ofString "=76") 718 :: PySem.Value.str (PySem.Str.ofString "=77") 722 :: PySem.Value.str (PySem.Str.ofString "=78") 726 :: PySem.Value.str (PySem.Str.ofString "=79") 730 :: PySem.Value.str (PySem.Str.ofString "=7A") 734 :: PySem.Value.str (PySem.Str.ofString "=7B") 738 :: PySem.Value.str (PySem.Str.ofString "=7C") 742 :: PySem.Value.str (PySem.Str.ofString "=7D") 746 :: PySem.Value.str (PySem.Str.ofString "=7E") 750 :: PySem.Value.str (PySem.Str.ofString "=7F") 754 :: PySem.Value.str (PySem.Str.ofString "=80") 758 :: PySem.Value.str (PySem.Str.ofString "=81") 762 :: PySem.Value.str (PySem.Str.ofString "=82") 766 :: PySem.Value.str (PySem.Str.ofString "=83") 770 :: PySem.Value.str (PySem.Str.ofString "=84") 774 :: PySem.Value.str (PySem.Str.ofString "=85") 778 :: PySem.Value.str (PySem.Str.ofString "=86") 782 :: PySem.Value.str (PySem.Str.ofString "=87") 786 :: PySem.Value.str (PySem.Str.ofString "=88") 790 :: PySem.Value.str (PySem.Str.ofString "=89") 794 :: PySem.Value.str (PySem.Str.ofString "=8A") 798 :: PySem.Value.str (PySem.Str.ofString "=8B") 802 :: PySem.Value.str (PySem.Str.ofString "=8C") 806 :: PySem.Value.str (PySem.Str.ofString "=8D") 810 :: PySem.Value.str (PySem.Str.ofString "=8E") 814 :: PySem.Value.str (PySem.Str.ofString "=8F") 818 :: PySem.Value.str (PySem.Str.ofString "=90") 822 :: PySem.Value.str (PySem.Str.ofString "=91") 826 :: PySem.Value.str (PySem.Str.ofString "=92") 830 :: PySem.Value.str (PySem.Str.ofString "=93") 834 :: PySem.Value.str (PySem.Str.ofString "=94") 838 :: PySem.Value.str (PySem.Str.ofString "=95") 842 :: PySem.Value.str (PySem.Str.ofString "=96") 846 :: PySem.Value.str (PySem.Str.ofString "=97") 850 :: PySem.Value.str (PySem.Str.ofString "=98") 854 :: PySem.Value.str (PySem.Str.ofString "=99") 858 :: PySem.Value.str (PySem.Str.ofString "=9A") 862 :: PySem.Value.str (PySem.Str.ofString "=9B") 866 :: PySem.Value.str (PySem.Str.ofString "=9C") 870 :: PySem.Value.str (PySem.Str.ofString "=9D") 874 :: PySem.Value.str (PySem.Str.ofString "=9E") 878 :: PySem.Value.str (PySem.Str.ofString "=9F") 882 :: PySem.Value.str (PySem.Str.ofString "=A0") 886 :: PySem.Value.str (PySem.Str.ofString "=A1") 890 :: PySem.Value.str (PySem.Str.ofString "=A2") 894 :: PySem.Value.str (PySem.Str.ofString "=A3") 898 :: PySem.Value.str (PySem.Str.ofString "=A4") 902 :: PySem.Value.str (PySem.Str.ofString "=A5") 906 :: PySem.Value.str (PySem.Str.ofString "=A6") 910 :: PySem.Value.str (PySem.Str.ofString "=A7") 914 :: PySem.Value.str (PySem.Str.ofString "=A8") 918 :: PySem.Value.str (PySem.Str.ofString "=A9") 922 :: PySem.Value.str (PySem.Str.ofString "=AA") 926 :: PySem.Value.str (PySem.Str.ofString "=AB") 930 :: PySem.Value.str (PySem.Str.ofString "=AC") 934 :: PySem.Value.str (PySem.Str.ofString "=AD") 938 :: PySem.Value.str (PySem.Str.ofString "=AE") 942 :: PySem.Value.str (PySem.Str.ofString "=AF") 946 :: PySem.Value.str (PySem.Str.ofString "=B0") 950 :: PySem.Value.str (PySem.Str.ofString "=B1") 954 :: PySem.Value.str (PySem.Str.ofString "=B2") 958 :: PySem.Value.str (PySem.Str.ofString "=B3") 962 :: PySem.Value.str (PySem.Str.ofString "=B4") 966 :: PySem.Value.str (PySem.Str.ofString "=B5") 970 :: PySem.Value.str (PySem.Str.ofString "=B6") 974 :: PySem.Value.str (PySem.Str.ofString "=B7") 978 :: PySem.Value.str (PySem.Str.ofString "=B8") 982 :: PySem.Value.str (PySem.Str.ofString "=B9") 986 :: PySem.Value.str (PySem.Str.ofString "=BA") 990 :: PySem.Value.str (PySem.Str.ofString "=BB") 994 :: PySem.Value.str (PySem.Str.ofString "=BC") 998 :: PySem.Value.str (PySem.Str.ofString "=BD") 1002 :: PySem.Value.str (PySem.Str.ofString "=BE") 1006 :: PySem.Value.str (PySem.Str.ofString "=BF") 1010 :: PySem.Value.str (PySem.Str.ofString "=C0") 1014 :: PySem.Value.str (PySem.Str.ofString "=C1") 1018 :: PySem.Value.str (PySem.Str.ofString "=C2") 1022 :: PySem.Value.str (PySem.Str.ofString "=C3") 1026 :: PySem.Value.str (PySem.Str.ofString "=C4") 1030 :: PySem.Value.str (PySem.Str.ofString "=C5") 1034 :: PySem.Value.str (PySem.Str.ofString "=C6") 1038 :: PySem.Value.str (PySem.Str.ofString "=C7") 1042 :: PySem.Value.str (PySem.Str.ofString "=C8") 1046 :: PySem.Value.str (PySem.Str.ofString "=C9") 1050 :: PySem.Value.str (PySem.Str.ofString "=CA") 1054 :: PySem.Value.str (PySem.Str.ofString "=CB") 1058 :: PySem.Value.str (PySem.Str.ofString "=CC") 1062 :: PySem.Value.str (PySem.Str.ofString "=CD") 1066 :: PySem.Value.str (PySem.Str.ofString "=CE") 1070 :: PySem.Value.str (PySem.Str.ofString "=CF") 1074 :: PySem.Value.str (PySem.Str.ofString "=D0") 1078 :: PySem.Value.str (PySem.Str.ofString "=D1") 1082 :: PySem.Value.str (PySem.Str.ofString "=D2") 1086 :: PySem.Value.str (PySem.Str.ofString "=D3") 1090 :: PySem.Value.str (PySem.Str.ofString "=D4") 1094 :: PySem.Value.str (PySem.Str.ofString "=D5") 1098 :: PySem.Value.str (PySem.Str.ofString "=D6") 1102 :: PySem.Value.str (PySem.Str.ofString "=D7") 1106 :: PySem.Value.str (PySem.Str.ofString "=D8") 1110 :: PySem.Value.str (PySem.Str.ofString "=D9") 1114 :: PySem.Value.str (PySem.Str.ofString "=DA") 1118 :: PySem.Value.str (PySem.Str.ofString "=DB") 1122 :: PySem.Value.str (PySem.Str.ofString "=DC") 1126 :: PySem.Value.str (PySem.Str.ofString "=DD") 1130 :: PySem.Value.str (PySem.Str.ofString "=DE") 1134 :: PySem.Value.str (PySem.Str.ofString "=DF") 1138 :: PySem.Value.str (PySem.Str.ofString "=E0") 1142 :: PySem.Value.str (PySem.Str.ofString "=E1") 1146 :: PySem.Value.str (PySem.Str.ofString "=E2") 1150 :: PySem.Value.str (PySem.Str.ofString "=E3") 1154 :: PySem.Value.str (PySem.Str.ofString "=E4") 1158 :: PySem.Value.str (PySem.Str.ofString "=E5") 1162 :: PySem.Value.str (PySem.Str.ofString "=E6") 1166 :: PySem.Value.str (PySem.Str.ofString "=E7") 1170 :: PySem.Value.str (PySem.Str.ofString "=E8") 1174 :: PySem.Value.str (PySem.Str.ofString "=E9") 1178 :: PySem.Value.str (PySem.Str.ofString "=EA") 1182 :: PySem.Value.str (PySem.Str.ofString "=EB") 1186 :: PySem.Value.str (PySem.Str.ofString "=EC") 1190 :: PySem.Value.str (PySem.Str.ofString "=ED") 1194 :: PySem.Value.str (PySem.Str.ofString "=EE") 1198 :: PySem.Value.str (PySem.Str.ofString "=EF") 1202 :: PySem.Value.str (PySem.Str.ofString "=F0") 1206 :: PySem.Value.str (PySem.Str.ofString "=F1") 1210 :: PySem.Value.str (PySem.Str.ofString "=F2") 1214 :: PySem.Value.str (PySem.Str.ofString "=F3") 1218 :: PySem.Value.str (PySem.Str.ofString "=F4") 1222 :: PySem.Value.str (PySem.Str.ofString "=F5") 1226 :: PySem.Value.str (PySem.Str.ofString "=F6") 1230 :: PySem.Value.str (PySem.Str.ofString "=F7") 1234 :: PySem.Value.str (PySem.Str.ofString "=F8") 1238 :: PySem.Value.str (PySem.Str.ofString "=F9") 1242 :: PySem.Value.str (PySem.Str.ofString "=FA") 1246 :: PySem.Value.str (PySem.Str.ofString "=FB") 1250 :: PySem.Value.str (PySem.Str.ofString "=FC") 1254 :: PySem.Value.str (PySem.Str.ofString "=FD") 1258 :: PySem.Value.str (PySem.Str.ofString "=FE") 1262 :: PySem.Value.str (PySem.Str.ofString "=FF") 1266 :: []))) #[]
noncomputable abbrev oi_60 (P : PySem.Params) : PySem.Obj := PySem.Obj.mk (PySem.Value.type "bytes_iterator") Option.none (PySem.Data.fields (List.toArray (PySem.Value.bytes (List.toArray (32 :: 33 :: 34 :: 35 :: 36 :: 37 :: 38 :: 39 :: 40 :: 41 :: 42 :: 43 :: 44 :: 45 :: 46 :: 47 :: 48 :: 49 :: 50 :: 51 :: 52 :: 53 :: 54 :: 55 :: 56 :: 57 :: 58 :: 59 :: 60 :: 62 :: 63 :: 64 :: 65 :: 66 :: 67 :: 68 :: 69 :: 70 :: 71 :: 72 :: 73 :: 74 :: 75 :: 76 :: 77 :: 78 :: 79 :: 80 :: 81 :: 82 :: 83 :: 84 :: 85 :: 86 :: 87 :: 88 :: 89 :: 90 :: 91 :: 92 :: 93 :: 94 :: 95 :: 96 :: 97 :: 98 :: 99 :: 100 :: 101 :: 102 :: 103 :: 104 :: 105 :: 106 :: 107 :: 108 :: 109 :: 110 :: 111 :: 112 :: 113 :: 114 :: 115 :: 116 :: 117 :: 118 :: 119 :: 120 :: 121 :: 122 :: 123 :: 124 :: 125 :: 126 :: 9 :: [])) 1491 :: PySem.Value.int 47 0 :: []))) #[]
noncomputable abbrev tree_i (P : PySem.Params) : PySem.W.BT := (PySem.W.BT.node (PySem.W.boot_o_0 P) (PySem.W.BT.node (PySem.W.boot_o_1 P) (PySem.W.BT.node (oi_3 P) (PySem.W.BT.node (PySem.W.boot_o_7 P) (PySem.W.BT.node (oz_15 P) (PySem.W.BT.node (oz_31 P) PySem.W.BT.nil PySem.W.BT.nil) (PySem.W.BT.node (oz_47 P) PySem.W.BT.nil PySem.W.BT.nil)) (PySem.W.BT.node (oz_23 P) (PySem.W.BT.node (oz_39 P) PySem.W.BT.nil PySem.W.BT.nil) (PySem.W.BT.node (oz_55 P) PySem.W.BT.nil PySem.W.BT.nil))) (PySem.W.BT.node (oz_11 P) (PySem.W.BT.node (oz_19 P) (PySem.W.BT.node (oz_35 P) PySem.W.BT.nil PySem.W.BT.nil) (PySem.W.BT.node (oz_51 P) PySem.W.BT.nil PySem.W.BT.nil)) (PySem.W.BT.node (oz_27 P) (PySem.W.BT.node (oz_43 P) PySem.W.BT.nil PySem.W.BT.nil) (PySem.W.BT.node (oz_59 P) PySem.W.BT.nil PySem.W.BT.nil)))) (PySem.W.BT.node (PySem.W.boot_o_5 P) (PySem.W.BT.node (PySem.W.boot_o_9 P) (PySem.W.BT.node (oz_17 P) (PySem.W.BT.node (oz_33 P) PySem.W.BT.nil PySem.W.BT.nil) (PySem.W.BT.node (oz_49 P) PySem.W.BT.nil PySem.W.BT.nil)) (PySem.W.BT.node (oz_25 P) (PySem.W.BT.node (oz_41 P) PySem.W.BT.nil PySem.W.BT.nil) (PySem.W.BT.node (oz_57 P) PySem.W.BT.nil PySem.W.BT.nil))) (PySem.W.BT.node (oz_13 P) (PySem.W.BT.node (oz_21 P) (PySem.W.BT.node (oz_37 P) PySem.W.BT.nil PySem.W.BT.nil) (PySem.W.BT.node (oz_53 P) PySem.W.BT.nil PySem.W.BT.nil)) (PySem.W.BT.node (oz_29 P) (PySem.W.BT.node (oz_45 P) PySem.W.BT.nil PySem.W.BT.nil) PySem.W.BT.nil)))) (PySem.W.BT.node (oz_2 P) (PySem.W.BT.node (PySem.W.boot_o_4 P) (PySem.W.BT.node (PySem.W.boot_o_8 P) (PySem.W.BT.node (oz_16 P) (PySem.W.BT.node (oz_32 P) PySem.W.BT.nil PySem.W.BT.nil) (PySem.W.BT.node (oz_48 P) PySem.W.BT.nil PySem.W.BT.nil)) (PySem.W.BT.node (oz_24 P) (PySem.W.BT.node (oz_40 P) PySem.W.BT.nil PySem.W.BT.nil) (PySem.W.BT.node (oi_56 P) PySem.W.BT.nil PySem.W.BT.nil))) (PySem.W.BT.node (oa_12 P) (PySem.W.BT.node (oz_20 P) (PySem.W.BT.node (oz_36 P) PySem.W.BT.nil PySem.W.BT.nil) (PySem.W.BT.node (oz_52 P) PySem.W.BT.nil PySem.W.BT.nil)) (PySem.W.BT.node (oz_28 P) (PySem.W.BT.node (oz_44 P) PySem.W.BT.nil PySem.W.BT.nil) (PySem.W.BT.node (oi_60 P) PySem.W.BT.nil PySem.W.BT.nil)))) (PySem.W.BT.node (PySem.W.boot_o_6 P) (PySem.W.BT.node (PySem.W.boot_o_10 P) (PySem.W.BT.node (oz_18 P) (PySem.W.BT.node (oz_34 P) PySem.W.BT.nil PySem.W.BT.nil) (PySem.W.BT.node (oz_50 P) PySem.W.BT.nil PySem.W.BT.nil)) (PySem.W.BT.node (oz_26 P) (PySem.W.BT.node (oz_42 P) PySem.W.BT.nil PySem.W.BT.nil) (PySem.W.BT.node (oz_58 P) PySem.W.BT.nil PySem.W.BT.nil))) (PySem.W.BT.node (oz_14 P) (PySem.W.BT.node (oz_22 P) (PySem.W.BT.node (oz_38 P) PySem.W.BT.nil PySem.W.BT.nil) (PySem.W.BT.node (oz_54 P) PySem.W.BT.nil PySem.W.BT.nil)) (PySem.W.BT.node (oz_30 P) (PySem.W.BT.node (oz_46 P) PySem.W.BT.nil PySem.W.BT.nil) PySem.W.BT.nil)))))
noncomputable abbrev oh_3 (P : PySem.Params) : PySem.Obj := PySem.Obj.mk (PySem.Value.type "dict") Option.none (PySem.Data.dict (List.toArray (PySem.DictEntry.mk (PySem.PyData.keyHash P (PySem.Str.ofString "__name__")) (PySem.Value.str (PySem.Str.ofString "__name__") 165) (PySem.Value.str (PySem.Str.ofString "cpy313.email.quoprimime") 1278) :: PySem.DictEntry.mk (PySem.PyData.keyHash P (PySem.Str.ofString "__doc__")) (PySem.Value.str (PySem.Str.ofString "__doc__") 166) PySem.Value.none :: PySem.DictEntry.mk (PySem.PyData.keyHash P (PySem.Str.ofString "__package__")) (PySem.Value.str (PySem.Str.ofString "__package__") 167) PySem.Value.none :: PySem.DictEntry.mk (PySem.PyData.keyHash P (PySem.Str.ofString "__loader__")) (PySem.Value.str (PySem.Str.ofString "__loader__") 168) (PySem.Value.builtin "__main__.__loader__#opaque") :: PySem.DictEntry.mk (PySem.PyData.keyHash P (PySem.Str.ofString "__spec__")) (PySem.Value.str (PySem.Str.ofString "__spec__") 169) PySem.Value.none :: PySem.DictEntry.mk (PySem.PyData.keyHash P (PySem.Str.ofString "__annotations__")) (PySem.Value.str (PySem.Str.ofString "__annotations__") 170) (PySem.Value.ref 6) :: PySem.DictEntry.mk (PySem.PyData.keyHash P (PySem.Str.ofString "__builtins__")) (PySem.Value.str (PySem.Str.ofString "__builtins__") 171) (PySem.Value.ref 4) :: PySem.DictEntry.mk (PySem.PyData.keyHash P (PySem.Str.ofString "__file__")) (PySem.Value.str (PySem.Str.ofString "__file__") 173) (PySem.Value.str (PySem.Str.ofString "/claim/cut.py") 172) :: PySem.DictEntry.mk (PySem.PyData.keyHash P (PySem.Str.ofString "__cached__")) (PySem.Value.str (PySem.Str.ofString "__cached__") 174) PySem.Value.none :: PySem.DictEntry.mk (PySem.PyData.keyHash P (PySem.Str.ofString "Error")) (PySem.Value.str (PySem.Str.ofString "Error") 208) (PySem.Value.ref 24) :: PySem.DictEntry.mk (PySem.PyData.keyHash P (PySem.Str.ofString "error_reply")) (PySem.Value.str (PySem.Str.ofString "error_reply") 224) (PySem.Value.ref 37) :: PySem.DictEntry.mk (PySem.PyData.keyHash P (PySem.Str.ofString "parse257")) (PySem.Value.str (PySem.Str.ofString "parse257") 235) (PySem.Value.ref 46) :: PySem.DictEntry.mk (PySem.PyData.keyHash P (PySem.Str.ofString "CRLF")) (PySem.Value.str (PySem.Str.ofString "CRLF") 237) (PySem.Value.str (PySem.Str.ofString "\x0d\n") 236) :: PySem.DictEntry.mk (PySem.PyData.keyHash P (PySem.Str.ofString "NL")) (PySem.Value.str (PySem.Str.ofString "NL") 239) (PySem.Value.str (PySem.Str.ofString "\n") 238) :: PySem.DictEntry.mk (PySem.PyData.keyHash P (PySem.Str.ofString "_QUOPRI_MAP")) (PySem.Value.str (PySem.Str.ofString "_QUOPRI_MAP") 1267) (PySem.Value.ref 49) :: PySem.DictEntry.mk (PySem.PyData.keyHash P (PySem.Str.ofString "_QUOPRI_HEADER_MAP")) (PySem.Value.str (PySem.Str.ofString "_QUOPRI_HEADER_MAP") 1268) (PySem.Value.ref 54) :: PySem.DictEntry.mk (PySem.PyData.keyHash P (PySem.Str.ofString "_QUOPRI_BODY_MAP")) (PySem.Value.str (PySem.Str.ofString "_QUOPRI_BODY_MAP") 1269) (PySem.Value.ref 56) :: PySem.DictEntry.mk (PySem.PyData.keyHash P (PySem.Str.ofString "ascii_lowercase")) (PySem.Value.str (PySem.Str.ofString "ascii_lowercase") 1271) (PySem.Value.str (PySem.Str.ofString "abcdefghijklmnopqrstuvwxyz") 1270) :: PySem.DictEntry.mk (PySem.PyData.keyHash P (PySem.Str.ofString "ascii_uppercase")) (PySem.Value.str (PySem.Str.ofString "ascii_uppercase") 1273) (PySem.Value.str (PySem.Str.ofString "ABCDEFGHIJKLMNOPQRSTUVWXYZ") 1272) :: PySem.DictEntry.mk (PySem.PyData.keyHash P (PySem.Str.ofString "ascii_letters")) (PySem.Value.str (PySem.Str.ofString "ascii_letters") 1275) (PySem.Value.str (PySem.Str.ofString "abcdefghijklmnopqrstuvwxyzABCDEFGHIJKLMNOPQRSTUVWXYZ") 1274) :: PySem.DictEntry.mk (PySem.PyData.keyHash P (PySem.Str.ofString "digits")) (PySem.Value.str (PySem.Str.ofString "digits") 1277) (PySem.Value.str (PySem.Str.ofString "0123456789") 1276) :: PySem.DictEntry.mk (PySem.PyData.keyHash P (PySem.Str.ofString "c")) (PySem.Value.str (PySem.Str.ofString "c") 1288) (PySem.Value.int 9 1774) :: PySem.DictEntry.mk (PySem.PyData.keyHash P (PySem.Str.ofString "quote")) (PySem.Value.str (PySem.Str.ofString "quote") 1783) (PySem.Value.ref 69) :: [])) 23) #[]
noncomputable abbrev oh_12 (P : PySem.Params) : PySem.Obj := PySem.Obj.mk PySem.Value.none Option.none (PySem.Data.fields (List.toArray (PySem.Value.int 2 0 :: PySem.Value.int 0 0 :: PySem.Value.ref 20 :: PySem.Value.int 4 0 :: PySem.Value.int 0 0 :: PySem.Value.ref 33 :: PySem.Value.int 6 0 :: PySem.Value.int 0 0 :: PySem.Value.ref 45 :: PySem.Value.int 38 0 :: PySem.Value.int 0 0 :: PySem.Value.ref 68 :: []))) #[]
noncomputable abbrev tree_h (P : PySem.Params) : PySem.W.BT := (PySem.W.BT.node (PySem.W.boot_o_0 P) (PySem.W.BT.node (PySem.W.boot_o_1 P) (PySem.W.BT.node (oh_3 P) (PySem.W.BT.node (PySem.W.boot_o_7 P) (PySem.W.BT.node (oz_15 P) (PySem.W.BT.node (oz_31 P) (PySem.W.BT.node (oz_63 P) PySem.W.BT.nil PySem.W.BT.nil) PySem.W.BT.nil) (PySem.W.BT.node (oz_47 P) PySem.W.BT.nil PySem.W.BT.nil)) (PySem.W.BT.node (oz_23 P) (PySem.W.BT.node (oz_39 P) PySem.W.BT.nil PySem.W.BT.nil) (PySem.W.BT.node (oz_55 P) PySem.W.BT.nil PySem.W.BT.nil))) (PySem.W.BT.node (oz_11 P) (PySem.W.BT.node (oz_19 P) (PySem.W.BT.node (oz_35 P) (PySem.W.BT.node (oz_67 P) PySem.W.BT.nil PySem.W.BT.nil) PySem.W.BT.nil) (PySem.W.BT.node (oz_51 P) PySem.W.BT.nil PySem.W.BT.nil)) (PySem.W.BT.node (oz_27 P) (PySem.W.BT.node (oz_43 P) PySem.W.BT.nil PySem.W.BT.nil) (PySem.W.BT.node (oz_59 P) PySem.W.BT.nil PySem.W.BT.nil)))) (PySem.W.BT.node (PySem.W.boot_o_5 P) (PySem.W.BT.node (PySem.W.boot_o_9 P) (PySem.W.BT.node (oz_17 P) (PySem.W.BT.node (oz_33 P) (PySem.W.BT.node (oz_65 P) PySem.W.BT.nil PySem.W.BT.nil) PySem.W.BT.nil) (PySem.W.BT.node (oz_49 P) PySem.W.BT.nil PySem.W.BT.nil)) (PySem.W.BT.node (oz_25 P) (PySem.W.BT.node (oz_41 P) PySem.W.BT.nil PySem.W.BT.nil) (PySem.W.BT.node (oz_57 P) PySem.W.BT.nil PySem.W.BT.nil))) (PySem.W.BT.node (oz_13 P) (PySem.W.BT.node (oz_21 P) (PySem.W.BT.node (oz_37 P) (PySem.W.BT.node (oz_69 P) PySem.W.BT.nil PySem.W.BT.nil) PySem.W.BT.nil) (PySem.W.BT.node (oz_53 P) PySem.W.BT.nil PySem.W.BT.nil)) (PySem.W.BT.node (oz_29 P) (PySem.W.BT.node (oz_45 P) PySem.W.BT.nil PySem.W.BT.nil) (PySem.W.BT.node (oz_61 P) PySem.W.BT.nil PySem.W.BT.nil))))) (PySem.W.BT.node (oz_2 P) (PySem.W.BT.node (PySem.W.boot_o_4 P) (PySem.W.BT.node (PySem.W.boot_o_8 P) (PySem.W.BT.node (oz_16 P) (PySem.W.BT.node (oz_32 P) (PySem.W.BT.node (oz_64 P) PySem.W.BT.nil PySem.W.BT.nil) PySem.W.BT.nil) (PySem.W.BT.node (oz_48 P) PySem.W.BT.nil PySem.W.BT.nil)) (PySem.W.BT.node (oz_24 P) (PySem.W.BT.node (oz_40 P) PySem.W.BT.nil PySem.W.BT.nil) (PySem.W.BT.node (oz_56 P) PySem.W.BT.nil PySem.W.BT.nil))) (PySem.W.BT.node (oh_12 P) (PySem.W.BT.node (oz_20 P) (PySem.W.BT.node (oz_36 P) (PySem.W.BT.node (oz_68 P) PySem.W.BT.nil PySem.W.BT.nil) PySem.W.BT.nil) (PySem.W.BT.node (oz_52 P) PySem.W.BT.nil PySem.W.BT.nil)) (PySem.W.BT.node (oz_28 P) (PySem.W.BT.node (oz_44 P) PySem.W.BT.nil PySem.W.BT.nil) (PySem.W.BT.node (oz_60 P) PySem.W.BT.nil PySem.W.BT.nil)))) (PySem.W.BT.node (PySem.W.boot_o_6 P) (PySem.W.BT.node (PySem.W.boot_o_10 P) (PySem.W.BT.node (oz_18 P) (PySem.W.BT.node (oz_34 P) (PySem.W.BT.node (oz_66 P) PySem.W.BT.nil PySem.W.BT.nil) PySem.W.BT.nil) (PySem.W.BT.node (oz_50 P) PySem.W.BT.nil PySem.W.BT.nil)) (PySem.W.BT.node (oz_26 P) (PySem.W.BT.node (oz_42 P) PySem.W.BT.nil PySem.W.BT.nil) (PySem.W.BT.node (oz_58 P) PySem.W.BT.nil PySem.W.BT.nil))) (PySem.W.BT.node (oz_14 P) (PySem.W.BT.node (oz_22 P) (PySem.W.BT.node (oz_38 P) PySem.W.BT.nil PySem.W.BT.nil) (PySem.W.BT.node (oz_54 P) PySem.W.BT.nil PySem.W.BT.nil)) (PySem.W.BT.node (oz_30 P) (PySem.W.BT.node (oz_46 P) PySem.W.BT.nil PySem.W.BT.nil) (PySem.W.BT.node (oz_62 P) PySem.W.BT.nil PySem.W.BT.nil))))))
end Mine
end THeadC
section THeadB
open PySem PySem.W PySem.Calls PyProof.Rows
set_option maxRecDepth 100000
set_option maxHeartbeats 8000000
namespace Mine
noncomputable abbrev pw : Program := PySem.Challenge.pw_rw0036_01
noncomputable abbrev body0 : List Stmt := behindTheImports pw
noncomputable abbrev env0 : Env := { scope := pw.main.scope, locals := mainNs, globals := mainNs, cells := [], code := .ref 13, frame := some 14 }
noncomputable abbrev cE : Code := .body body0 env0
noncomputable abbrev B0 : List Frame := [topFrame (Pos.mk 0 0 0 0)]
noncomputable abbrev ann0 : Option Value := some (.ref 6)
noncomputable abbrev Sz (tree : Params → BT) (n toks : Nat) (w : World) (os : OsState) : SharedT := ⟨tree w.params, n, life_z, Array.mk [], Drawn.mk 0 0 0 0, toks, os⟩
noncomputable abbrev S0 (w : World) (os : OsState) : Shared := ⟨boot_heap w.params, Array.mk [], boot_drawn, boot_toks, os⟩
noncomputable abbrev sts1 : List Stmt := body0.take 6
noncomputable abbrev sts2 : List Stmt := (body0.drop 6).take 1
noncomputable abbrev stsC : List Stmt := (body0.drop 7).take 7
noncomputable abbrev stsD : List Stmt := (body0.drop 14).take 2
noncomputable abbrev stsF : List Stmt := (body0.drop 16).take 2
noncomputable abbrev stsH : List Stmt := body0.drop 18
noncomputable abbrev pA : Pos := Pos.mk 0 0 0 0
noncomputable abbrev pB : Pos := Pos.mk 24 0 24 2
noncomputable abbrev pC : Pos := Pos.mk 25 0 25 11
noncomputable abbrev pE : Pos := Pos.mk 32 0 32 8
noncomputable abbrev pF : Pos := Pos.mk 35 0 35 28
noncomputable abbrev pH : Pos := Pos.mk 38 0 39 30
noncomputable abbrev pD : Pos := Pos.mk 133 0 143 15
theorem run_more {tb : String → Option Builtin} {p : Program} {w : World} {n₀ : Nat} {ann : Option Value} {b : Nat} (k : Nat) : ∀ {n : Nat} {s : Shared} {t : Thread} {r : Flow × Shared × Code × Pos}, segRun tb p w n₀ ann b n s t = some r → segRun tb p w n₀ ann b (n + k) s t = some r
  | 0, _, _, _, h => by simp only [segRun] at h; cases h
  | n + 1, s, t, r, h => by
    rw [show n + 1 + k = n + k + 1 by omega]
    unfold segRun at h ⊢
    cases he : endAt b t with
    | some x => rw [he] at h; exact h
    | none =>
      rw [he] at h
      cases hk : stepOk n₀ ann t with
      | false => rw [hk] at h; cases h
      | true =>
        rw [hk] at h
        cases hs : step (denote tb) p w s t with
        | halt o s₂ => rw [hs] at h; cases h
        | go s₂ t₂ => rw [hs] at h; exact run_more k h
noncomputable abbrev goQ := PySem.W.Fast.tw10295753902157049106
noncomputable def thOf (x : Option (SharedT × Thread)) : Thread := @Option.rec (SharedT × Thread) (fun _ => Thread) (topStub pw) (fun y => y.2) x
noncomputable abbrev wS (b : Bool) (w : World) : World := w.withFollow "special-get-raises" b
noncomputable abbrev wC (b : Bool) (w : World) : World := w.withFollow "comprehension-iter-twice" b
theorem r_pre (w : World) (os : OsState) : topGo treeTable pw w 11 ann0 12 (S0 w os) (topStub pw) = some ((Sz tree_p 15 187 w os).abs, ⟨denote treeTable cE, cE, pA, B0⟩) := by
  rw [PySem.W.Fast.te15667345088766844465, PySem.W.Fast.te11892475500146522536]
  kernel_rfl
theorem r_block (w : World) (os : OsState) : segRun treeTable pw w 11 ann0 1 1 (Sz tree_p 15 187 w os).abs (blockOf body0 env0 cE pA B0) = some (.next, (Sz tree_p 15 187 w os).abs, cE, pA) := by
  kernel_rfl
theorem r_1 (w : World) (os : OsState) : segRunT treeTable pw w 11 ann0 1 500 (Sz tree_p 15 187 w os) (piecesOf sts1 env0 cE pA B0) = some (.next, Sz tree_a 47 240 w os, cE, pB) := by
  rw [PySem.W.Fast.te10110043849684766642]
  kernel_rfl
noncomputable def Tm (w : World) (os : OsState) : Thread := thOf (goQ treeTable pw (wS false (wC false w)) 11 ann0 1 89 (Sz tree_a 47 240 w os) (piecesOf sts2 env0 cE pB B0))
noncomputable def Td (w : World) (os : OsState) : Thread := thOf (goQ treeTable pw (wS false w) 11 ann0 1 49 (Sz tree_c 57 1280 w os) (piecesOf stsD env0 cE pE B0))
noncomputable def Te (w : World) (os : OsState) : Thread := thOf (goQ treeTable pw (wS false w) 11 ann0 1 94 (Sz tree_c 57 1280 w os) (piecesOf stsD env0 cE pE B0))
noncomputable def Ti (w : World) (os : OsState) : Thread := thOf (goQ treeTable pw (wS false w) 11 ann0 1 60 (Sz tree_f 60 1491 w os) (piecesOf stsF env0 cE pF B0))
noncomputable def Tg (w : World) (os : OsState) : Thread := thOf (goQ treeTable pw (wS false w) 11 ann0 1 15 (Sz tree_f 60 1491 w os) (piecesOf stsF env0 cE pF B0))
def M2 (n : Nat) (w : World) : Prop := ∀ os, segGoT treeTable pw w 11 ann0 1 n (Sz tree_a 47 240 w os) (piecesOf sts2 env0 cE pB B0) = some (Sz tree_m 51 247 w os, Tm w os)
theorem m2_false_false (w : World) : M2 89 ((w.withFollow "special-get-raises" false).withFollow "comprehension-iter-twice" false) := by
  intro os
  rw [PySem.W.Fast.te10295753902157049106]
  kernel_rfl
theorem m2_true_false (w : World) : M2 89 ((w.withFollow "special-get-raises" true).withFollow "comprehension-iter-twice" false) := by
  intro os
  rw [PySem.W.Fast.te10295753902157049106]
  kernel_rfl
theorem m2_false_true (w : World) : M2 79 ((w.withFollow "special-get-raises" false).withFollow "comprehension-iter-twice" true) := by
  intro os
  rw [PySem.W.Fast.te10295753902157049106]
  kernel_rfl
theorem m2_true_true (w : World) : M2 79 ((w.withFollow "special-get-raises" true).withFollow "comprehension-iter-twice" true) := by
  intro os
  rw [PySem.W.Fast.te10295753902157049106]
  kernel_rfl
theorem mq : ∀ (w : World) (os : OsState), segGoT treeTable pw w 11 ann0 1 2331 (Sz tree_m 51 247 w os) (Tm w os) = some (Sz tree_q 51 499 w os, Tm w os) := by
  intro w
  intro os
  rw [PySem.W.Fast.te10295753902157049106]
  kernel_rfl
theorem qn : ∀ (w : World) (os : OsState), segGoT treeTable pw w 11 ann0 1 2368 (Sz tree_q 51 499 w os) (Tm w os) = some (Sz tree_n 51 755 w os, Tm w os) := by
  intro w
  intro os
  rw [PySem.W.Fast.te10295753902157049106]
  kernel_rfl
theorem nu : ∀ (w : World) (os : OsState), segGoT treeTable pw w 11 ann0 1 2368 (Sz tree_n 51 755 w os) (Tm w os) = some (Sz tree_u 51 1011 w os, Tm w os) := by
  intro w
  intro os
  rw [PySem.W.Fast.te10295753902157049106]
  kernel_rfl
theorem ub : ∀ (w : World) (os : OsState), segRunT treeTable pw w 11 ann0 1 2444 (Sz tree_u 51 1011 w os) (Tm w os) = some (.next, Sz tree_b 53 1268 w os, cE, pC) := by
  intro w
  intro os
  rw [PySem.W.Fast.te10110043849684766642]
  kernel_rfl
def R2 (w : World) : Prop := ∀ os, segRun treeTable pw w 11 ann0 1 9600 (Sz tree_a 47 240 w os).abs (piecesOf sts2 env0 cE pB B0) = some (.next, (Sz tree_b 53 1268 w os).abs, cE, pC)
theorem mb (w : World) (os : OsState) : segRun treeTable pw w 11 ann0 1 (2331 + (2368 + (2368 + 2444))) (Sz tree_m 51 247 w os).abs (Tm w os) = some (.next, (Sz tree_b 53 1268 w os).abs, cE, pC) :=
  seg_go (segGo_of (mq w os)) (seg_go (segGo_of (qn w os)) (seg_go (segGo_of (nu w os)) (segRun_of (ub w os))))
theorem r_2f (w : World) (h : M2 89 w) : R2 w := fun os => seg_go (n := 89) (segGo_of (h os)) (mb w os)
theorem r_2t (w : World) (h : M2 79 w) : R2 w := fun os => run_more 10 (n := 79 + (2331 + (2368 + (2368 + 2444)))) (seg_go (segGo_of (h os)) (mb w os))
theorem r_2 (w : World) : R2 w :=
  byRow2 "comprehension-iter-twice" (P := R2) (byRow2 "special-get-raises" (P := fun w => R2 (w.withFollow "comprehension-iter-twice" false)) (fun w => r_2f _ (m2_false_false w)) (fun w => r_2f _ (m2_true_false w))) (byRow2 "special-get-raises" (P := fun w => R2 (w.withFollow "comprehension-iter-twice" true)) (fun w => r_2t _ (m2_false_true w)) (fun w => r_2t _ (m2_true_true w))) w
theorem r_c : ∀ (w : World) (os : OsState), segRunT treeTable pw w 11 ann0 1 120 (Sz tree_b 53 1268 w os) (piecesOf stsC env0 cE pC B0) = some (.next, Sz tree_c 57 1280 w os, cE, pE) := by
  intro w
  intro os
  rw [PySem.W.Fast.te10110043849684766642]
  kernel_rfl
def MD (w : World) : Prop := ∀ os, segGoT treeTable pw w 11 ann0 1 49 (Sz tree_c 57 1280 w os) (piecesOf stsD env0 cE pE B0) = some (Sz tree_d 58 1287 w os, Td w os)
theorem md_false (w : World) : MD (w.withFollow "special-get-raises" false) := by
  intro os
  rw [PySem.W.Fast.te10295753902157049106]
  kernel_rfl
theorem md_true (w : World) : MD (w.withFollow "special-get-raises" true) := by
  intro os
  rw [PySem.W.Fast.te10295753902157049106]
  kernel_rfl
theorem md (w : World) : MD w := byRow2 "special-get-raises" (P := MD) md_false md_true w
def MG (w : World) : Prop := ∀ os, segGoT treeTable pw w 11 ann0 1 15 (Sz tree_f 60 1491 w os) (piecesOf stsF env0 cE pF B0) = some (Sz tree_g 61 1492 w os, Tg w os)
theorem mg_false (w : World) : MG (w.withFollow "special-get-raises" false) := by
  intro os
  rw [PySem.W.Fast.te10295753902157049106]
  kernel_rfl
theorem mg_true (w : World) : MG (w.withFollow "special-get-raises" true) := by
  intro os
  rw [PySem.W.Fast.te10295753902157049106]
  kernel_rfl
theorem mg (w : World) : MG w := byRow2 "special-get-raises" (P := MG) mg_false mg_true w
theorem de : ∀ (w : World) (os : OsState), segGoT treeTable pw w 11 ann0 1 1530 (Sz tree_d 58 1287 w os) (Td w os) = some (Sz tree_e 58 1389 w os, Te w os) := by
  intro w
  intro os
  rw [PySem.W.Fast.te10295753902157049106]
  kernel_rfl
theorem ef : ∀ (w : World) (os : OsState), segRunT treeTable pw w 11 ann0 1 1530 (Sz tree_e 58 1389 w os) (Te w os) = some (.next, Sz tree_f 60 1491 w os, cE, pF) := by
  intro w
  intro os
  rw [PySem.W.Fast.te10110043849684766642]
  kernel_rfl
theorem gi : ∀ (w : World) (os : OsState), segGoT treeTable pw w 11 ann0 1 2115 (Sz tree_g 61 1492 w os) (Tg w os) = some (Sz tree_i 61 1633 w os, Ti w os) := by
  intro w
  intro os
  rw [PySem.W.Fast.te10295753902157049106]
  kernel_rfl
theorem ih : ∀ (w : World) (os : OsState), segRunT treeTable pw w 11 ann0 1 2215 (Sz tree_i 61 1633 w os) (Ti w os) = some (.next, Sz tree_h 70 1784 w os, cE, pH) := by
  intro w
  intro os
  rw [PySem.W.Fast.te10110043849684766642]
  kernel_rfl
def RH (w : World) : Prop := ∀ os, segRunT treeTable pw w 11 ann0 1 340 (Sz tree_h 70 1784 w os) (piecesOf stsH env0 cE pH B0) = some (.next, Sz tree_z 107 1850 w os, cE, pD)
theorem r_h_false (w : World) : RH (w.withFollow "special-get-raises" false) := by
  intro os
  rw [PySem.W.Fast.te10110043849684766642]
  kernel_rfl
theorem r_h_true (w : World) : RH (w.withFollow "special-get-raises" true) := by
  intro os
  rw [PySem.W.Fast.te10110043849684766642]
  kernel_rfl
theorem r_h (w : World) : RH w := byRow2 "special-get-raises" (P := RH) r_h_false r_h_true w
theorem r_fin (w : World) (os : OsState) : topRun treeTable pw w 11 ann0 2 (Sz tree_z 107 1850 w os).abs ⟨doneF .next, cE, pD, B0⟩ = some ⟨heap_z w.params, Array.mk [], Drawn.mk 0 0 0 0, 1850, os⟩ := by
  kernel_rfl
theorem split0 : body0 = sts1 ++ (sts2 ++ (stsC ++ (stsD ++ (stsF ++ (stsH ++ []))))) := by
  kernel_rfl
theorem run_all (w : World) (os : OsState) : topRun treeTable pw w 11 ann0 (12 + (1 + (500 + (9600 + (120 + ((49 + (1530 + 1530)) + ((15 + (2115 + 2215)) + (340 + 2)))))))) (S0 w os) (topStub pw) = some ⟨heap_z w.params, Array.mk [], Drawn.mk 0 0 0 0, 1850, os⟩ :=
  go_top (r_pre w os) (piece_block (r_block w os) (split0 ▸ piece_app (segRun_of (r_1 w os)) (piece_app (r_2 w os) (piece_app (segRun_of (r_c w os)) (piece_app (seg_go (segGo_of (md w os)) (seg_go (segGo_of (de w os)) (segRun_of (ef w os)))) (piece_app (seg_go (segGo_of (mg w os)) (seg_go (segGo_of (gi w os)) (segRun_of (ih w os)))) (piece_app (segRun_of (r_h w os)) (piece_nil (r_fin w os)))))))))
noncomputable abbrev view : Program := { pw with main := { pw.main with body := viewBody } }
noncomputable abbrev kas : List Addr := nat_lit 2 :: nat_lit 3 :: nat_lit 6 :: nat_lit 15 :: nat_lit 22 :: nat_lit 23 :: nat_lit 24 :: nat_lit 25 :: nat_lit 28 :: nat_lit 35 :: nat_lit 36 :: nat_lit 37 :: nat_lit 40 :: nat_lit 42 :: nat_lit 43 :: nat_lit 45 :: nat_lit 46 :: nat_lit 49 :: nat_lit 54 :: nat_lit 56 :: nat_lit 63 :: nat_lit 65 :: nat_lit 66 :: nat_lit 68 :: nat_lit 69 :: nat_lit 71 :: nat_lit 75 :: nat_lit 76 :: nat_lit 78 :: nat_lit 79 :: nat_lit 81 :: nat_lit 82 :: nat_lit 83 :: nat_lit 85 :: nat_lit 86 :: nat_lit 88 :: nat_lit 89 :: nat_lit 90 :: nat_lit 93 :: nat_lit 94 :: nat_lit 95 :: nat_lit 97 :: nat_lit 98 :: nat_lit 100 :: nat_lit 101 :: nat_lit 102 :: nat_lit 105 :: nat_lit 106 :: []
theorem kas_ok (P : Params) : kas = (K P).map (·.1) := by kernel_rfl
noncomputable abbrev hook : Hook := kHook K kas kas_ok
noncomputable abbrev rw0 : OpenLaw := PySem.Challenge.rw_rw0036_01
noncomputable abbrev Xt0 (s : Shared) : Bool := xlAt view lv s && recOk (RowW.records rw0.row.toRowW) s
noncomputable abbrev Nz : Nat := nat_lit 35892
noncomputable abbrev sF (w : World) (os : OsState) : Shared := ⟨heap_z w.params, Array.mk [], Drawn.mk 0 0 0 0, 1850, os⟩
theorem l_open (w : World) : (fencedOpening treeTable pw w Nz).map (fun s => (s.heap, s.gens, s.drawn, s.toks)) = some (boot_heap w.params, Array.mk [], boot_drawn, boot_toks) := by
  unfold fencedOpening
  rw [PySem.W.Fast.te10274390034422433532, PySem.W.Fast.te14289696077712309145, PySem.W.Fast.te1435165496053646825]
  kernel_rfl
theorem l_size (w : World) : ((boot_heap w.params).isNs mainGlobals && (Array.mk ([] : List GenState)).size == 0, (boot_heap w.params).objs.size, (boot_heap w.params).nsMap mainGlobals "__annotations__") = (true, 11, ann0) := by
  rw [PySem.W.Fast.te8920871248978507458]
  kernel_rfl
theorem l_1 (w : World) (os : OsState) : (staticsOk (importedModules pw.main.body) (boot_heap w.params) (heap_z w.params) && namesBound pw (heap_z w.params) && gensDone (sF w os) && laidKept (boot_heap w.params) (heap_z w.params)) = true := by
  kernel_rfl
theorem l_3 (w : World) (os : OsState) : hook.obs (sF w os) = hook.val w := by
  kernel_rfl
theorem l_2 (w : World) (os : OsState) : openSeen view loose (importedModules pw.main.body) Xt0 true (sF w os) = openGood view loose := by
  rw [PySem.W.Fast.te4187177175401517315]
  kernel_rfl
theorem well_said : OpenLaw.wellSaid PySem.Challenge.rw_rw0036_01 = true := by
  rw [PySem.W.Fast.te9446332074065402090]
  kernel_rfl
theorem left_ok : LeftO pw view loose Xt0 hook.obs hook.val Nz true :=
  LeftO.of_pieces (H₀ := boot_heap) (H₁ := heap_z) (gs₀ := Array.mk []) (gs₁ := Array.mk []) (d₀ := boot_drawn) (d₁ := Drawn.mk 0 0 0 0) (k₀ := boot_toks) (k₁ := 1850) (m₀ := 11) (ann := ann0) (M := 12 + (1 + (500 + (9600 + (120 + ((49 + (1530 + 1530)) + ((15 + (2115 + 2215)) + (340 + 2))))))))
    l_open l_size run_all (by decide) (fun w => funext fun os => Prod.ext (l_1 w os) (Prod.ext (l_2 w os) (l_3 w os)))
end Mine
end THeadB
section TW9
open PySem PySem.W PySem.Calls PyProof.Rows
set_option maxRecDepth 100000
set_option maxHeartbeats 8000000
namespace Mine
set_option rowWalk.seconds 0
local macro_rules | `(tactic| k_mem) => `(tactic| first | assumption | exact List.mem_cons_self .. | (refine List.mem_cons_of_mem _ ?_; k_mem))
set_option hygiene false in
local macro_rules | `(tactic| walk_at "subscriptTail") => `(tactic| (k_here; (with_reducible show wpAny _ _ (subscriptTail (PySem.Expr.BinOp _ _ _ _) _ (Value.ref _) (Value.int _ _)) _ _ _); k_dflt (refine' itemP (P := CodeOk) ?iN ?ia ?ii ?i0 ?ih ?iz ?iP ?_ ?is; (case iN => k_asm); (case ia => k_mem); (case ii => (repeat (first | exact StrsAre.nil | apply StrsAre.cons))); (case i0 => exact fmod_0 (by decide)); (case ih => exact fmod_lt (by decide)); (case iz => exact Nat.le_of_ble_eq_true rfl); (case iP => exact codes_ok); (case is => with_unfolding_all rfl); k_whole; intro code tcode hcode; (have hcl : code.length = 3 := hcode.1); (rename News _ _ _ _ => nD'); (replace nD' := cb_drop (news := []) nD' (fun _ h => nomatch h)))))
set_option hygiene false in
local macro_rules | `(tactic| walk_at "subscriptTail") => `(tactic| (k_here; (with_reducible show wpAny _ _ (subscriptTail (PySem.Expr.List _ _) _ (Value.ref _) (Value.int _ _)) _ _ _); k_dflt (refine' itemP (P := FrontOk code) ?iN ?ia ?ii ?i0 ?ih ?iz ?iP ?_ ?is; (case iN => k_asm); (case ia => k_mem); (case ii => (repeat (first | exact StrsAre.nil | apply StrsAre.cons))); (case i0 => exact fmod_0 (by decide)); (case ih => exact fmod_lt (by decide)); (case iz => exact Nat.le_of_ble_eq_true rfl); (case iP => exact fronts_ok _); (case is => with_unfolding_all rfl); k_whole; intro front tfront hfront; (rename News _ _ _ _ => nD'); (replace nD' := cb_drop (news := []) nD' (fun _ h => nomatch h)))))
local macro_rules | `(tactic| walk_at "CompSrc") => `(tactic| (k_here; k_dflt (refine LCg.CompSrc.ledger (by rfl) (by k_asm) (by k_asm) (by k_mem) (by kcf_size) ?_; intro g'; (refine' kct_list (fun k => Txt.item SG (k.fmod 9)) (by first | assumption | l_ints) (fun k' t' I' oI' C' oC' D' m' ys' h' tk' E' hk' hC' hx' F' N' off' ne' hMark' => ?_) ?_); (all_goals (try (simp only [LCg.Off3, and_true] at off'))); kcf_last)))
set_option hygiene false in
local macro_rules | `(tactic| walk_at "call builtin:str.join") => `(tactic| (k_here; (try dsimp only); (with_reducible show wpAny _ _ (call (Value.builtin "str.join") [Value.str _ _, Value.ref _]) _ _ _); k_dflt (refine' joinT ?jN ?ja ?jc ?jn ?_; (case jN => k_asm); (case ja => k_mem); (case jc => assumption); (case jn => first | omega | (rw [List.length_take]; omega)); k_whole; intro text ttext ktext htl hts)))
local macro_rules | `(tactic| walk_at "pyIter ref") => `(tactic| (k_here; refine Mine.stop ?_))
local macro_rules | `(tactic| walk_at "KCtEl") => `(tactic| (k_dflt (refine' kct_el ?kce ?kcn ?kcy; (case kcn => exact rfl); (case kcy => exact rfl); (case kce => exact rfl))))
local macro_rules | `(tactic| walk_at "call builtin:str.join") => `(tactic| (k_here; (try dsimp only); (with_reducible show wpAny _ _ (call (Value.builtin "str.join") [Value.str _ _, Value.ref _]) _ _ _); k_dflt (refine' joinQ ?jN ?ja ?jc ?jn ?_; (case jN => k_asm); (case ja => k_mem); (case jc => assumption); (case jn => assumption); k_whole; intro yq tq kq hyq)))
local macro_rules | `(tactic| walk_at "call builtin:len") => `(tactic| (k_here; (try dsimp only); (with_reducible show wpAny _ _ (call (Value.builtin _) [Value.ref _]) _ _ _); k_dflt (refine' lenI ?lF ?la ?li ?lz ?_; (case lF => k_asm); (case la => assumption); (case li => assumption); (case lz => assumption); k_whole; intro _ _)))
local macro_rules | `(tactic| walk_at "binaryOp Mult ref int") => `(tactic| (k_here; (with_reducible show wpAny _ _ (binaryOp _ (Value.ref _) (Value.int _ _)) _ _ _); k_dflt (refine' mulS ?mF ?mN ?ma ?m0 ?m4 ?_; (case mF => k_asm); (case mN => k_asm); (case ma => k_mem); (case m0 => exact fmod_0 (by decide)); (case m4 => exact fmod_lt (by decide)); k_whole; intro D' rs' h' q' hq' hq3 F' N' l1 hS'; (try k_lt l1); (try k_sweep))))
local macro_rules | `(tactic| walk_at "call ref") => `(tactic| (k_here; (try dsimp only [List.nil_append, List.cons_append]); (with_reducible show wpAny _ _ (call (Value.ref 101) [Value.str _ _, Value.str _ _, Value.int _ _, Value.str _ _]) _ _ _); k_dflt (refine' heard_ok _ _ _ _ _ _ _ _ _ _ _ _ _ _ _ ?e1 ?e2 ?e3 ?e4 ?e5 ?e6 ?e7 _ _ _ _ _ _ _ _ _ _ _ _ _ _ _ _ ?k1 ?k2 ?k3 ?k4 ?k5 ?kX ?kT ?kK ?kd ?ku ?_; (case k1 => k_asm); (case k2 => k_asm); (case k3 => k_asm); (case k4 => k_asm); (case k5 => k_asm); (case kX => k_asm); (case kT => k_asm); (case kK => first | exact rfl | assumption); (case e7 => assumption); (case e1 => omega); (case e2 => omega); (case e3 => assumption); (case e4 => assumption); (case e5 => assumption); (case e6 => assumption); (case kd => ktr_room); (case ku => ktr_units); k_whole; intro t9 h9 tk9 F9 N9; (try dsimp only); (try k_fold))))
local macro_rules | `(tactic| walk_at "call ref") => `(tactic| (k_here; (try dsimp only [List.nil_append, List.cons_append]); (with_reducible show wpAny _ _ (call (Value.ref 94) [Value.str _ _, Value.str _ _, Value.int _ _, Value.ref _]) _ _ _); k_dflt (refine' due_ok _ _ _ _ _ _ _ _ ?e1 ?e2 _ _ ?e3 ?e4 _ _ ?e5 ?e6 _ _ _ _ _ ?e7 ?e8 ?e9 _ _ _ _ _ _ _ _ _ _ _ _ _ _ _ _ _ _ ?k1 ?k2 ?k3 ?k4 ?k5 ?kK ?kd ?ku ?kq ?_; (case k1 => k_asm); (case k2 => k_asm); (case k3 => k_asm); (case k4 => k_asm); (case k5 => k_asm); (case kK => first | exact rfl | assumption); (case kq => k_mem); (case e9 => assumption); (case e7 => exact rfl); (case e8 => assumption); (case e1 => assumption); (case e2 => assumption); (case e3 => assumption); (case e4 => assumption); (case e5 => omega); (case e6 => omega); (case kd => ktr_room); (case ku => ktr_units); k_whole; intro t9 h9 tk9 F9 N9; (try dsimp only); (try k_fold))))
local macro_rules | `(tactic| walk_at "compareOp NotEq") => `(tactic| (k_here; (with_reducible show wpAny _ _ (compareOp CmpOp.NotEq (resV _ _) (resV _ _)) _ _ _); (refine neR (both (by assumption)) ?_)))
local macro_rules | `(tactic| walk_at "InvEndN") => `(tactic| (k_dflt ((rename News _ _ _ _ => nE'); (rename Fr _ _ _ _ => fE'); (refine kF_end () fE' nE' (fun _ h => nomatch h) (by first | (intro p hp; kst_mem) | kst_anyIn) (by rfl) (by (dsimp only [KnownAt]; (repeat (refine ⟨some_of rfl rfl, ?_⟩)); exact trivial)) trivial))))
theorem law_ok : PySem.Challenge.rw_rw0036_01.Holds := by
  w_on
  refine holds_law well_said fun said => ?_
  refine holds_open (q := view) (loose := loose) (Xt := Xt0) (XP := XL view lv) (Yf := Hook.obs (kHook K kas kas_ok)) (Ya := Hook.val (kHook K kas kas_ok)) (YP := Hook.says (kHook K kas kas_ok)) (N := Nz) ?hl (Hook.of (kHook K kas kas_ok)) (Hook.keeps (kHook K kas kas_ok)) (fun s e => xl_of s (Bool.and_eq_true_iff.mp e).1) XL.keeps (by rfl) (by rfl) (by rfl) (fun s e => recFacts_of (Bool.and_eq_true_iff.mp e).2) (by rfl) (by first | assumption | decide +kernel) (by decide +kernel) ⟨rfl, rfl, rfl, rfl, rfl, by decide +kernel⟩ ?hw ?hc
  case hl => exact left_ok
  case hw => w_witness2
  k_with_none
  k_go0
  (all_goals try k_fold)
  k_steps
  all_goals (
    unfold Stop
    rename Fr _ _ _ _ => lF'
    rename News _ _ _ _ => lN'
    rename IsRange _ _ _ _ _ _ _ _ => rgX
    obtain ⟨body, tf, tt, sc, vs, ns, u1, F1, two, hsl, hsi, hsn⟩ : ∃ body tf tt sc vs ns u, Fr _ _ _ (kstB u [(Str.ofString "front", .str front tf), (Str.ofString "text", .str body tt), (Str.ofString "script", .ref sc)]) ∧ TwoOk front body ∧ PySem.Heap.IsList _ sc (List.toArray vs) ∧ IntsAre vs ns ∧ ns.length ≤ 63 :=
      ⟨_, _, _, _, _, _, _, fr_known lF' ⟨some_of rfl rfl, some_of rfl rfl, some_of rfl rfl, trivial⟩, by first | exact two_in hcode hfront (by with_reducible assumption) htl hts | exact two_out hcode hfront (by with_reducible assumption) htl hts, by assumption, by assumption, by omega⟩
    dsimp only [kstB] at F1
    refine' loopF_range (σ := Unit) (n := 9) (fun _ => []) (fun _ => [(Str.ofString "front", .str front tf), (Str.ofString "text", .str body tt), (Str.ofString "script", .ref sc)]) (fun _ _ => True) () rfl rgX ?ks ?kr ?kF ?kn ?kk ?kp ?_ ?_
    case ks => decide
    case kr => decide
    case kF => exact F1
    case kn => exact fun _ h => nomatch h
    case kk => exact ⟨some_of rfl rfl, some_of rfl rfl, some_of rfl rfl, trivial⟩
    case kp => exact True.intro
    · rintro ⟨⟩ i t u h tk own hi hoff - F2 N2
      have kMark := kstMark
      dsimp only [kstB] at F2
      rw [List.nil_append] at N2
      obtain ⟨fl, fs, tl', ts, op⟩ := two
      have tlow := Signs.low ts
      have hi8 : (i : Int) ≤ 8 := by omega
      clear F1 lF' lN'
      k_steps
    · rintro ⟨⟩ u h tk - F2 N2
      have kMark := kstMark
      dsimp only [kstB] at F2
      clear F1 lF' lN'
      k_steps)
end Mine
end TW9
theorem PySem.Challenge.cw_rw0036_01_holds : PySem.Challenge.rw_rw0036_01.Holds :=
  Mine.law_ok
