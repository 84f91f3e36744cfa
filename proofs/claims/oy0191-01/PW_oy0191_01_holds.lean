import PyProof.Rows.All
import Wide.All
import OpenK.AllK
import Wide.FinOn
import PyProof.Cells
import OpenK.KCall
import OpenK.KMore
import PyProof.CompFree
import PyProof.CompMap
import KE.KRevSl
import PyProof.Rows.StrNews2
import PyProof.StrCalls3
import PyProof.DictStraight
import PySem.Sem
import PyProof.StrBlock2
import PyProof.StrCalls6
import PyProof.StrCalls5
import PyProof.AutoIntOps
import KE.KSortTup
import PyProof.DictTable
import PyProof.DictRoads
import PyProof.DictCalls
import KE.KUnpack
import KE.KDictIter
import PyProof.StrWalks
import KE.KLam
import PyProof.Rows.StrJoin2
import PySem.Challenge.RW_oy0191_01
set_option Elab.async false
section
open PySem PySem.W PyProof.Rows
set_option Elab.async false
set_option maxRecDepth 100000
set_option maxHeartbeats 8000000
namespace Mine
/-- a def of the text -/
noncomputable def kD (i : Nat) : Stmt := PySem.Challenge.pw_oy0191_01.main.body.getD i (.Pass default)
noncomputable def kA (i : Nat) : Arguments := match kD i with | .FunctionDef _ a _ _ _ _ _ _ _ _ => a | _ => default
noncomputable def kB (i : Nat) : List Stmt := match kD i with | .FunctionDef _ _ b _ _ _ _ _ _ _ => b | _ => []
noncomputable def kS (i : Nat) : Scope := match kD i with | .FunctionDef _ _ _ _ _ _ s _ _ _ => s | _ => default
/-- what stands when the law is called, so far as it is used; printed by a program of mine -/
noncomputable def KF : Params → Frag := fun P => [
  (nat_lit 1, (@PySem.Obj.mk (@PySem.Value.type "dict") (@Option.none @Nat) (@PySem.Data.dict (@List.toArray @PySem.DictEntry (@List.cons @PySem.DictEntry (@PySem.DictEntry.mk (@PySem.PyData.keyHash P (@PySem.Str.ofString "builtins")) (@PySem.Value.str (@PySem.Str.ofString "builtins") (162 : Nat)) (@PySem.Value.ref (4 : Nat))) (@List.cons @PySem.DictEntry (@PySem.DictEntry.mk (@PySem.PyData.keyHash P (@PySem.Str.ofString "__main__")) (@PySem.Value.str (@PySem.Str.ofString "__main__") (163 : Nat)) (@PySem.Value.ref (5 : Nat))) (@List.nil @PySem.DictEntry)))) (2 : Nat)) (@List.toArray (@Option @PySem.Value) (@List.nil (@Option @PySem.Value))))),
  (nat_lit 2, (@PySem.Obj.mk @PySem.Value.none (@Option.none @Nat) (@PySem.Data.dict (@List.toArray @PySem.DictEntry (@List.nil @PySem.DictEntry)) (0 : Nat)) (@List.toArray (@Option @PySem.Value) (@List.nil (@Option @PySem.Value))))),
  (nat_lit 3, (@PySem.Obj.mk (@PySem.Value.type "dict") (@Option.none @Nat) (@PySem.Data.dict (@List.toArray @PySem.DictEntry (@List.cons @PySem.DictEntry (@PySem.DictEntry.mk (@PySem.PyData.keyHash P (@PySem.Str.ofString "__name__")) (@PySem.Value.str (@PySem.Str.ofString "__name__") (165 : Nat)) (@PySem.Value.str (@PySem.Str.ofString "law_oy0191_01") (309 : Nat))) (@List.cons @PySem.DictEntry (@PySem.DictEntry.mk (@PySem.PyData.keyHash P (@PySem.Str.ofString "__doc__")) (@PySem.Value.str (@PySem.Str.ofString "__doc__") (166 : Nat)) @PySem.Value.none) (@List.cons @PySem.DictEntry (@PySem.DictEntry.mk (@PySem.PyData.keyHash P (@PySem.Str.ofString "__package__")) (@PySem.Value.str (@PySem.Str.ofString "__package__") (167 : Nat)) @PySem.Value.none) (@List.cons @PySem.DictEntry (@PySem.DictEntry.mk (@PySem.PyData.keyHash P (@PySem.Str.ofString "__loader__")) (@PySem.Value.str (@PySem.Str.ofString "__loader__") (168 : Nat)) (@PySem.Value.builtin "__main__.__loader__#opaque")) (@List.cons @PySem.DictEntry (@PySem.DictEntry.mk (@PySem.PyData.keyHash P (@PySem.Str.ofString "__spec__")) (@PySem.Value.str (@PySem.Str.ofString "__spec__") (169 : Nat)) @PySem.Value.none) (@List.cons @PySem.DictEntry (@PySem.DictEntry.mk (@PySem.PyData.keyHash P (@PySem.Str.ofString "__annotations__")) (@PySem.Value.str (@PySem.Str.ofString "__annotations__") (170 : Nat)) (@PySem.Value.ref (6 : Nat))) (@List.cons @PySem.DictEntry (@PySem.DictEntry.mk (@PySem.PyData.keyHash P (@PySem.Str.ofString "__builtins__")) (@PySem.Value.str (@PySem.Str.ofString "__builtins__") (171 : Nat)) (@PySem.Value.ref (4 : Nat))) (@List.cons @PySem.DictEntry (@PySem.DictEntry.mk (@PySem.PyData.keyHash P (@PySem.Str.ofString "__file__")) (@PySem.Value.str (@PySem.Str.ofString "__file__") (173 : Nat)) (@PySem.Value.str (@PySem.Str.ofString "/claim/cut.py") (172 : Nat))) (@List.cons @PySem.DictEntry (@PySem.DictEntry.mk (@PySem.PyData.keyHash P (@PySem.Str.ofString "__cached__")) (@PySem.Value.str (@PySem.Str.ofString "__cached__") (174 : Nat)) @PySem.Value.none) (@List.cons @PySem.DictEntry (@PySem.DictEntry.mk (@PySem.PyData.keyHash P (@PySem.Str.ofString "heappop")) (@PySem.Value.str (@PySem.Str.ofString "heappop") (197 : Nat)) (@PySem.Value.ref (21 : Nat))) (@List.cons @PySem.DictEntry (@PySem.DictEntry.mk (@PySem.PyData.keyHash P (@PySem.Str.ofString "heapreplace")) (@PySem.Value.str (@PySem.Str.ofString "heapreplace") (206 : Nat)) (@PySem.Value.ref (28 : Nat))) (@List.cons @PySem.DictEntry (@PySem.DictEntry.mk (@PySem.PyData.keyHash P (@PySem.Str.ofString "heapify")) (@PySem.Value.str (@PySem.Str.ofString "heapify") (215 : Nat)) (@PySem.Value.ref (35 : Nat))) (@List.cons @PySem.DictEntry (@PySem.DictEntry.mk (@PySem.PyData.keyHash P (@PySem.Str.ofString "_siftdown")) (@PySem.Value.str (@PySem.Str.ofString "_siftdown") (227 : Nat)) (@PySem.Value.ref (42 : Nat))) (@List.cons @PySem.DictEntry (@PySem.DictEntry.mk (@PySem.PyData.keyHash P (@PySem.Str.ofString "_siftup")) (@PySem.Value.str (@PySem.Str.ofString "_siftup") (240 : Nat)) (@PySem.Value.ref (49 : Nat))) (@List.cons @PySem.DictEntry (@PySem.DictEntry.mk (@PySem.PyData.keyHash P (@PySem.Str.ofString "cmp_to_key")) (@PySem.Value.str (@PySem.Str.ofString "cmp_to_key") (251 : Nat)) (@PySem.Value.ref (56 : Nat))) (@List.cons @PySem.DictEntry (@PySem.DictEntry.mk (@PySem.PyData.keyHash P (@PySem.Str.ofString "_initial_missing")) (@PySem.Value.str (@PySem.Str.ofString "_initial_missing") (252 : Nat)) (@PySem.Value.ref (57 : Nat))) (@List.cons @PySem.DictEntry (@PySem.DictEntry.mk (@PySem.PyData.keyHash P (@PySem.Str.ofString "reduce")) (@PySem.Value.str (@PySem.Str.ofString "reduce") (264 : Nat)) (@PySem.Value.ref (65 : Nat))) (@List.cons @PySem.DictEntry (@PySem.DictEntry.mk (@PySem.PyData.keyHash P (@PySem.Str.ofString "_raise_serialization_error")) (@PySem.Value.str (@PySem.Str.ofString "_raise_serialization_error") (273 : Nat)) (@PySem.Value.ref (72 : Nat))) (@List.cons @PySem.DictEntry (@PySem.DictEntry.mk (@PySem.PyData.keyHash P (@PySem.Str.ofString "_escape_cdata")) (@PySem.Value.str (@PySem.Str.ofString "_escape_cdata") (280 : Nat)) (@PySem.Value.ref (79 : Nat))) (@List.cons @PySem.DictEntry (@PySem.DictEntry.mk (@PySem.PyData.keyHash P (@PySem.Str.ofString "_escape_attrib")) (@PySem.Value.str (@PySem.Str.ofString "_escape_attrib") (287 : Nat)) (@PySem.Value.ref (86 : Nat))) (@List.cons @PySem.DictEntry (@PySem.DictEntry.mk (@PySem.PyData.keyHash P (@PySem.Str.ofString "_escape_attrib_html")) (@PySem.Value.str (@PySem.Str.ofString "_escape_attrib_html") (294 : Nat)) (@PySem.Value.ref (93 : Nat))) (@List.cons @PySem.DictEntry (@PySem.DictEntry.mk (@PySem.PyData.keyHash P (@PySem.Str.ofString "_escape_cdata_c14n")) (@PySem.Value.str (@PySem.Str.ofString "_escape_cdata_c14n") (301 : Nat)) (@PySem.Value.ref (100 : Nat))) (@List.cons @PySem.DictEntry (@PySem.DictEntry.mk (@PySem.PyData.keyHash P (@PySem.Str.ofString "_escape_attrib_c14n")) (@PySem.Value.str (@PySem.Str.ofString "_escape_attrib_c14n") (308 : Nat)) (@PySem.Value.ref (107 : Nat))) (@List.cons @PySem.DictEntry (@PySem.DictEntry.mk (@PySem.PyData.keyHash P (@PySem.Str.ofString "_law_written")) (@PySem.Value.str (@PySem.Str.ofString "_law_written") (320 : Nat)) (@PySem.Value.ref (114 : Nat))) (@List.cons @PySem.DictEntry (@PySem.DictEntry.mk (@PySem.PyData.keyHash P (@PySem.Str.ofString "_law_later")) (@PySem.Value.str (@PySem.Str.ofString "_law_later") (329 : Nat)) (@PySem.Value.ref (121 : Nat))) (@List.cons @PySem.DictEntry (@PySem.DictEntry.mk (@PySem.PyData.keyHash P (@PySem.Str.ofString "_law_woven")) (@PySem.Value.str (@PySem.Str.ofString "_law_woven") (335 : Nat)) (@PySem.Value.ref (126 : Nat))) (@List.cons @PySem.DictEntry (@PySem.DictEntry.mk (@PySem.PyData.keyHash P (@PySem.Str.ofString "_law_read")) (@PySem.Value.str (@PySem.Str.ofString "_law_read") (345 : Nat)) (@PySem.Value.ref (133 : Nat))) (@List.cons @PySem.DictEntry (@PySem.DictEntry.mk (@PySem.PyData.keyHash P (@PySem.Str.ofString "law")) (@PySem.Value.str (@PySem.Str.ofString "law") (351 : Nat)) (@PySem.Value.ref (138 : Nat))) (@List.nil @PySem.DictEntry)))))))))))))))))))))))))))))) (28 : Nat)) (@List.toArray (@Option @PySem.Value) (@List.nil (@Option @PySem.Value))))),
  (nat_lit 4, (@PySem.Obj.mk (@PySem.Value.type "module") (@Option.some @Nat (0 : Nat)) @PySem.Data.plain (@List.toArray (@Option @PySem.Value) (@List.nil (@Option @PySem.Value))))),
  (nat_lit 15, (@PySem.Obj.mk (@PySem.Value.type "tuple") (@Option.none @Nat) (@PySem.Data.seq (@List.toArray @PySem.Value (@List.nil @PySem.Value)) (0 : Nat)) (@List.toArray (@Option @PySem.Value) (@List.nil (@Option @PySem.Value))))),
  (nat_lit 17, (@PySem.Obj.mk (@PySem.Value.type "tuple") (@Option.none @Nat) (@PySem.Data.seq (@List.toArray @PySem.Value (@List.cons @PySem.Value (@PySem.Value.str (@PySem.Str.ofString "heap") (192 : Nat)) (@List.cons @PySem.Value (@PySem.Value.str (@PySem.Str.ofString "lastelt") (193 : Nat)) (@List.cons @PySem.Value (@PySem.Value.str (@PySem.Str.ofString "returnitem") (194 : Nat)) (@List.nil @PySem.Value))))) (0 : Nat)) (@List.toArray (@Option @PySem.Value) (@List.nil (@Option @PySem.Value))))),
  (nat_lit 18, (@PySem.Obj.mk (@PySem.Value.type "tuple") (@Option.none @Nat) (@PySem.Data.seq (@List.toArray @PySem.Value (@List.nil @PySem.Value)) (0 : Nat)) (@List.toArray (@Option @PySem.Value) (@List.nil (@Option @PySem.Value))))),
  (nat_lit 20, (@PySem.Obj.mk (@PySem.Value.type "code") (@Option.none @Nat) (@PySem.Data.fields (@List.toArray @PySem.Value (@List.cons @PySem.Value (@PySem.Value.str (@PySem.Str.ofString "heappop") (189 : Nat)) (@List.cons @PySem.Value (@PySem.Value.str (@PySem.Str.ofString "heappop") (190 : Nat)) (@List.cons @PySem.Value (@PySem.Value.str (@PySem.Str.ofString "/claim/cut.py") (191 : Nat)) (@List.cons @PySem.Value (@PySem.Value.int (@OfNat.ofNat @Int (nat_lit 2) (@instOfNat (nat_lit 2))) (0 : Nat)) (@List.cons @PySem.Value (@PySem.Value.int (@OfNat.ofNat @Int (nat_lit 1) (@instOfNat (nat_lit 1))) (0 : Nat)) (@List.cons @PySem.Value (@PySem.Value.int (@OfNat.ofNat @Int (nat_lit 0) (@instOfNat (nat_lit 0))) (0 : Nat)) (@List.cons @PySem.Value (@PySem.Value.int (@OfNat.ofNat @Int (nat_lit 0) (@instOfNat (nat_lit 0))) (0 : Nat)) (@List.cons @PySem.Value (@PySem.Value.int (@OfNat.ofNat @Int (nat_lit 3) (@instOfNat (nat_lit 3))) (0 : Nat)) (@List.cons @PySem.Value (@PySem.Value.ref (15 : Nat)) (@List.cons @PySem.Value (@PySem.Value.bool @Bool.true) (@List.cons @PySem.Value (@PySem.Value.int (@OfNat.ofNat @Int (nat_lit 181) (@instOfNat (nat_lit 181))) (0 : Nat)) (@List.cons @PySem.Value (@PySem.Value.ref (16 : Nat)) (@List.cons @PySem.Value @PySem.Value.none (@List.cons @PySem.Value (@PySem.Value.ref (17 : Nat)) (@List.cons @PySem.Value (@PySem.Value.ref (18 : Nat)) (@List.cons @PySem.Value (@PySem.Value.ref (19 : Nat)) (@List.cons @PySem.Value (@PySem.Value.int (@OfNat.ofNat @Int (nat_lit 195) (@instOfNat (nat_lit 195))) (0 : Nat)) (@List.cons @PySem.Value (@PySem.Value.int (@OfNat.ofNat @Int (nat_lit 2) (@instOfNat (nat_lit 2))) (0 : Nat)) (@List.cons @PySem.Value (@PySem.Value.str (@PySem.Str.ofString "/claim/cut.py") (196 : Nat)) (@List.nil @PySem.Value)))))))))))))))))))))) (@List.toArray (@Option @PySem.Value) (@List.nil (@Option @PySem.Value))))),
  (nat_lit 21, (@PySem.Obj.mk (@PySem.Value.type "function") (@Option.none @Nat) (@PySem.Data.func (@PySem.FuncData.mk (@PySem.Str.ofString "heappop") (@PySem.Str.ofString "heappop") (kA 1) (@PySem.FuncBody.stmts (kB 1)) (kS 1) (3 : Nat) (@List.nil (@Prod @PySem.Str @Nat)) @PySem.Value.none @PySem.Value.none @PySem.Value.none (@PySem.Value.str (@PySem.Str.ofString "cpy313.heapq") (187 : Nat)) (@Option.none @Nat) (@PySem.Value.ref (20 : Nat)) @PySem.Value.none (0 : Nat))) (@List.toArray (@Option @PySem.Value) (@List.nil (@Option @PySem.Value))))),
  (nat_lit 22, (@PySem.Obj.mk (@PySem.Value.type "tuple") (@Option.none @Nat) (@PySem.Data.seq (@List.toArray @PySem.Value (@List.nil @PySem.Value)) (0 : Nat)) (@List.toArray (@Option @PySem.Value) (@List.nil (@Option @PySem.Value))))),
  (nat_lit 24, (@PySem.Obj.mk (@PySem.Value.type "tuple") (@Option.none @Nat) (@PySem.Data.seq (@List.toArray @PySem.Value (@List.cons @PySem.Value (@PySem.Value.str (@PySem.Str.ofString "heap") (201 : Nat)) (@List.cons @PySem.Value (@PySem.Value.str (@PySem.Str.ofString "item") (202 : Nat)) (@List.cons @PySem.Value (@PySem.Value.str (@PySem.Str.ofString "returnitem") (203 : Nat)) (@List.nil @PySem.Value))))) (0 : Nat)) (@List.toArray (@Option @PySem.Value) (@List.nil (@Option @PySem.Value))))),
  (nat_lit 25, (@PySem.Obj.mk (@PySem.Value.type "tuple") (@Option.none @Nat) (@PySem.Data.seq (@List.toArray @PySem.Value (@List.nil @PySem.Value)) (0 : Nat)) (@List.toArray (@Option @PySem.Value) (@List.nil (@Option @PySem.Value))))),
  (nat_lit 27, (@PySem.Obj.mk (@PySem.Value.type "code") (@Option.none @Nat) (@PySem.Data.fields (@List.toArray @PySem.Value (@List.cons @PySem.Value (@PySem.Value.str (@PySem.Str.ofString "heapreplace") (198 : Nat)) (@List.cons @PySem.Value (@PySem.Value.str (@PySem.Str.ofString "heapreplace") (199 : Nat)) (@List.cons @PySem.Value (@PySem.Value.str (@PySem.Str.ofString "/claim/cut.py") (200 : Nat)) (@List.cons @PySem.Value (@PySem.Value.int (@OfNat.ofNat @Int (nat_lit 10) (@instOfNat (nat_lit 10))) (0 : Nat)) (@List.cons @PySem.Value (@PySem.Value.int (@OfNat.ofNat @Int (nat_lit 2) (@instOfNat (nat_lit 2))) (0 : Nat)) (@List.cons @PySem.Value (@PySem.Value.int (@OfNat.ofNat @Int (nat_lit 0) (@instOfNat (nat_lit 0))) (0 : Nat)) (@List.cons @PySem.Value (@PySem.Value.int (@OfNat.ofNat @Int (nat_lit 0) (@instOfNat (nat_lit 0))) (0 : Nat)) (@List.cons @PySem.Value (@PySem.Value.int (@OfNat.ofNat @Int (nat_lit 3) (@instOfNat (nat_lit 3))) (0 : Nat)) (@List.cons @PySem.Value (@PySem.Value.ref (22 : Nat)) (@List.cons @PySem.Value (@PySem.Value.bool @Bool.true) (@List.cons @PySem.Value (@PySem.Value.int (@OfNat.ofNat @Int (nat_lit 181) (@instOfNat (nat_lit 181))) (0 : Nat)) (@List.cons @PySem.Value (@PySem.Value.ref (23 : Nat)) (@List.cons @PySem.Value @PySem.Value.none (@List.cons @PySem.Value (@PySem.Value.ref (24 : Nat)) (@List.cons @PySem.Value (@PySem.Value.ref (25 : Nat)) (@List.cons @PySem.Value (@PySem.Value.ref (26 : Nat)) (@List.cons @PySem.Value (@PySem.Value.int (@OfNat.ofNat @Int (nat_lit 204) (@instOfNat (nat_lit 204))) (0 : Nat)) (@List.cons @PySem.Value (@PySem.Value.int (@OfNat.ofNat @Int (nat_lit 10) (@instOfNat (nat_lit 10))) (0 : Nat)) (@List.cons @PySem.Value (@PySem.Value.str (@PySem.Str.ofString "/claim/cut.py") (205 : Nat)) (@List.nil @PySem.Value)))))))))))))))))))))) (@List.toArray (@Option @PySem.Value) (@List.nil (@Option @PySem.Value))))),
  (nat_lit 28, (@PySem.Obj.mk (@PySem.Value.type "function") (@Option.none @Nat) (@PySem.Data.func (@PySem.FuncData.mk (@PySem.Str.ofString "heapreplace") (@PySem.Str.ofString "heapreplace") (kA 2) (@PySem.FuncBody.stmts (kB 2)) (kS 2) (3 : Nat) (@List.nil (@Prod @PySem.Str @Nat)) @PySem.Value.none @PySem.Value.none @PySem.Value.none (@PySem.Value.str (@PySem.Str.ofString "cpy313.heapq") (187 : Nat)) (@Option.none @Nat) (@PySem.Value.ref (27 : Nat)) @PySem.Value.none (0 : Nat))) (@List.toArray (@Option @PySem.Value) (@List.nil (@Option @PySem.Value))))),
  (nat_lit 29, (@PySem.Obj.mk (@PySem.Value.type "tuple") (@Option.none @Nat) (@PySem.Data.seq (@List.toArray @PySem.Value (@List.nil @PySem.Value)) (0 : Nat)) (@List.toArray (@Option @PySem.Value) (@List.nil (@Option @PySem.Value))))),
  (nat_lit 31, (@PySem.Obj.mk (@PySem.Value.type "tuple") (@Option.none @Nat) (@PySem.Data.seq (@List.toArray @PySem.Value (@List.cons @PySem.Value (@PySem.Value.str (@PySem.Str.ofString "x") (210 : Nat)) (@List.cons @PySem.Value (@PySem.Value.str (@PySem.Str.ofString "n") (211 : Nat)) (@List.cons @PySem.Value (@PySem.Value.str (@PySem.Str.ofString "i") (212 : Nat)) (@List.nil @PySem.Value))))) (0 : Nat)) (@List.toArray (@Option @PySem.Value) (@List.nil (@Option @PySem.Value))))),
  (nat_lit 32, (@PySem.Obj.mk (@PySem.Value.type "tuple") (@Option.none @Nat) (@PySem.Data.seq (@List.toArray @PySem.Value (@List.nil @PySem.Value)) (0 : Nat)) (@List.toArray (@Option @PySem.Value) (@List.nil (@Option @PySem.Value))))),
  (nat_lit 34, (@PySem.Obj.mk (@PySem.Value.type "code") (@Option.none @Nat) (@PySem.Data.fields (@List.toArray @PySem.Value (@List.cons @PySem.Value (@PySem.Value.str (@PySem.Str.ofString "heapify") (207 : Nat)) (@List.cons @PySem.Value (@PySem.Value.str (@PySem.Str.ofString "heapify") (208 : Nat)) (@List.cons @PySem.Value (@PySem.Value.str (@PySem.Str.ofString "/claim/cut.py") (209 : Nat)) (@List.cons @PySem.Value (@PySem.Value.int (@OfNat.ofNat @Int (nat_lit 15) (@instOfNat (nat_lit 15))) (0 : Nat)) (@List.cons @PySem.Value (@PySem.Value.int (@OfNat.ofNat @Int (nat_lit 1) (@instOfNat (nat_lit 1))) (0 : Nat)) (@List.cons @PySem.Value (@PySem.Value.int (@OfNat.ofNat @Int (nat_lit 0) (@instOfNat (nat_lit 0))) (0 : Nat)) (@List.cons @PySem.Value (@PySem.Value.int (@OfNat.ofNat @Int (nat_lit 0) (@instOfNat (nat_lit 0))) (0 : Nat)) (@List.cons @PySem.Value (@PySem.Value.int (@OfNat.ofNat @Int (nat_lit 3) (@instOfNat (nat_lit 3))) (0 : Nat)) (@List.cons @PySem.Value (@PySem.Value.ref (29 : Nat)) (@List.cons @PySem.Value (@PySem.Value.bool @Bool.true) (@List.cons @PySem.Value (@PySem.Value.int (@OfNat.ofNat @Int (nat_lit 181) (@instOfNat (nat_lit 181))) (0 : Nat)) (@List.cons @PySem.Value (@PySem.Value.ref (30 : Nat)) (@List.cons @PySem.Value @PySem.Value.none (@List.cons @PySem.Value (@PySem.Value.ref (31 : Nat)) (@List.cons @PySem.Value (@PySem.Value.ref (32 : Nat)) (@List.cons @PySem.Value (@PySem.Value.ref (33 : Nat)) (@List.cons @PySem.Value (@PySem.Value.int (@OfNat.ofNat @Int (nat_lit 213) (@instOfNat (nat_lit 213))) (0 : Nat)) (@List.cons @PySem.Value (@PySem.Value.int (@OfNat.ofNat @Int (nat_lit 15) (@instOfNat (nat_lit 15))) (0 : Nat)) (@List.cons @PySem.Value (@PySem.Value.str (@PySem.Str.ofString "/claim/cut.py") (214 : Nat)) (@List.nil @PySem.Value)))))))))))))))))))))) (@List.toArray (@Option @PySem.Value) (@List.nil (@Option @PySem.Value))))),
  (nat_lit 35, (@PySem.Obj.mk (@PySem.Value.type "function") (@Option.none @Nat) (@PySem.Data.func (@PySem.FuncData.mk (@PySem.Str.ofString "heapify") (@PySem.Str.ofString "heapify") (kA 3) (@PySem.FuncBody.stmts (kB 3)) (kS 3) (3 : Nat) (@List.nil (@Prod @PySem.Str @Nat)) @PySem.Value.none @PySem.Value.none @PySem.Value.none (@PySem.Value.str (@PySem.Str.ofString "cpy313.heapq") (187 : Nat)) (@Option.none @Nat) (@PySem.Value.ref (34 : Nat)) @PySem.Value.none (0 : Nat))) (@List.toArray (@Option @PySem.Value) (@List.nil (@Option @PySem.Value))))),
  (nat_lit 36, (@PySem.Obj.mk (@PySem.Value.type "tuple") (@Option.none @Nat) (@PySem.Data.seq (@List.toArray @PySem.Value (@List.nil @PySem.Value)) (0 : Nat)) (@List.toArray (@Option @PySem.Value) (@List.nil (@Option @PySem.Value))))),
  (nat_lit 38, (@PySem.Obj.mk (@PySem.Value.type "tuple") (@Option.none @Nat) (@PySem.Data.seq (@List.toArray @PySem.Value (@List.cons @PySem.Value (@PySem.Value.str (@PySem.Str.ofString "heap") (219 : Nat)) (@List.cons @PySem.Value (@PySem.Value.str (@PySem.Str.ofString "startpos") (220 : Nat)) (@List.cons @PySem.Value (@PySem.Value.str (@PySem.Str.ofString "pos") (221 : Nat)) (@List.cons @PySem.Value (@PySem.Value.str (@PySem.Str.ofString "newitem") (222 : Nat)) (@List.cons @PySem.Value (@PySem.Value.str (@PySem.Str.ofString "parentpos") (223 : Nat)) (@List.cons @PySem.Value (@PySem.Value.str (@PySem.Str.ofString "parent") (224 : Nat)) (@List.nil @PySem.Value)))))))) (0 : Nat)) (@List.toArray (@Option @PySem.Value) (@List.nil (@Option @PySem.Value))))),
  (nat_lit 39, (@PySem.Obj.mk (@PySem.Value.type "tuple") (@Option.none @Nat) (@PySem.Data.seq (@List.toArray @PySem.Value (@List.nil @PySem.Value)) (0 : Nat)) (@List.toArray (@Option @PySem.Value) (@List.nil (@Option @PySem.Value))))),
  (nat_lit 41, (@PySem.Obj.mk (@PySem.Value.type "code") (@Option.none @Nat) (@PySem.Data.fields (@List.toArray @PySem.Value (@List.cons @PySem.Value (@PySem.Value.str (@PySem.Str.ofString "_siftdown") (216 : Nat)) (@List.cons @PySem.Value (@PySem.Value.str (@PySem.Str.ofString "_siftdown") (217 : Nat)) (@List.cons @PySem.Value (@PySem.Value.str (@PySem.Str.ofString "/claim/cut.py") (218 : Nat)) (@List.cons @PySem.Value (@PySem.Value.int (@OfNat.ofNat @Int (nat_lit 19) (@instOfNat (nat_lit 19))) (0 : Nat)) (@List.cons @PySem.Value (@PySem.Value.int (@OfNat.ofNat @Int (nat_lit 3) (@instOfNat (nat_lit 3))) (0 : Nat)) (@List.cons @PySem.Value (@PySem.Value.int (@OfNat.ofNat @Int (nat_lit 0) (@instOfNat (nat_lit 0))) (0 : Nat)) (@List.cons @PySem.Value (@PySem.Value.int (@OfNat.ofNat @Int (nat_lit 0) (@instOfNat (nat_lit 0))) (0 : Nat)) (@List.cons @PySem.Value (@PySem.Value.int (@OfNat.ofNat @Int (nat_lit 3) (@instOfNat (nat_lit 3))) (0 : Nat)) (@List.cons @PySem.Value (@PySem.Value.ref (36 : Nat)) (@List.cons @PySem.Value (@PySem.Value.bool @Bool.true) (@List.cons @PySem.Value (@PySem.Value.int (@OfNat.ofNat @Int (nat_lit 181) (@instOfNat (nat_lit 181))) (0 : Nat)) (@List.cons @PySem.Value (@PySem.Value.ref (37 : Nat)) (@List.cons @PySem.Value @PySem.Value.none (@List.cons @PySem.Value (@PySem.Value.ref (38 : Nat)) (@List.cons @PySem.Value (@PySem.Value.ref (39 : Nat)) (@List.cons @PySem.Value (@PySem.Value.ref (40 : Nat)) (@List.cons @PySem.Value (@PySem.Value.int (@OfNat.ofNat @Int (nat_lit 225) (@instOfNat (nat_lit 225))) (0 : Nat)) (@List.cons @PySem.Value (@PySem.Value.int (@OfNat.ofNat @Int (nat_lit 19) (@instOfNat (nat_lit 19))) (0 : Nat)) (@List.cons @PySem.Value (@PySem.Value.str (@PySem.Str.ofString "/claim/cut.py") (226 : Nat)) (@List.nil @PySem.Value)))))))))))))))))))))) (@List.toArray (@Option @PySem.Value) (@List.nil (@Option @PySem.Value))))),
  (nat_lit 42, (@PySem.Obj.mk (@PySem.Value.type "function") (@Option.none @Nat) (@PySem.Data.func (@PySem.FuncData.mk (@PySem.Str.ofString "_siftdown") (@PySem.Str.ofString "_siftdown") (kA 4) (@PySem.FuncBody.stmts (kB 4)) (kS 4) (3 : Nat) (@List.nil (@Prod @PySem.Str @Nat)) @PySem.Value.none @PySem.Value.none @PySem.Value.none (@PySem.Value.str (@PySem.Str.ofString "cpy313.heapq") (187 : Nat)) (@Option.none @Nat) (@PySem.Value.ref (41 : Nat)) @PySem.Value.none (0 : Nat))) (@List.toArray (@Option @PySem.Value) (@List.nil (@Option @PySem.Value))))),
  (nat_lit 43, (@PySem.Obj.mk (@PySem.Value.type "tuple") (@Option.none @Nat) (@PySem.Data.seq (@List.toArray @PySem.Value (@List.nil @PySem.Value)) (0 : Nat)) (@List.toArray (@Option @PySem.Value) (@List.nil (@Option @PySem.Value))))),
  (nat_lit 45, (@PySem.Obj.mk (@PySem.Value.type "tuple") (@Option.none @Nat) (@PySem.Data.seq (@List.toArray @PySem.Value (@List.cons @PySem.Value (@PySem.Value.str (@PySem.Str.ofString "heap") (231 : Nat)) (@List.cons @PySem.Value (@PySem.Value.str (@PySem.Str.ofString "pos") (232 : Nat)) (@List.cons @PySem.Value (@PySem.Value.str (@PySem.Str.ofString "endpos") (233 : Nat)) (@List.cons @PySem.Value (@PySem.Value.str (@PySem.Str.ofString "startpos") (234 : Nat)) (@List.cons @PySem.Value (@PySem.Value.str (@PySem.Str.ofString "newitem") (235 : Nat)) (@List.cons @PySem.Value (@PySem.Value.str (@PySem.Str.ofString "childpos") (236 : Nat)) (@List.cons @PySem.Value (@PySem.Value.str (@PySem.Str.ofString "rightpos") (237 : Nat)) (@List.nil @PySem.Value))))))))) (0 : Nat)) (@List.toArray (@Option @PySem.Value) (@List.nil (@Option @PySem.Value))))),
  (nat_lit 46, (@PySem.Obj.mk (@PySem.Value.type "tuple") (@Option.none @Nat) (@PySem.Data.seq (@List.toArray @PySem.Value (@List.nil @PySem.Value)) (0 : Nat)) (@List.toArray (@Option @PySem.Value) (@List.nil (@Option @PySem.Value))))),
  (nat_lit 48, (@PySem.Obj.mk (@PySem.Value.type "code") (@Option.none @Nat) (@PySem.Data.fields (@List.toArray @PySem.Value (@List.cons @PySem.Value (@PySem.Value.str (@PySem.Str.ofString "_siftup") (228 : Nat)) (@List.cons @PySem.Value (@PySem.Value.str (@PySem.Str.ofString "_siftup") (229 : Nat)) (@List.cons @PySem.Value (@PySem.Value.str (@PySem.Str.ofString "/claim/cut.py") (230 : Nat)) (@List.cons @PySem.Value (@PySem.Value.int (@OfNat.ofNat @Int (nat_lit 30) (@instOfNat (nat_lit 30))) (0 : Nat)) (@List.cons @PySem.Value (@PySem.Value.int (@OfNat.ofNat @Int (nat_lit 2) (@instOfNat (nat_lit 2))) (0 : Nat)) (@List.cons @PySem.Value (@PySem.Value.int (@OfNat.ofNat @Int (nat_lit 0) (@instOfNat (nat_lit 0))) (0 : Nat)) (@List.cons @PySem.Value (@PySem.Value.int (@OfNat.ofNat @Int (nat_lit 0) (@instOfNat (nat_lit 0))) (0 : Nat)) (@List.cons @PySem.Value (@PySem.Value.int (@OfNat.ofNat @Int (nat_lit 3) (@instOfNat (nat_lit 3))) (0 : Nat)) (@List.cons @PySem.Value (@PySem.Value.ref (43 : Nat)) (@List.cons @PySem.Value (@PySem.Value.bool @Bool.true) (@List.cons @PySem.Value (@PySem.Value.int (@OfNat.ofNat @Int (nat_lit 181) (@instOfNat (nat_lit 181))) (0 : Nat)) (@List.cons @PySem.Value (@PySem.Value.ref (44 : Nat)) (@List.cons @PySem.Value @PySem.Value.none (@List.cons @PySem.Value (@PySem.Value.ref (45 : Nat)) (@List.cons @PySem.Value (@PySem.Value.ref (46 : Nat)) (@List.cons @PySem.Value (@PySem.Value.ref (47 : Nat)) (@List.cons @PySem.Value (@PySem.Value.int (@OfNat.ofNat @Int (nat_lit 238) (@instOfNat (nat_lit 238))) (0 : Nat)) (@List.cons @PySem.Value (@PySem.Value.int (@OfNat.ofNat @Int (nat_lit 30) (@instOfNat (nat_lit 30))) (0 : Nat)) (@List.cons @PySem.Value (@PySem.Value.str (@PySem.Str.ofString "/claim/cut.py") (239 : Nat)) (@List.nil @PySem.Value)))))))))))))))))))))) (@List.toArray (@Option @PySem.Value) (@List.nil (@Option @PySem.Value))))),
  (nat_lit 49, (@PySem.Obj.mk (@PySem.Value.type "function") (@Option.none @Nat) (@PySem.Data.func (@PySem.FuncData.mk (@PySem.Str.ofString "_siftup") (@PySem.Str.ofString "_siftup") (kA 5) (@PySem.FuncBody.stmts (kB 5)) (kS 5) (3 : Nat) (@List.nil (@Prod @PySem.Str @Nat)) @PySem.Value.none @PySem.Value.none @PySem.Value.none (@PySem.Value.str (@PySem.Str.ofString "cpy313.heapq") (187 : Nat)) (@Option.none @Nat) (@PySem.Value.ref (48 : Nat)) @PySem.Value.none (0 : Nat))) (@List.toArray (@Option @PySem.Value) (@List.nil (@Option @PySem.Value))))),
  (nat_lit 50, (@PySem.Obj.mk (@PySem.Value.type "tuple") (@Option.none @Nat) (@PySem.Data.seq (@List.toArray @PySem.Value (@List.nil @PySem.Value)) (0 : Nat)) (@List.toArray (@Option @PySem.Value) (@List.nil (@Option @PySem.Value))))),
  (nat_lit 51, (@PySem.Obj.mk @PySem.Value.none (@Option.none @Nat) (@PySem.Data.fields (@List.toArray @PySem.Value (@List.nil @PySem.Value))) (@List.toArray (@Option @PySem.Value) (@List.nil (@Option @PySem.Value))))),
  (nat_lit 52, (@PySem.Obj.mk (@PySem.Value.type "tuple") (@Option.none @Nat) (@PySem.Data.seq (@List.toArray @PySem.Value (@List.cons @PySem.Value (@PySem.Value.str (@PySem.Str.ofString "mycmp") (246 : Nat)) (@List.cons @PySem.Value (@PySem.Value.str (@PySem.Str.ofString "K") (247 : Nat)) (@List.nil @PySem.Value)))) (0 : Nat)) (@List.toArray (@Option @PySem.Value) (@List.nil (@Option @PySem.Value))))),
  (nat_lit 53, (@PySem.Obj.mk (@PySem.Value.type "tuple") (@Option.none @Nat) (@PySem.Data.seq (@List.toArray @PySem.Value (@List.cons @PySem.Value (@PySem.Value.str (@PySem.Str.ofString "mycmp") (248 : Nat)) (@List.nil @PySem.Value))) (0 : Nat)) (@List.toArray (@Option @PySem.Value) (@List.nil (@Option @PySem.Value))))),
  (nat_lit 55, (@PySem.Obj.mk (@PySem.Value.type "code") (@Option.none @Nat) (@PySem.Data.fields (@List.toArray @PySem.Value (@List.cons @PySem.Value (@PySem.Value.str (@PySem.Str.ofString "cmp_to_key") (243 : Nat)) (@List.cons @PySem.Value (@PySem.Value.str (@PySem.Str.ofString "cmp_to_key") (244 : Nat)) (@List.cons @PySem.Value (@PySem.Value.str (@PySem.Str.ofString "/claim/cut.py") (245 : Nat)) (@List.cons @PySem.Value (@PySem.Value.int (@OfNat.ofNat @Int (nat_lit 45) (@instOfNat (nat_lit 45))) (0 : Nat)) (@List.cons @PySem.Value (@PySem.Value.int (@OfNat.ofNat @Int (nat_lit 1) (@instOfNat (nat_lit 1))) (0 : Nat)) (@List.cons @PySem.Value (@PySem.Value.int (@OfNat.ofNat @Int (nat_lit 0) (@instOfNat (nat_lit 0))) (0 : Nat)) (@List.cons @PySem.Value (@PySem.Value.int (@OfNat.ofNat @Int (nat_lit 0) (@instOfNat (nat_lit 0))) (0 : Nat)) (@List.cons @PySem.Value (@PySem.Value.int (@OfNat.ofNat @Int (nat_lit 3) (@instOfNat (nat_lit 3))) (0 : Nat)) (@List.cons @PySem.Value (@PySem.Value.ref (50 : Nat)) (@List.cons @PySem.Value (@PySem.Value.bool @Bool.true) (@List.cons @PySem.Value (@PySem.Value.int (@OfNat.ofNat @Int (nat_lit 181) (@instOfNat (nat_lit 181))) (0 : Nat)) (@List.cons @PySem.Value (@PySem.Value.ref (51 : Nat)) (@List.cons @PySem.Value @PySem.Value.none (@List.cons @PySem.Value (@PySem.Value.ref (52 : Nat)) (@List.cons @PySem.Value (@PySem.Value.ref (53 : Nat)) (@List.cons @PySem.Value (@PySem.Value.ref (54 : Nat)) (@List.cons @PySem.Value (@PySem.Value.int (@OfNat.ofNat @Int (nat_lit 249) (@instOfNat (nat_lit 249))) (0 : Nat)) (@List.cons @PySem.Value (@PySem.Value.int (@OfNat.ofNat @Int (nat_lit 45) (@instOfNat (nat_lit 45))) (0 : Nat)) (@List.cons @PySem.Value (@PySem.Value.str (@PySem.Str.ofString "/claim/cut.py") (250 : Nat)) (@List.nil @PySem.Value)))))))))))))))))))))) (@List.toArray (@Option @PySem.Value) (@List.nil (@Option @PySem.Value))))),
  (nat_lit 56, (@PySem.Obj.mk (@PySem.Value.type "function") (@Option.none @Nat) (@PySem.Data.func (@PySem.FuncData.mk (@PySem.Str.ofString "cmp_to_key") (@PySem.Str.ofString "cmp_to_key") (kA 7) (@PySem.FuncBody.stmts (kB 7)) (kS 7) (3 : Nat) (@List.nil (@Prod @PySem.Str @Nat)) @PySem.Value.none @PySem.Value.none @PySem.Value.none (@PySem.Value.str (@PySem.Str.ofString "cpy313.functools") (241 : Nat)) (@Option.none @Nat) (@PySem.Value.ref (55 : Nat)) @PySem.Value.none (0 : Nat))) (@List.toArray (@Option @PySem.Value) (@List.nil (@Option @PySem.Value))))),
  (nat_lit 57, (@PySem.Obj.mk (@PySem.Value.type "object") (@Option.none @Nat) @PySem.Data.plain (@List.toArray (@Option @PySem.Value) (@List.nil (@Option @PySem.Value))))),
  (nat_lit 58, (@PySem.Obj.mk (@PySem.Value.type "tuple") (@Option.none @Nat) (@PySem.Data.seq (@List.toArray @PySem.Value (@List.cons @PySem.Value (@PySem.Value.ref (57 : Nat)) (@List.nil @PySem.Value))) (0 : Nat)) (@List.toArray (@Option @PySem.Value) (@List.nil (@Option @PySem.Value))))),
  (nat_lit 59, (@PySem.Obj.mk (@PySem.Value.type "tuple") (@Option.none @Nat) (@PySem.Data.seq (@List.toArray @PySem.Value (@List.nil @PySem.Value)) (0 : Nat)) (@List.toArray (@Option @PySem.Value) (@List.nil (@Option @PySem.Value))))),
  (nat_lit 61, (@PySem.Obj.mk (@PySem.Value.type "tuple") (@Option.none @Nat) (@PySem.Data.seq (@List.toArray @PySem.Value (@List.cons @PySem.Value (@PySem.Value.str (@PySem.Str.ofString "function") (256 : Nat)) (@List.cons @PySem.Value (@PySem.Value.str (@PySem.Str.ofString "sequence") (257 : Nat)) (@List.cons @PySem.Value (@PySem.Value.str (@PySem.Str.ofString "initial") (258 : Nat)) (@List.cons @PySem.Value (@PySem.Value.str (@PySem.Str.ofString "it") (259 : Nat)) (@List.cons @PySem.Value (@PySem.Value.str (@PySem.Str.ofString "value") (260 : Nat)) (@List.cons @PySem.Value (@PySem.Value.str (@PySem.Str.ofString "element") (261 : Nat)) (@List.nil @PySem.Value)))))))) (0 : Nat)) (@List.toArray (@Option @PySem.Value) (@List.nil (@Option @PySem.Value))))),
  (nat_lit 62, (@PySem.Obj.mk (@PySem.Value.type "tuple") (@Option.none @Nat) (@PySem.Data.seq (@List.toArray @PySem.Value (@List.nil @PySem.Value)) (0 : Nat)) (@List.toArray (@Option @PySem.Value) (@List.nil (@Option @PySem.Value))))),
  (nat_lit 64, (@PySem.Obj.mk (@PySem.Value.type "code") (@Option.none @Nat) (@PySem.Data.fields (@List.toArray @PySem.Value (@List.cons @PySem.Value (@PySem.Value.str (@PySem.Str.ofString "reduce") (253 : Nat)) (@List.cons @PySem.Value (@PySem.Value.str (@PySem.Str.ofString "reduce") (254 : Nat)) (@List.cons @PySem.Value (@PySem.Value.str (@PySem.Str.ofString "/claim/cut.py") (255 : Nat)) (@List.cons @PySem.Value (@PySem.Value.int (@OfNat.ofNat @Int (nat_lit 71) (@instOfNat (nat_lit 71))) (0 : Nat)) (@List.cons @PySem.Value (@PySem.Value.int (@OfNat.ofNat @Int (nat_lit 3) (@instOfNat (nat_lit 3))) (0 : Nat)) (@List.cons @PySem.Value (@PySem.Value.int (@OfNat.ofNat @Int (nat_lit 0) (@instOfNat (nat_lit 0))) (0 : Nat)) (@List.cons @PySem.Value (@PySem.Value.int (@OfNat.ofNat @Int (nat_lit 0) (@instOfNat (nat_lit 0))) (0 : Nat)) (@List.cons @PySem.Value (@PySem.Value.int (@OfNat.ofNat @Int (nat_lit 3) (@instOfNat (nat_lit 3))) (0 : Nat)) (@List.cons @PySem.Value (@PySem.Value.ref (59 : Nat)) (@List.cons @PySem.Value (@PySem.Value.bool @Bool.true) (@List.cons @PySem.Value (@PySem.Value.int (@OfNat.ofNat @Int (nat_lit 181) (@instOfNat (nat_lit 181))) (0 : Nat)) (@List.cons @PySem.Value (@PySem.Value.ref (60 : Nat)) (@List.cons @PySem.Value @PySem.Value.none (@List.cons @PySem.Value (@PySem.Value.ref (61 : Nat)) (@List.cons @PySem.Value (@PySem.Value.ref (62 : Nat)) (@List.cons @PySem.Value (@PySem.Value.ref (63 : Nat)) (@List.cons @PySem.Value (@PySem.Value.int (@OfNat.ofNat @Int (nat_lit 262) (@instOfNat (nat_lit 262))) (0 : Nat)) (@List.cons @PySem.Value (@PySem.Value.int (@OfNat.ofNat @Int (nat_lit 71) (@instOfNat (nat_lit 71))) (0 : Nat)) (@List.cons @PySem.Value (@PySem.Value.str (@PySem.Str.ofString "/claim/cut.py") (263 : Nat)) (@List.nil @PySem.Value)))))))))))))))))))))) (@List.toArray (@Option @PySem.Value) (@List.nil (@Option @PySem.Value))))),
  (nat_lit 65, (@PySem.Obj.mk (@PySem.Value.type "function") (@Option.none @Nat) (@PySem.Data.func (@PySem.FuncData.mk (@PySem.Str.ofString "reduce") (@PySem.Str.ofString "reduce") (kA 9) (@PySem.FuncBody.stmts (kB 9)) (kS 9) (3 : Nat) (@List.nil (@Prod @PySem.Str @Nat)) (@PySem.Value.ref (58 : Nat)) @PySem.Value.none @PySem.Value.none (@PySem.Value.str (@PySem.Str.ofString "cpy313.functools") (241 : Nat)) (@Option.none @Nat) (@PySem.Value.ref (64 : Nat)) @PySem.Value.none (0 : Nat))) (@List.toArray (@Option @PySem.Value) (@List.nil (@Option @PySem.Value))))),
  (nat_lit 66, (@PySem.Obj.mk (@PySem.Value.type "tuple") (@Option.none @Nat) (@PySem.Data.seq (@List.toArray @PySem.Value (@List.nil @PySem.Value)) (0 : Nat)) (@List.toArray (@Option @PySem.Value) (@List.nil (@Option @PySem.Value))))),
  (nat_lit 68, (@PySem.Obj.mk (@PySem.Value.type "tuple") (@Option.none @Nat) (@PySem.Data.seq (@List.toArray @PySem.Value (@List.cons @PySem.Value (@PySem.Value.str (@PySem.Str.ofString "text") (270 : Nat)) (@List.nil @PySem.Value))) (0 : Nat)) (@List.toArray (@Option @PySem.Value) (@List.nil (@Option @PySem.Value))))),
  (nat_lit 69, (@PySem.Obj.mk (@PySem.Value.type "tuple") (@Option.none @Nat) (@PySem.Data.seq (@List.toArray @PySem.Value (@List.nil @PySem.Value)) (0 : Nat)) (@List.toArray (@Option @PySem.Value) (@List.nil (@Option @PySem.Value))))),
  (nat_lit 71, (@PySem.Obj.mk (@PySem.Value.type "code") (@Option.none @Nat) (@PySem.Data.fields (@List.toArray @PySem.Value (@List.cons @PySem.Value (@PySem.Value.str (@PySem.Str.ofString "_raise_serialization_error") (267 : Nat)) (@List.cons @PySem.Value (@PySem.Value.str (@PySem.Str.ofString "_raise_serialization_error") (268 : Nat)) (@List.cons @PySem.Value (@PySem.Value.str (@PySem.Str.ofString "/claim/cut.py") (269 : Nat)) (@List.cons @PySem.Value (@PySem.Value.int (@OfNat.ofNat @Int (nat_lit 84) (@instOfNat (nat_lit 84))) (0 : Nat)) (@List.cons @PySem.Value (@PySem.Value.int (@OfNat.ofNat @Int (nat_lit 1) (@instOfNat (nat_lit 1))) (0 : Nat)) (@List.cons @PySem.Value (@PySem.Value.int (@OfNat.ofNat @Int (nat_lit 0) (@instOfNat (nat_lit 0))) (0 : Nat)) (@List.cons @PySem.Value (@PySem.Value.int (@OfNat.ofNat @Int (nat_lit 0) (@instOfNat (nat_lit 0))) (0 : Nat)) (@List.cons @PySem.Value (@PySem.Value.int (@OfNat.ofNat @Int (nat_lit 3) (@instOfNat (nat_lit 3))) (0 : Nat)) (@List.cons @PySem.Value (@PySem.Value.ref (66 : Nat)) (@List.cons @PySem.Value (@PySem.Value.bool @Bool.true) (@List.cons @PySem.Value (@PySem.Value.int (@OfNat.ofNat @Int (nat_lit 181) (@instOfNat (nat_lit 181))) (0 : Nat)) (@List.cons @PySem.Value (@PySem.Value.ref (67 : Nat)) (@List.cons @PySem.Value @PySem.Value.none (@List.cons @PySem.Value (@PySem.Value.ref (68 : Nat)) (@List.cons @PySem.Value (@PySem.Value.ref (69 : Nat)) (@List.cons @PySem.Value (@PySem.Value.ref (70 : Nat)) (@List.cons @PySem.Value (@PySem.Value.int (@OfNat.ofNat @Int (nat_lit 271) (@instOfNat (nat_lit 271))) (0 : Nat)) (@List.cons @PySem.Value (@PySem.Value.int (@OfNat.ofNat @Int (nat_lit 84) (@instOfNat (nat_lit 84))) (0 : Nat)) (@List.cons @PySem.Value (@PySem.Value.str (@PySem.Str.ofString "/claim/cut.py") (272 : Nat)) (@List.nil @PySem.Value)))))))))))))))))))))) (@List.toArray (@Option @PySem.Value) (@List.nil (@Option @PySem.Value))))),
  (nat_lit 72, (@PySem.Obj.mk (@PySem.Value.type "function") (@Option.none @Nat) (@PySem.Data.func (@PySem.FuncData.mk (@PySem.Str.ofString "_raise_serialization_error") (@PySem.Str.ofString "_raise_serialization_error") (kA 11) (@PySem.FuncBody.stmts (kB 11)) (kS 11) (3 : Nat) (@List.nil (@Prod @PySem.Str @Nat)) @PySem.Value.none @PySem.Value.none @PySem.Value.none (@PySem.Value.str (@PySem.Str.ofString "cpy313.xml.etree.ElementTree") (265 : Nat)) (@Option.none @Nat) (@PySem.Value.ref (71 : Nat)) @PySem.Value.none (0 : Nat))) (@List.toArray (@Option @PySem.Value) (@List.nil (@Option @PySem.Value))))),
  (nat_lit 73, (@PySem.Obj.mk (@PySem.Value.type "tuple") (@Option.none @Nat) (@PySem.Data.seq (@List.toArray @PySem.Value (@List.nil @PySem.Value)) (0 : Nat)) (@List.toArray (@Option @PySem.Value) (@List.nil (@Option @PySem.Value))))),
  (nat_lit 75, (@PySem.Obj.mk (@PySem.Value.type "tuple") (@Option.none @Nat) (@PySem.Data.seq (@List.toArray @PySem.Value (@List.cons @PySem.Value (@PySem.Value.str (@PySem.Str.ofString "text") (277 : Nat)) (@List.nil @PySem.Value))) (0 : Nat)) (@List.toArray (@Option @PySem.Value) (@List.nil (@Option @PySem.Value))))),
  (nat_lit 76, (@PySem.Obj.mk (@PySem.Value.type "tuple") (@Option.none @Nat) (@PySem.Data.seq (@List.toArray @PySem.Value (@List.nil @PySem.Value)) (0 : Nat)) (@List.toArray (@Option @PySem.Value) (@List.nil (@Option @PySem.Value))))),
  (nat_lit 78, (@PySem.Obj.mk (@PySem.Value.type "code") (@Option.none @Nat) (@PySem.Data.fields (@List.toArray @PySem.Value (@List.cons @PySem.Value (@PySem.Value.str (@PySem.Str.ofString "_escape_cdata") (274 : Nat)) (@List.cons @PySem.Value (@PySem.Value.str (@PySem.Str.ofString "_escape_cdata") (275 : Nat)) (@List.cons @PySem.Value (@PySem.Value.str (@PySem.Str.ofString "/claim/cut.py") (276 : Nat)) (@List.cons @PySem.Value (@PySem.Value.int (@OfNat.ofNat @Int (nat_lit 86) (@instOfNat (nat_lit 86))) (0 : Nat)) (@List.cons @PySem.Value (@PySem.Value.int (@OfNat.ofNat @Int (nat_lit 1) (@instOfNat (nat_lit 1))) (0 : Nat)) (@List.cons @PySem.Value (@PySem.Value.int (@OfNat.ofNat @Int (nat_lit 0) (@instOfNat (nat_lit 0))) (0 : Nat)) (@List.cons @PySem.Value (@PySem.Value.int (@OfNat.ofNat @Int (nat_lit 0) (@instOfNat (nat_lit 0))) (0 : Nat)) (@List.cons @PySem.Value (@PySem.Value.int (@OfNat.ofNat @Int (nat_lit 3) (@instOfNat (nat_lit 3))) (0 : Nat)) (@List.cons @PySem.Value (@PySem.Value.ref (73 : Nat)) (@List.cons @PySem.Value (@PySem.Value.bool @Bool.true) (@List.cons @PySem.Value (@PySem.Value.int (@OfNat.ofNat @Int (nat_lit 181) (@instOfNat (nat_lit 181))) (0 : Nat)) (@List.cons @PySem.Value (@PySem.Value.ref (74 : Nat)) (@List.cons @PySem.Value @PySem.Value.none (@List.cons @PySem.Value (@PySem.Value.ref (75 : Nat)) (@List.cons @PySem.Value (@PySem.Value.ref (76 : Nat)) (@List.cons @PySem.Value (@PySem.Value.ref (77 : Nat)) (@List.cons @PySem.Value (@PySem.Value.int (@OfNat.ofNat @Int (nat_lit 278) (@instOfNat (nat_lit 278))) (0 : Nat)) (@List.cons @PySem.Value (@PySem.Value.int (@OfNat.ofNat @Int (nat_lit 86) (@instOfNat (nat_lit 86))) (0 : Nat)) (@List.cons @PySem.Value (@PySem.Value.str (@PySem.Str.ofString "/claim/cut.py") (279 : Nat)) (@List.nil @PySem.Value)))))))))))))))))))))) (@List.toArray (@Option @PySem.Value) (@List.nil (@Option @PySem.Value))))),
  (nat_lit 79, (@PySem.Obj.mk (@PySem.Value.type "function") (@Option.none @Nat) (@PySem.Data.func (@PySem.FuncData.mk (@PySem.Str.ofString "_escape_cdata") (@PySem.Str.ofString "_escape_cdata") (kA 12) (@PySem.FuncBody.stmts (kB 12)) (kS 12) (3 : Nat) (@List.nil (@Prod @PySem.Str @Nat)) @PySem.Value.none @PySem.Value.none @PySem.Value.none (@PySem.Value.str (@PySem.Str.ofString "cpy313.xml.etree.ElementTree") (265 : Nat)) (@Option.none @Nat) (@PySem.Value.ref (78 : Nat)) @PySem.Value.none (0 : Nat))) (@List.toArray (@Option @PySem.Value) (@List.nil (@Option @PySem.Value))))),
  (nat_lit 80, (@PySem.Obj.mk (@PySem.Value.type "tuple") (@Option.none @Nat) (@PySem.Data.seq (@List.toArray @PySem.Value (@List.nil @PySem.Value)) (0 : Nat)) (@List.toArray (@Option @PySem.Value) (@List.nil (@Option @PySem.Value))))),
  (nat_lit 82, (@PySem.Obj.mk (@PySem.Value.type "tuple") (@Option.none @Nat) (@PySem.Data.seq (@List.toArray @PySem.Value (@List.cons @PySem.Value (@PySem.Value.str (@PySem.Str.ofString "text") (284 : Nat)) (@List.nil @PySem.Value))) (0 : Nat)) (@List.toArray (@Option @PySem.Value) (@List.nil (@Option @PySem.Value))))),
  (nat_lit 83, (@PySem.Obj.mk (@PySem.Value.type "tuple") (@Option.none @Nat) (@PySem.Data.seq (@List.toArray @PySem.Value (@List.nil @PySem.Value)) (0 : Nat)) (@List.toArray (@Option @PySem.Value) (@List.nil (@Option @PySem.Value))))),
  (nat_lit 85, (@PySem.Obj.mk (@PySem.Value.type "code") (@Option.none @Nat) (@PySem.Data.fields (@List.toArray @PySem.Value (@List.cons @PySem.Value (@PySem.Value.str (@PySem.Str.ofString "_escape_attrib") (281 : Nat)) (@List.cons @PySem.Value (@PySem.Value.str (@PySem.Str.ofString "_escape_attrib") (282 : Nat)) (@List.cons @PySem.Value (@PySem.Value.str (@PySem.Str.ofString "/claim/cut.py") (283 : Nat)) (@List.cons @PySem.Value (@PySem.Value.int (@OfNat.ofNat @Int (nat_lit 97) (@instOfNat (nat_lit 97))) (0 : Nat)) (@List.cons @PySem.Value (@PySem.Value.int (@OfNat.ofNat @Int (nat_lit 1) (@instOfNat (nat_lit 1))) (0 : Nat)) (@List.cons @PySem.Value (@PySem.Value.int (@OfNat.ofNat @Int (nat_lit 0) (@instOfNat (nat_lit 0))) (0 : Nat)) (@List.cons @PySem.Value (@PySem.Value.int (@OfNat.ofNat @Int (nat_lit 0) (@instOfNat (nat_lit 0))) (0 : Nat)) (@List.cons @PySem.Value (@PySem.Value.int (@OfNat.ofNat @Int (nat_lit 3) (@instOfNat (nat_lit 3))) (0 : Nat)) (@List.cons @PySem.Value (@PySem.Value.ref (80 : Nat)) (@List.cons @PySem.Value (@PySem.Value.bool @Bool.true) (@List.cons @PySem.Value (@PySem.Value.int (@OfNat.ofNat @Int (nat_lit 181) (@instOfNat (nat_lit 181))) (0 : Nat)) (@List.cons @PySem.Value (@PySem.Value.ref (81 : Nat)) (@List.cons @PySem.Value @PySem.Value.none (@List.cons @PySem.Value (@PySem.Value.ref (82 : Nat)) (@List.cons @PySem.Value (@PySem.Value.ref (83 : Nat)) (@List.cons @PySem.Value (@PySem.Value.ref (84 : Nat)) (@List.cons @PySem.Value (@PySem.Value.int (@OfNat.ofNat @Int (nat_lit 285) (@instOfNat (nat_lit 285))) (0 : Nat)) (@List.cons @PySem.Value (@PySem.Value.int (@OfNat.ofNat @Int (nat_lit 97) (@instOfNat (nat_lit 97))) (0 : Nat)) (@List.cons @PySem.Value (@PySem.Value.str (@PySem.Str.ofString "/claim/cut.py") (286 : Nat)) (@List.nil @PySem.Value)))))))))))))))))))))) (@List.toArray (@Option @PySem.Value) (@List.nil (@Option @PySem.Value))))),
  (nat_lit 86, (@PySem.Obj.mk (@PySem.Value.type "function") (@Option.none @Nat) (@PySem.Data.func (@PySem.FuncData.mk (@PySem.Str.ofString "_escape_attrib") (@PySem.Str.ofString "_escape_attrib") (kA 13) (@PySem.FuncBody.stmts (kB 13)) (kS 12) (3 : Nat) (@List.nil (@Prod @PySem.Str @Nat)) @PySem.Value.none @PySem.Value.none @PySem.Value.none (@PySem.Value.str (@PySem.Str.ofString "cpy313.xml.etree.ElementTree") (265 : Nat)) (@Option.none @Nat) (@PySem.Value.ref (85 : Nat)) @PySem.Value.none (0 : Nat))) (@List.toArray (@Option @PySem.Value) (@List.nil (@Option @PySem.Value))))),
  (nat_lit 87, (@PySem.Obj.mk (@PySem.Value.type "tuple") (@Option.none @Nat) (@PySem.Data.seq (@List.toArray @PySem.Value (@List.nil @PySem.Value)) (0 : Nat)) (@List.toArray (@Option @PySem.Value) (@List.nil (@Option @PySem.Value))))),
  (nat_lit 89, (@PySem.Obj.mk (@PySem.Value.type "tuple") (@Option.none @Nat) (@PySem.Data.seq (@List.toArray @PySem.Value (@List.cons @PySem.Value (@PySem.Value.str (@PySem.Str.ofString "text") (291 : Nat)) (@List.nil @PySem.Value))) (0 : Nat)) (@List.toArray (@Option @PySem.Value) (@List.nil (@Option @PySem.Value))))),
  (nat_lit 90, (@PySem.Obj.mk (@PySem.Value.type "tuple") (@Option.none @Nat) (@PySem.Data.seq (@List.toArray @PySem.Value (@List.nil @PySem.Value)) (0 : Nat)) (@List.toArray (@Option @PySem.Value) (@List.nil (@Option @PySem.Value))))),
  (nat_lit 92, (@PySem.Obj.mk (@PySem.Value.type "code") (@Option.none @Nat) (@PySem.Data.fields (@List.toArray @PySem.Value (@List.cons @PySem.Value (@PySem.Value.str (@PySem.Str.ofString "_escape_attrib_html") (288 : Nat)) (@List.cons @PySem.Value (@PySem.Value.str (@PySem.Str.ofString "_escape_attrib_html") (289 : Nat)) (@List.cons @PySem.Value (@PySem.Value.str (@PySem.Str.ofString "/claim/cut.py") (290 : Nat)) (@List.cons @PySem.Value (@PySem.Value.int (@OfNat.ofNat @Int (nat_lit 116) (@instOfNat (nat_lit 116))) (0 : Nat)) (@List.cons @PySem.Value (@PySem.Value.int (@OfNat.ofNat @Int (nat_lit 1) (@instOfNat (nat_lit 1))) (0 : Nat)) (@List.cons @PySem.Value (@PySem.Value.int (@OfNat.ofNat @Int (nat_lit 0) (@instOfNat (nat_lit 0))) (0 : Nat)) (@List.cons @PySem.Value (@PySem.Value.int (@OfNat.ofNat @Int (nat_lit 0) (@instOfNat (nat_lit 0))) (0 : Nat)) (@List.cons @PySem.Value (@PySem.Value.int (@OfNat.ofNat @Int (nat_lit 3) (@instOfNat (nat_lit 3))) (0 : Nat)) (@List.cons @PySem.Value (@PySem.Value.ref (87 : Nat)) (@List.cons @PySem.Value (@PySem.Value.bool @Bool.true) (@List.cons @PySem.Value (@PySem.Value.int (@OfNat.ofNat @Int (nat_lit 181) (@instOfNat (nat_lit 181))) (0 : Nat)) (@List.cons @PySem.Value (@PySem.Value.ref (88 : Nat)) (@List.cons @PySem.Value @PySem.Value.none (@List.cons @PySem.Value (@PySem.Value.ref (89 : Nat)) (@List.cons @PySem.Value (@PySem.Value.ref (90 : Nat)) (@List.cons @PySem.Value (@PySem.Value.ref (91 : Nat)) (@List.cons @PySem.Value (@PySem.Value.int (@OfNat.ofNat @Int (nat_lit 292) (@instOfNat (nat_lit 292))) (0 : Nat)) (@List.cons @PySem.Value (@PySem.Value.int (@OfNat.ofNat @Int (nat_lit 116) (@instOfNat (nat_lit 116))) (0 : Nat)) (@List.cons @PySem.Value (@PySem.Value.str (@PySem.Str.ofString "/claim/cut.py") (293 : Nat)) (@List.nil @PySem.Value)))))))))))))))))))))) (@List.toArray (@Option @PySem.Value) (@List.nil (@Option @PySem.Value))))),
  (nat_lit 93, (@PySem.Obj.mk (@PySem.Value.type "function") (@Option.none @Nat) (@PySem.Data.func (@PySem.FuncData.mk (@PySem.Str.ofString "_escape_attrib_html") (@PySem.Str.ofString "_escape_attrib_html") (kA 14) (@PySem.FuncBody.stmts (kB 14)) (kS 12) (3 : Nat) (@List.nil (@Prod @PySem.Str @Nat)) @PySem.Value.none @PySem.Value.none @PySem.Value.none (@PySem.Value.str (@PySem.Str.ofString "cpy313.xml.etree.ElementTree") (265 : Nat)) (@Option.none @Nat) (@PySem.Value.ref (92 : Nat)) @PySem.Value.none (0 : Nat))) (@List.toArray (@Option @PySem.Value) (@List.nil (@Option @PySem.Value))))),
  (nat_lit 94, (@PySem.Obj.mk (@PySem.Value.type "tuple") (@Option.none @Nat) (@PySem.Data.seq (@List.toArray @PySem.Value (@List.nil @PySem.Value)) (0 : Nat)) (@List.toArray (@Option @PySem.Value) (@List.nil (@Option @PySem.Value))))),
  (nat_lit 96, (@PySem.Obj.mk (@PySem.Value.type "tuple") (@Option.none @Nat) (@PySem.Data.seq (@List.toArray @PySem.Value (@List.cons @PySem.Value (@PySem.Value.str (@PySem.Str.ofString "text") (298 : Nat)) (@List.nil @PySem.Value))) (0 : Nat)) (@List.toArray (@Option @PySem.Value) (@List.nil (@Option @PySem.Value))))),
  (nat_lit 97, (@PySem.Obj.mk (@PySem.Value.type "tuple") (@Option.none @Nat) (@PySem.Data.seq (@List.toArray @PySem.Value (@List.nil @PySem.Value)) (0 : Nat)) (@List.toArray (@Option @PySem.Value) (@List.nil (@Option @PySem.Value))))),
  (nat_lit 99, (@PySem.Obj.mk (@PySem.Value.type "code") (@Option.none @Nat) (@PySem.Data.fields (@List.toArray @PySem.Value (@List.cons @PySem.Value (@PySem.Value.str (@PySem.Str.ofString "_escape_cdata_c14n") (295 : Nat)) (@List.cons @PySem.Value (@PySem.Value.str (@PySem.Str.ofString "_escape_cdata_c14n") (296 : Nat)) (@List.cons @PySem.Value (@PySem.Value.str (@PySem.Str.ofString "/claim/cut.py") (297 : Nat)) (@List.cons @PySem.Value (@PySem.Value.int (@OfNat.ofNat @Int (nat_lit 127) (@instOfNat (nat_lit 127))) (0 : Nat)) (@List.cons @PySem.Value (@PySem.Value.int (@OfNat.ofNat @Int (nat_lit 1) (@instOfNat (nat_lit 1))) (0 : Nat)) (@List.cons @PySem.Value (@PySem.Value.int (@OfNat.ofNat @Int (nat_lit 0) (@instOfNat (nat_lit 0))) (0 : Nat)) (@List.cons @PySem.Value (@PySem.Value.int (@OfNat.ofNat @Int (nat_lit 0) (@instOfNat (nat_lit 0))) (0 : Nat)) (@List.cons @PySem.Value (@PySem.Value.int (@OfNat.ofNat @Int (nat_lit 3) (@instOfNat (nat_lit 3))) (0 : Nat)) (@List.cons @PySem.Value (@PySem.Value.ref (94 : Nat)) (@List.cons @PySem.Value (@PySem.Value.bool @Bool.true) (@List.cons @PySem.Value (@PySem.Value.int (@OfNat.ofNat @Int (nat_lit 181) (@instOfNat (nat_lit 181))) (0 : Nat)) (@List.cons @PySem.Value (@PySem.Value.ref (95 : Nat)) (@List.cons @PySem.Value @PySem.Value.none (@List.cons @PySem.Value (@PySem.Value.ref (96 : Nat)) (@List.cons @PySem.Value (@PySem.Value.ref (97 : Nat)) (@List.cons @PySem.Value (@PySem.Value.ref (98 : Nat)) (@List.cons @PySem.Value (@PySem.Value.int (@OfNat.ofNat @Int (nat_lit 299) (@instOfNat (nat_lit 299))) (0 : Nat)) (@List.cons @PySem.Value (@PySem.Value.int (@OfNat.ofNat @Int (nat_lit 127) (@instOfNat (nat_lit 127))) (0 : Nat)) (@List.cons @PySem.Value (@PySem.Value.str (@PySem.Str.ofString "/claim/cut.py") (300 : Nat)) (@List.nil @PySem.Value)))))))))))))))))))))) (@List.toArray (@Option @PySem.Value) (@List.nil (@Option @PySem.Value))))),
  (nat_lit 100, (@PySem.Obj.mk (@PySem.Value.type "function") (@Option.none @Nat) (@PySem.Data.func (@PySem.FuncData.mk (@PySem.Str.ofString "_escape_cdata_c14n") (@PySem.Str.ofString "_escape_cdata_c14n") (kA 15) (@PySem.FuncBody.stmts (kB 15)) (kS 12) (3 : Nat) (@List.nil (@Prod @PySem.Str @Nat)) @PySem.Value.none @PySem.Value.none @PySem.Value.none (@PySem.Value.str (@PySem.Str.ofString "cpy313.xml.etree.ElementTree") (265 : Nat)) (@Option.none @Nat) (@PySem.Value.ref (99 : Nat)) @PySem.Value.none (0 : Nat))) (@List.toArray (@Option @PySem.Value) (@List.nil (@Option @PySem.Value))))),
  (nat_lit 101, (@PySem.Obj.mk (@PySem.Value.type "tuple") (@Option.none @Nat) (@PySem.Data.seq (@List.toArray @PySem.Value (@List.nil @PySem.Value)) (0 : Nat)) (@List.toArray (@Option @PySem.Value) (@List.nil (@Option @PySem.Value))))),
  (nat_lit 103, (@PySem.Obj.mk (@PySem.Value.type "tuple") (@Option.none @Nat) (@PySem.Data.seq (@List.toArray @PySem.Value (@List.cons @PySem.Value (@PySem.Value.str (@PySem.Str.ofString "text") (305 : Nat)) (@List.nil @PySem.Value))) (0 : Nat)) (@List.toArray (@Option @PySem.Value) (@List.nil (@Option @PySem.Value))))),
  (nat_lit 104, (@PySem.Obj.mk (@PySem.Value.type "tuple") (@Option.none @Nat) (@PySem.Data.seq (@List.toArray @PySem.Value (@List.nil @PySem.Value)) (0 : Nat)) (@List.toArray (@Option @PySem.Value) (@List.nil (@Option @PySem.Value))))),
  (nat_lit 106, (@PySem.Obj.mk (@PySem.Value.type "code") (@Option.none @Nat) (@PySem.Data.fields (@List.toArray @PySem.Value (@List.cons @PySem.Value (@PySem.Value.str (@PySem.Str.ofString "_escape_attrib_c14n") (302 : Nat)) (@List.cons @PySem.Value (@PySem.Value.str (@PySem.Str.ofString "_escape_attrib_c14n") (303 : Nat)) (@List.cons @PySem.Value (@PySem.Value.str (@PySem.Str.ofString "/claim/cut.py") (304 : Nat)) (@List.cons @PySem.Value (@PySem.Value.int (@OfNat.ofNat @Int (nat_lit 140) (@instOfNat (nat_lit 140))) (0 : Nat)) (@List.cons @PySem.Value (@PySem.Value.int (@OfNat.ofNat @Int (nat_lit 1) (@instOfNat (nat_lit 1))) (0 : Nat)) (@List.cons @PySem.Value (@PySem.Value.int (@OfNat.ofNat @Int (nat_lit 0) (@instOfNat (nat_lit 0))) (0 : Nat)) (@List.cons @PySem.Value (@PySem.Value.int (@OfNat.ofNat @Int (nat_lit 0) (@instOfNat (nat_lit 0))) (0 : Nat)) (@List.cons @PySem.Value (@PySem.Value.int (@OfNat.ofNat @Int (nat_lit 3) (@instOfNat (nat_lit 3))) (0 : Nat)) (@List.cons @PySem.Value (@PySem.Value.ref (101 : Nat)) (@List.cons @PySem.Value (@PySem.Value.bool @Bool.true) (@List.cons @PySem.Value (@PySem.Value.int (@OfNat.ofNat @Int (nat_lit 181) (@instOfNat (nat_lit 181))) (0 : Nat)) (@List.cons @PySem.Value (@PySem.Value.ref (102 : Nat)) (@List.cons @PySem.Value @PySem.Value.none (@List.cons @PySem.Value (@PySem.Value.ref (103 : Nat)) (@List.cons @PySem.Value (@PySem.Value.ref (104 : Nat)) (@List.cons @PySem.Value (@PySem.Value.ref (105 : Nat)) (@List.cons @PySem.Value (@PySem.Value.int (@OfNat.ofNat @Int (nat_lit 306) (@instOfNat (nat_lit 306))) (0 : Nat)) (@List.cons @PySem.Value (@PySem.Value.int (@OfNat.ofNat @Int (nat_lit 140) (@instOfNat (nat_lit 140))) (0 : Nat)) (@List.cons @PySem.Value (@PySem.Value.str (@PySem.Str.ofString "/claim/cut.py") (307 : Nat)) (@List.nil @PySem.Value)))))))))))))))))))))) (@List.toArray (@Option @PySem.Value) (@List.nil (@Option @PySem.Value))))),
  (nat_lit 107, (@PySem.Obj.mk (@PySem.Value.type "function") (@Option.none @Nat) (@PySem.Data.func (@PySem.FuncData.mk (@PySem.Str.ofString "_escape_attrib_c14n") (@PySem.Str.ofString "_escape_attrib_c14n") (kA 16) (@PySem.FuncBody.stmts (kB 16)) (kS 12) (3 : Nat) (@List.nil (@Prod @PySem.Str @Nat)) @PySem.Value.none @PySem.Value.none @PySem.Value.none (@PySem.Value.str (@PySem.Str.ofString "cpy313.xml.etree.ElementTree") (265 : Nat)) (@Option.none @Nat) (@PySem.Value.ref (106 : Nat)) @PySem.Value.none (0 : Nat))) (@List.toArray (@Option @PySem.Value) (@List.nil (@Option @PySem.Value))))),
  (nat_lit 108, (@PySem.Obj.mk (@PySem.Value.type "tuple") (@Option.none @Nat) (@PySem.Data.seq (@List.toArray @PySem.Value (@List.nil @PySem.Value)) (0 : Nat)) (@List.toArray (@Option @PySem.Value) (@List.nil (@Option @PySem.Value))))),
  (nat_lit 110, (@PySem.Obj.mk (@PySem.Value.type "tuple") (@Option.none @Nat) (@PySem.Data.seq (@List.toArray @PySem.Value (@List.cons @PySem.Value (@PySem.Value.str (@PySem.Str.ofString "hand") (314 : Nat)) (@List.cons @PySem.Value (@PySem.Value.str (@PySem.Str.ofString "sign") (315 : Nat)) (@List.cons @PySem.Value (@PySem.Value.str (@PySem.Str.ofString "plain") (316 : Nat)) (@List.cons @PySem.Value (@PySem.Value.str (@PySem.Str.ofString "canonical") (317 : Nat)) (@List.nil @PySem.Value)))))) (0 : Nat)) (@List.toArray (@Option @PySem.Value) (@List.nil (@Option @PySem.Value))))),
  (nat_lit 111, (@PySem.Obj.mk (@PySem.Value.type "tuple") (@Option.none @Nat) (@PySem.Data.seq (@List.toArray @PySem.Value (@List.nil @PySem.Value)) (0 : Nat)) (@List.toArray (@Option @PySem.Value) (@List.nil (@Option @PySem.Value))))),
  (nat_lit 113, (@PySem.Obj.mk (@PySem.Value.type "code") (@Option.none @Nat) (@PySem.Data.fields (@List.toArray @PySem.Value (@List.cons @PySem.Value (@PySem.Value.str (@PySem.Str.ofString "_law_written") (311 : Nat)) (@List.cons @PySem.Value (@PySem.Value.str (@PySem.Str.ofString "_law_written") (312 : Nat)) (@List.cons @PySem.Value (@PySem.Value.str (@PySem.Str.ofString "/claim/cut.py") (313 : Nat)) (@List.cons @PySem.Value (@PySem.Value.int (@OfNat.ofNat @Int (nat_lit 158) (@instOfNat (nat_lit 158))) (0 : Nat)) (@List.cons @PySem.Value (@PySem.Value.int (@OfNat.ofNat @Int (nat_lit 2) (@instOfNat (nat_lit 2))) (0 : Nat)) (@List.cons @PySem.Value (@PySem.Value.int (@OfNat.ofNat @Int (nat_lit 0) (@instOfNat (nat_lit 0))) (0 : Nat)) (@List.cons @PySem.Value (@PySem.Value.int (@OfNat.ofNat @Int (nat_lit 0) (@instOfNat (nat_lit 0))) (0 : Nat)) (@List.cons @PySem.Value (@PySem.Value.int (@OfNat.ofNat @Int (nat_lit 3) (@instOfNat (nat_lit 3))) (0 : Nat)) (@List.cons @PySem.Value (@PySem.Value.ref (108 : Nat)) (@List.cons @PySem.Value (@PySem.Value.bool @Bool.true) (@List.cons @PySem.Value (@PySem.Value.int (@OfNat.ofNat @Int (nat_lit 181) (@instOfNat (nat_lit 181))) (0 : Nat)) (@List.cons @PySem.Value (@PySem.Value.ref (109 : Nat)) (@List.cons @PySem.Value @PySem.Value.none (@List.cons @PySem.Value (@PySem.Value.ref (110 : Nat)) (@List.cons @PySem.Value (@PySem.Value.ref (111 : Nat)) (@List.cons @PySem.Value (@PySem.Value.ref (112 : Nat)) (@List.cons @PySem.Value (@PySem.Value.int (@OfNat.ofNat @Int (nat_lit 318) (@instOfNat (nat_lit 318))) (0 : Nat)) (@List.cons @PySem.Value (@PySem.Value.int (@OfNat.ofNat @Int (nat_lit 158) (@instOfNat (nat_lit 158))) (0 : Nat)) (@List.cons @PySem.Value (@PySem.Value.str (@PySem.Str.ofString "/claim/cut.py") (319 : Nat)) (@List.nil @PySem.Value)))))))))))))))))))))) (@List.toArray (@Option @PySem.Value) (@List.nil (@Option @PySem.Value))))),
  (nat_lit 114, (@PySem.Obj.mk (@PySem.Value.type "function") (@Option.none @Nat) (@PySem.Data.func (@PySem.FuncData.mk (@PySem.Str.ofString "_law_written") (@PySem.Str.ofString "_law_written") (kA 18) (@PySem.FuncBody.stmts (kB 18)) (kS 18) (3 : Nat) (@List.nil (@Prod @PySem.Str @Nat)) @PySem.Value.none @PySem.Value.none @PySem.Value.none (@PySem.Value.str (@PySem.Str.ofString "law_oy0191_01") (309 : Nat)) (@Option.none @Nat) (@PySem.Value.ref (113 : Nat)) @PySem.Value.none (0 : Nat))) (@List.toArray (@Option @PySem.Value) (@List.nil (@Option @PySem.Value))))),
  (nat_lit 115, (@PySem.Obj.mk (@PySem.Value.type "tuple") (@Option.none @Nat) (@PySem.Data.seq (@List.toArray @PySem.Value (@List.nil @PySem.Value)) (0 : Nat)) (@List.toArray (@Option @PySem.Value) (@List.nil (@Option @PySem.Value))))),
  (nat_lit 117, (@PySem.Obj.mk (@PySem.Value.type "tuple") (@Option.none @Nat) (@PySem.Data.seq (@List.toArray @PySem.Value (@List.cons @PySem.Value (@PySem.Value.str (@PySem.Str.ofString "one") (324 : Nat)) (@List.cons @PySem.Value (@PySem.Value.str (@PySem.Str.ofString "two") (325 : Nat)) (@List.cons @PySem.Value (@PySem.Value.str (@PySem.Str.ofString "late") (326 : Nat)) (@List.nil @PySem.Value))))) (0 : Nat)) (@List.toArray (@Option @PySem.Value) (@List.nil (@Option @PySem.Value))))),
  (nat_lit 118, (@PySem.Obj.mk (@PySem.Value.type "tuple") (@Option.none @Nat) (@PySem.Data.seq (@List.toArray @PySem.Value (@List.nil @PySem.Value)) (0 : Nat)) (@List.toArray (@Option @PySem.Value) (@List.nil (@Option @PySem.Value))))),
  (nat_lit 120, (@PySem.Obj.mk (@PySem.Value.type "code") (@Option.none @Nat) (@PySem.Data.fields (@List.toArray @PySem.Value (@List.cons @PySem.Value (@PySem.Value.str (@PySem.Str.ofString "_law_later") (321 : Nat)) (@List.cons @PySem.Value (@PySem.Value.str (@PySem.Str.ofString "_law_later") (322 : Nat)) (@List.cons @PySem.Value (@PySem.Value.str (@PySem.Str.ofString "/claim/cut.py") (323 : Nat)) (@List.cons @PySem.Value (@PySem.Value.int (@OfNat.ofNat @Int (nat_lit 164) (@instOfNat (nat_lit 164))) (0 : Nat)) (@List.cons @PySem.Value (@PySem.Value.int (@OfNat.ofNat @Int (nat_lit 2) (@instOfNat (nat_lit 2))) (0 : Nat)) (@List.cons @PySem.Value (@PySem.Value.int (@OfNat.ofNat @Int (nat_lit 0) (@instOfNat (nat_lit 0))) (0 : Nat)) (@List.cons @PySem.Value (@PySem.Value.int (@OfNat.ofNat @Int (nat_lit 0) (@instOfNat (nat_lit 0))) (0 : Nat)) (@List.cons @PySem.Value (@PySem.Value.int (@OfNat.ofNat @Int (nat_lit 3) (@instOfNat (nat_lit 3))) (0 : Nat)) (@List.cons @PySem.Value (@PySem.Value.ref (115 : Nat)) (@List.cons @PySem.Value (@PySem.Value.bool @Bool.true) (@List.cons @PySem.Value (@PySem.Value.int (@OfNat.ofNat @Int (nat_lit 181) (@instOfNat (nat_lit 181))) (0 : Nat)) (@List.cons @PySem.Value (@PySem.Value.ref (116 : Nat)) (@List.cons @PySem.Value @PySem.Value.none (@List.cons @PySem.Value (@PySem.Value.ref (117 : Nat)) (@List.cons @PySem.Value (@PySem.Value.ref (118 : Nat)) (@List.cons @PySem.Value (@PySem.Value.ref (119 : Nat)) (@List.cons @PySem.Value (@PySem.Value.int (@OfNat.ofNat @Int (nat_lit 327) (@instOfNat (nat_lit 327))) (0 : Nat)) (@List.cons @PySem.Value (@PySem.Value.int (@OfNat.ofNat @Int (nat_lit 164) (@instOfNat (nat_lit 164))) (0 : Nat)) (@List.cons @PySem.Value (@PySem.Value.str (@PySem.Str.ofString "/claim/cut.py") (328 : Nat)) (@List.nil @PySem.Value)))))))))))))))))))))) (@List.toArray (@Option @PySem.Value) (@List.nil (@Option @PySem.Value))))),
  (nat_lit 121, (@PySem.Obj.mk (@PySem.Value.type "function") (@Option.none @Nat) (@PySem.Data.func (@PySem.FuncData.mk (@PySem.Str.ofString "_law_later") (@PySem.Str.ofString "_law_later") (kA 19) (@PySem.FuncBody.stmts (kB 19)) (kS 19) (3 : Nat) (@List.nil (@Prod @PySem.Str @Nat)) @PySem.Value.none @PySem.Value.none @PySem.Value.none (@PySem.Value.str (@PySem.Str.ofString "law_oy0191_01") (309 : Nat)) (@Option.none @Nat) (@PySem.Value.ref (120 : Nat)) @PySem.Value.none (0 : Nat))) (@List.toArray (@Option @PySem.Value) (@List.nil (@Option @PySem.Value))))),
  (nat_lit 122, (@PySem.Obj.mk (@PySem.Value.type "tuple") (@Option.none @Nat) (@PySem.Data.seq (@List.toArray @PySem.Value (@List.nil @PySem.Value)) (0 : Nat)) (@List.toArray (@Option @PySem.Value) (@List.nil (@Option @PySem.Value))))),
  (nat_lit 125, (@PySem.Obj.mk (@PySem.Value.type "code") (@Option.none @Nat) (@PySem.Data.fields (@List.toArray @PySem.Value (@List.cons @PySem.Value (@PySem.Value.str (@PySem.Str.ofString "_law_woven") (330 : Nat)) (@List.cons @PySem.Value (@PySem.Value.str (@PySem.Str.ofString "_law_woven") (331 : Nat)) (@List.cons @PySem.Value (@PySem.Value.str (@PySem.Str.ofString "/claim/cut.py") (332 : Nat)) (@List.cons @PySem.Value (@PySem.Value.int (@OfNat.ofNat @Int (nat_lit 167) (@instOfNat (nat_lit 167))) (0 : Nat)) (@List.cons @PySem.Value (@PySem.Value.int (@OfNat.ofNat @Int (nat_lit 2) (@instOfNat (nat_lit 2))) (0 : Nat)) (@List.cons @PySem.Value (@PySem.Value.int (@OfNat.ofNat @Int (nat_lit 0) (@instOfNat (nat_lit 0))) (0 : Nat)) (@List.cons @PySem.Value (@PySem.Value.int (@OfNat.ofNat @Int (nat_lit 0) (@instOfNat (nat_lit 0))) (0 : Nat)) (@List.cons @PySem.Value (@PySem.Value.int (@OfNat.ofNat @Int (nat_lit 3) (@instOfNat (nat_lit 3))) (0 : Nat)) (@List.cons @PySem.Value (@PySem.Value.ref (122 : Nat)) (@List.cons @PySem.Value (@PySem.Value.bool @Bool.true) (@List.cons @PySem.Value (@PySem.Value.int (@OfNat.ofNat @Int (nat_lit 181) (@instOfNat (nat_lit 181))) (0 : Nat)) (@List.cons @PySem.Value (@PySem.Value.ref (123 : Nat)) (@List.cons @PySem.Value @PySem.Value.none (@List.cons @PySem.Value @PySem.Value.none (@List.cons @PySem.Value @PySem.Value.none (@List.cons @PySem.Value (@PySem.Value.ref (124 : Nat)) (@List.cons @PySem.Value (@PySem.Value.int (@OfNat.ofNat @Int (nat_lit 333) (@instOfNat (nat_lit 333))) (0 : Nat)) (@List.cons @PySem.Value (@PySem.Value.int (@OfNat.ofNat @Int (nat_lit 167) (@instOfNat (nat_lit 167))) (0 : Nat)) (@List.cons @PySem.Value (@PySem.Value.str (@PySem.Str.ofString "/claim/cut.py") (334 : Nat)) (@List.nil @PySem.Value)))))))))))))))))))))) (@List.toArray (@Option @PySem.Value) (@List.nil (@Option @PySem.Value))))),
  (nat_lit 126, (@PySem.Obj.mk (@PySem.Value.type "function") (@Option.none @Nat) (@PySem.Data.func (@PySem.FuncData.mk (@PySem.Str.ofString "_law_woven") (@PySem.Str.ofString "_law_woven") (kA 20) (@PySem.FuncBody.stmts (kB 20)) (kS 20) (3 : Nat) (@List.nil (@Prod @PySem.Str @Nat)) @PySem.Value.none @PySem.Value.none @PySem.Value.none (@PySem.Value.str (@PySem.Str.ofString "law_oy0191_01") (309 : Nat)) (@Option.none @Nat) (@PySem.Value.ref (125 : Nat)) @PySem.Value.none (0 : Nat))) (@List.toArray (@Option @PySem.Value) (@List.nil (@Option @PySem.Value))))),
  (nat_lit 127, (@PySem.Obj.mk (@PySem.Value.type "tuple") (@Option.none @Nat) (@PySem.Data.seq (@List.toArray @PySem.Value (@List.nil @PySem.Value)) (0 : Nat)) (@List.toArray (@Option @PySem.Value) (@List.nil (@Option @PySem.Value))))),
  (nat_lit 129, (@PySem.Obj.mk (@PySem.Value.type "tuple") (@Option.none @Nat) (@PySem.Data.seq (@List.toArray @PySem.Value (@List.cons @PySem.Value (@PySem.Value.str (@PySem.Str.ofString "state") (339 : Nat)) (@List.cons @PySem.Value (@PySem.Value.str (@PySem.Str.ofString "sign") (340 : Nat)) (@List.cons @PySem.Value (@PySem.Value.str (@PySem.Str.ofString "names") (341 : Nat)) (@List.cons @PySem.Value (@PySem.Value.str (@PySem.Str.ofString "numbers") (342 : Nat)) (@List.nil @PySem.Value)))))) (0 : Nat)) (@List.toArray (@Option @PySem.Value) (@List.nil (@Option @PySem.Value))))),
  (nat_lit 130, (@PySem.Obj.mk (@PySem.Value.type "tuple") (@Option.none @Nat) (@PySem.Data.seq (@List.toArray @PySem.Value (@List.nil @PySem.Value)) (0 : Nat)) (@List.toArray (@Option @PySem.Value) (@List.nil (@Option @PySem.Value))))),
  (nat_lit 132, (@PySem.Obj.mk (@PySem.Value.type "code") (@Option.none @Nat) (@PySem.Data.fields (@List.toArray @PySem.Value (@List.cons @PySem.Value (@PySem.Value.str (@PySem.Str.ofString "_law_read") (336 : Nat)) (@List.cons @PySem.Value (@PySem.Value.str (@PySem.Str.ofString "_law_read") (337 : Nat)) (@List.cons @PySem.Value (@PySem.Value.str (@PySem.Str.ofString "/claim/cut.py") (338 : Nat)) (@List.cons @PySem.Value (@PySem.Value.int (@OfNat.ofNat @Int (nat_lit 186) (@instOfNat (nat_lit 186))) (0 : Nat)) (@List.cons @PySem.Value (@PySem.Value.int (@OfNat.ofNat @Int (nat_lit 2) (@instOfNat (nat_lit 2))) (0 : Nat)) (@List.cons @PySem.Value (@PySem.Value.int (@OfNat.ofNat @Int (nat_lit 0) (@instOfNat (nat_lit 0))) (0 : Nat)) (@List.cons @PySem.Value (@PySem.Value.int (@OfNat.ofNat @Int (nat_lit 0) (@instOfNat (nat_lit 0))) (0 : Nat)) (@List.cons @PySem.Value (@PySem.Value.int (@OfNat.ofNat @Int (nat_lit 3) (@instOfNat (nat_lit 3))) (0 : Nat)) (@List.cons @PySem.Value (@PySem.Value.ref (127 : Nat)) (@List.cons @PySem.Value (@PySem.Value.bool @Bool.true) (@List.cons @PySem.Value (@PySem.Value.int (@OfNat.ofNat @Int (nat_lit 181) (@instOfNat (nat_lit 181))) (0 : Nat)) (@List.cons @PySem.Value (@PySem.Value.ref (128 : Nat)) (@List.cons @PySem.Value @PySem.Value.none (@List.cons @PySem.Value (@PySem.Value.ref (129 : Nat)) (@List.cons @PySem.Value (@PySem.Value.ref (130 : Nat)) (@List.cons @PySem.Value (@PySem.Value.ref (131 : Nat)) (@List.cons @PySem.Value (@PySem.Value.int (@OfNat.ofNat @Int (nat_lit 343) (@instOfNat (nat_lit 343))) (0 : Nat)) (@List.cons @PySem.Value (@PySem.Value.int (@OfNat.ofNat @Int (nat_lit 186) (@instOfNat (nat_lit 186))) (0 : Nat)) (@List.cons @PySem.Value (@PySem.Value.str (@PySem.Str.ofString "/claim/cut.py") (344 : Nat)) (@List.nil @PySem.Value)))))))))))))))))))))) (@List.toArray (@Option @PySem.Value) (@List.nil (@Option @PySem.Value))))),
  (nat_lit 133, (@PySem.Obj.mk (@PySem.Value.type "function") (@Option.none @Nat) (@PySem.Data.func (@PySem.FuncData.mk (@PySem.Str.ofString "_law_read") (@PySem.Str.ofString "_law_read") (kA 21) (@PySem.FuncBody.stmts (kB 21)) (kS 21) (3 : Nat) (@List.nil (@Prod @PySem.Str @Nat)) @PySem.Value.none @PySem.Value.none @PySem.Value.none (@PySem.Value.str (@PySem.Str.ofString "law_oy0191_01") (309 : Nat)) (@Option.none @Nat) (@PySem.Value.ref (132 : Nat)) @PySem.Value.none (0 : Nat))) (@List.toArray (@Option @PySem.Value) (@List.nil (@Option @PySem.Value))))),
  (nat_lit 134, (@PySem.Obj.mk (@PySem.Value.type "tuple") (@Option.none @Nat) (@PySem.Data.seq (@List.toArray @PySem.Value (@List.nil @PySem.Value)) (0 : Nat)) (@List.toArray (@Option @PySem.Value) (@List.nil (@Option @PySem.Value))))),
  (nat_lit 135, (@PySem.Obj.mk @PySem.Value.none (@Option.none @Nat) (@PySem.Data.fields (@List.toArray @PySem.Value (@List.nil @PySem.Value))) (@List.toArray (@Option @PySem.Value) (@List.nil (@Option @PySem.Value))))),
  (nat_lit 137, (@PySem.Obj.mk (@PySem.Value.type "code") (@Option.none @Nat) (@PySem.Data.fields (@List.toArray @PySem.Value (@List.cons @PySem.Value (@PySem.Value.str (@PySem.Str.ofString "law") (346 : Nat)) (@List.cons @PySem.Value (@PySem.Value.str (@PySem.Str.ofString "law") (347 : Nat)) (@List.cons @PySem.Value (@PySem.Value.str (@PySem.Str.ofString "/claim/cut.py") (348 : Nat)) (@List.cons @PySem.Value (@PySem.Value.int (@OfNat.ofNat @Int (nat_lit 194) (@instOfNat (nat_lit 194))) (0 : Nat)) (@List.cons @PySem.Value (@PySem.Value.int (@OfNat.ofNat @Int (nat_lit 1) (@instOfNat (nat_lit 1))) (0 : Nat)) (@List.cons @PySem.Value (@PySem.Value.int (@OfNat.ofNat @Int (nat_lit 0) (@instOfNat (nat_lit 0))) (0 : Nat)) (@List.cons @PySem.Value (@PySem.Value.int (@OfNat.ofNat @Int (nat_lit 0) (@instOfNat (nat_lit 0))) (0 : Nat)) (@List.cons @PySem.Value (@PySem.Value.int (@OfNat.ofNat @Int (nat_lit 3) (@instOfNat (nat_lit 3))) (0 : Nat)) (@List.cons @PySem.Value (@PySem.Value.ref (134 : Nat)) (@List.cons @PySem.Value (@PySem.Value.bool @Bool.true) (@List.cons @PySem.Value (@PySem.Value.int (@OfNat.ofNat @Int (nat_lit 181) (@instOfNat (nat_lit 181))) (0 : Nat)) (@List.cons @PySem.Value (@PySem.Value.ref (135 : Nat)) (@List.cons @PySem.Value @PySem.Value.none (@List.cons @PySem.Value @PySem.Value.none (@List.cons @PySem.Value @PySem.Value.none (@List.cons @PySem.Value (@PySem.Value.ref (136 : Nat)) (@List.cons @PySem.Value (@PySem.Value.int (@OfNat.ofNat @Int (nat_lit 349) (@instOfNat (nat_lit 349))) (0 : Nat)) (@List.cons @PySem.Value (@PySem.Value.int (@OfNat.ofNat @Int (nat_lit 194) (@instOfNat (nat_lit 194))) (0 : Nat)) (@List.cons @PySem.Value (@PySem.Value.str (@PySem.Str.ofString "/claim/cut.py") (350 : Nat)) (@List.nil @PySem.Value)))))))))))))))))))))) (@List.toArray (@Option @PySem.Value) (@List.nil (@Option @PySem.Value))))),
  (nat_lit 138, (@PySem.Obj.mk (@PySem.Value.type "function") (@Option.none @Nat) (@PySem.Data.func (@PySem.FuncData.mk (@PySem.Str.ofString "law") (@PySem.Str.ofString "law") (kA 22) (@PySem.FuncBody.stmts (kB 22)) (kS 22) (3 : Nat) (@List.nil (@Prod @PySem.Str @Nat)) @PySem.Value.none @PySem.Value.none @PySem.Value.none (@PySem.Value.str (@PySem.Str.ofString "law_oy0191_01") (309 : Nat)) (@Option.none @Nat) (@PySem.Value.ref (137 : Nat)) @PySem.Value.none (0 : Nat))) (@List.toArray (@Option @PySem.Value) (@List.nil (@Option @PySem.Value)))))]
/-- the program's view: the statements that stand when the law is called -/
noncomputable def vw : Program := { PySem.Challenge.pw_oy0191_01 with main := { PySem.Challenge.pw_oy0191_01.main with body := [1, 2, 3, 4, 5, 7, 8, 11, 12, 13, 14, 15, 16, 18, 19, 20, 21, 22].map kD } }
noncomputable def hk : Hook := kHook KF [1, 2, 3, 4, 15, 17, 18, 20, 21, 22, 24, 25, 27, 28, 29, 31, 32, 34, 35, 36, 38, 39, 41, 42, 43, 45, 46, 48, 49, 50, 51, 52, 53, 55, 56, 57, 58, 59, 61, 62, 64, 65, 66, 68, 69, 71, 72, 73, 75, 76, 78, 79, 80, 82, 83, 85, 86, 87, 89, 90, 92, 93, 94, 96, 97, 99, 100, 101, 103, 104, 106, 107, 108, 110, 111, 113, 114, 115, 117, 118, 120, 121, 122, 125, 126, 127, 129, 130, 132, 133, 134, 135, 137, 138] (fun _ => by kernel_rfl)
noncomputable abbrev rw1 : OpenRow := PySem.Challenge.rw_oy0191_01.row
noncomputable abbrev lo1 : List PySem.Str := [Str.ofString "_initial_missing", Str.ofString "reduce"]
set_option maxHeartbeats 4000000 in
theorem left1 : LeftO rw1.prog vw lo1 (fun s => xlAt vw [] s && recOk (RowW.records (OpenRow.toRowW rw1)) s) (Hook.obs hk) (Hook.val hk) 1352 := fun w => by kernel_rfl
set_option maxHeartbeats 4000000 in
theorem okw : PySem.Challenge.rw_oy0191_01.wellSaid = true := by kernel_rfl
end Mine
end
section
open PySem PySem.W PySem.W.X PyProof.Rows
set_option Elab.async false
set_option maxRecDepth 100000
namespace Mine
noncomputable abbrev PP : Program := PySem.Challenge.pw_oy0191_01
noncomputable abbrev AA : Around := { handled := none, depth := 600, frames := none, guards := none, units := 600 }
noncomputable def Kc : Params → Frag := fun P => (KF P).filter fun p => !(Nat.beq p.1 51 || Nat.beq p.1 135)

theorem low_to {α : Type} {M : Model} {A A' : Around} {t : Sem α} {Q : α → Shared → Prop} {E : Value → Shared → Prop} {s : Shared}
    (h : wpAny M A' t Q E s) (hh : A.handled = A'.handled) (hdp : A.depth ≤ A'.depth) (hu : A.units ≤ A'.units) (hf : A'.frames = none) (hg : A'.guards = none) : wpAny M A t Q E s :=
  fun Γ p hΓ => h Γ p ⟨hΓ.1.trans hh, Nat.le_trans hΓ.2.1 hdp, (fun l hl => by rw [hf] at hl; cases hl), (fun l hl => by rw [hg] at hl; cases hl), Nat.le_trans hΓ.2.2.2.2 hu⟩

/-- room for n calls more -/
structure Low (A : Around) (n : Nat) : Prop where
  hd : A.handled = none
  dp : A.depth + n ≤ 600
  un : A.units + 3 * n ≤ 600
theorem Low.deeper {A : Around} {n : Nat} (h : Low A (n + 1)) (env : Env) : Low (A.deeper env) n := by
  refine ⟨h.hd, ?_, ?_⟩
  · show A.depth + 1 + n ≤ 600; have := h.dp; omega
  · show A.units + 3 + 3 * n ≤ 600; have := h.un; omega
theorem Low.less {A : Around} {n m : Nat} (h : Low A n) (hm : m ≤ n) : Low A m := ⟨h.hd, by have := h.dp; omega, by have := h.un; omega⟩
theorem Low.room {A : Around} {n : Nat} (h : Low A n) : A.depth < recursionLimit := by
  have := h.dp
  show A.depth < 1000
  omega
theorem Low.run {α : Type} {M : Model} {A : Around} {n : Nat} {t : Sem α} {Q : α → Shared → Prop} {E : Value → Shared → Prop} {s : Shared} (l : Low A n) (h : wpAny M AA t Q E s) : wpAny M A t Q E s :=
  low_to h l.hd (by have := l.dp; show A.depth ≤ 600; omega) (by have := l.un; show A.units ≤ 600; omega) rfl rfl

theorem noE {α : Type} {M : Model} {A : Around} {t : Sem α} {Q : α → Shared → Prop} {E : Value → Shared → Prop} {s : Shared} (h : wpAny M A t Q (fun _ _ => False) s) : wpAny M A t Q E s :=
  wpAny_mono h (fun _ _ x => x) fun _ _ x => x.elim
end Mine
end
section
open PySem PySem.W PySem.W.X PyProof.Rows
set_option Elab.async false
set_option maxRecDepth 100000
namespace Mine

theorem nolimit_of {w : World} {h : Heap} (X : (Kc w.params).In h) : h.NoLimit :=
  ⟨fun _ => none, ⟨_, #[], 0, X 2 _ rfl, rfl, (fun e he => by simp at he), fun _ => rfl⟩, rfl⟩

/-- a def of the text called: its body walked in a new frame -/
theorem call_static {w : World} {A : Around} {n : Nat} {s : Shared} {a : Addr} {o : Obj} {fd : FuncData} {body : List Stmt} {args : List Value} {binds : List (Str × Value)} {Q : Value → Shared → Prop}
    (hA : Low A (n + 1)) (X : (Kc w.params).In s.heap) (hl : (Kc w.params).lookup a = some o) (hdata : o.data = .func fd) (hcd : codeIn (Kc w.params) fd.code fd.qualname = true)
    (hbody : fd.body = .stmts body) (hbind : BindsTo s fd ⟨args, []⟩ binds) (hcell : ∀ x ∈ fd.scope.names, x.2 ≠ .cell) (hloc : ∀ x ∈ binds, fd.scope.names.lookup x.1 = some .local)
    (h : ∀ A' h₀ L, Low A' n → Fr s.heap L h₀ (fun x => binds.reverse.lookup x) →
      wpAny (model PP w) A' (execs body (callEnv fd L a)) (fun f s' => Q (match f with | .ret v => v | _ => .none) s') (fun _ _ => False) { s with heap := h₀, toks := s.toks + binds.length })
    (hco : fd.scope.isCoroutine = false := by rfl) (hgen : fd.scope.isGenerator = false := by rfl) (hk : fd.scope.kind = .function := by rfl) :
    wpAny (model PP w) A (call (.ref a) args) Q (fun _ _ => False) s := by
  refine wpAny_call (codeAny_call_def hA.room (X _ _ hl) hdata (nolimit_of X) (codeRec_of X hcd) hbody hbind hcell hloc (fun h₀ hns hk₀ => ?_) hco hgen hk)
  exact noE (h _ h₀ _ (hA.deeper _) ⟨hns, hk₀, Nat.le_refl _⟩)
end Mine
end
section
open PySem PySem.W PySem.W.X PyProof.Rows
set_option Elab.async false
set_option maxRecDepth 100000
namespace Mine

noncomputable abbrev Keep (g h : Heap) : Prop := ∀ b o, g.get? b = some o → h.get? b = some o

noncomputable def LtOk (w : World) (g : Heap) (r : Addr → Int) (S : Addr → Prop) : Prop :=
  ∀ (A : Around) (s : Shared) (a b : Addr) (Q : Value → Shared → Prop), Low A 4 → Keep g s.heap → S a → S b →
   (∀ h' t', Keep s.heap h' → Q (.bool (decide (r a < r b))) { s with heap := h', toks := t' }) →
   wpAny (model PP w) A (compareOp .Lt (.ref a) (.ref b)) Q (fun _ _ => False) s

noncomputable def sdGo (r : Addr → Int) (new : Addr) (sp : Nat) : Nat → List Addr → Nat → List Addr
  | 0, xs, pos => xs.set pos new
  | f + 1, xs, pos => if sp < pos then
      (match xs[(pos - 1) / 2]? with
        | some par => if r new < r par then sdGo r new sp f (xs.set pos par) ((pos - 1) / 2) else xs.set pos new
        | none => xs.set pos new)
    else xs.set pos new

/-- a list of objects -/
noncomputable def RL (h : Heap) (l : Addr) (xs : List Addr) : Prop := ∃ n, h.get? l = some (listOf (xs.map Value.ref).toArray n)
theorem RL.isList {h : Heap} {l : Addr} {xs : List Addr} (x : RL h l xs) : h.IsList l (xs.map Value.ref).toArray := let ⟨n, e⟩ := x; PySem.IsL.isList (n := n) e
theorem RL.keep {h h' : Heap} {l : Addr} {xs : List Addr} (x : RL h l xs) (k : Keep h h') : RL h' l xs := let ⟨n, e⟩ := x; ⟨n, k _ _ e⟩
theorem RL.extBut {h h' : Heap} {l b : Addr} {xs : List Addr} (x : RL h l xs) (k : Heap.ExtBut b h h') (ne : l ≠ b) : RL h' l xs := let ⟨n, e⟩ := x; ⟨n, k _ _ ne e⟩
theorem RL.lt {h : Heap} {l : Addr} {xs : List Addr} (x : RL h l xs) : l < h.objs.size := let ⟨_, e⟩ := x; Heap.lt_size e
theorem RL.set {h : Heap} {l : Addr} {xs : List Addr} {j : Nat} {a : Addr} (x : RL h l xs) : RL (h.update l (Obj.mapSeq (·.setIfInBounds j (.ref a)))) l (xs.set j a) := by
  obtain ⟨n, e⟩ := x
  have q := PySem.IsL.update e (·.setIfInBounds j (.ref a))
  have e : ((xs.map Value.ref).toArray.setIfInBounds j (.ref a)) = ((xs.set j a).map Value.ref).toArray := by
    apply Array.ext'
    simp [List.map_set]
  rw [e] at q
  exact ⟨_, q⟩

/-- the list at l and the frame at L over a base -/
structure Cx (g : Heap) (L l : Addr) (m : Str → Option Value) (xs : List Addr) (h : Heap) : Prop where
  fr : Fr g L h m
  li : RL h l xs
  ne : l ≠ L
  gl : g.get? l = none
theorem Cx.store {g h h' : Heap} {L l : Addr} {m m' : Str → Option Value} {xs : List Addr} (c : Cx g L l m xs h) (hn : h'.Ns L m') (hs : Heap.SameBut L h h') : Cx g L l m' xs h' :=
  ⟨c.fr.set hn hs, c.li.extBut hs.extBut c.ne, c.ne, c.gl⟩
theorem Cx.keep {g h h' : Heap} {L l : Addr} {m : Str → Option Value} {xs : List Addr} (c : Cx g L l m xs h) (k : Keep h h') : Cx g L l m xs h' :=
  ⟨⟨c.fr.ns.keeps k, fun b o e => k b o (c.fr.keep b o e), c.fr.above⟩, c.li.keep k, c.ne, c.gl⟩
theorem Cx.list {g h h' : Heap} {L l : Addr} {m : Str → Option Value} {xs ys : List Addr} (c : Cx g L l m xs h) (hl : RL h' l ys) (hs : Heap.SameBut l h h') : Cx g L l m ys h' :=
  ⟨⟨c.fr.ns.sameBut hs (Ne.symm c.ne), fun b o e => (hs.2 b (fun q => by rw [q, c.gl] at e; cases e)).trans (c.fr.keep b o e), c.fr.above⟩, hl, c.ne, c.gl⟩

section
variable {w : World} {A : Around} {s : Shared} {g : Heap} {L l : Addr} {m : Str → Option Value} {xs : List Addr} {env : Env} {E : Value → Shared → Prop}
theorem cx_name {x : Str} {pos : Pos} {v : Value} {Q : Value → Shared → Prop} (c : Cx g env.locals l m xs s.heap) (hv : m x = some v) (h : Q v s)
    (hk : env.scope.kind = .function := by rfl) (hx : env.kindOf x = some .local := by rfl) (hb : (x == ("__debug__" : Str)) = false := by decide) :
    wpAny (model PP w) A (eval (.Name x pos) env) Q E s := wpAny_Name (wpAny_loadName_local hk hx c.fr.ns hv h) hb
theorem cx_store {x : Str} {v : Value} {Q : Unit → Shared → Prop} (c : Cx g env.locals l m xs s.heap)
    (h : ∀ h', Cx g env.locals l (fun y => if y = x then some v else m y) xs h' → Q () { s with heap := h', toks := s.toks + 1 })
    (hk : env.scope.kind = .function := by rfl) (hx : env.kindOf x = some .local := by rfl) : wpAny (model PP w) A (storeName env x v) Q E s :=
  wpAny_storeName_local hx c.fr.ns (fun h' hn hs => h h' (c.store hn hs)) (by rw [hk]; rfl)
theorem cx_get {value slice : Expr} {k : Int} {u : Tok} {a : Addr} {Q : Value → Shared → Prop} (c : Cx g L l m xs s.heap) (h0 : 0 ≤ k) (hf : k < 2 ^ 63) (hx : xs[k.toNat]? = some a) (h : Q (.ref a) s)
    (hs : subscripted slice false (.ref l) (.int k u) = operate [.ref l, .int k u] (getItem (.ref l) (.int k u)) := by with_unfolding_all rfl) (hg : ∀ r, letTemporaryGo value (.ref l) r = pure () := by intro _; with_unfolding_all rfl) :
    wpAny (model PP w) A (subscriptTail value slice (.ref l) (.int k u)) Q E s :=
  item_list c.li.isList h0 hf (by simp [hx]) h hs hg
theorem cx_set {k : Int} {u : Tok} {a : Addr} {Q : Unit → Shared → Prop} (c : Cx g L l m xs s.heap) (h0 : 0 ≤ k) (hf : k < 2 ^ 63) (hk : k.toNat < xs.length)
    (h : ∀ h', Cx g L l m (xs.set k.toNat a) h' → Q () { s with heap := h' }) : wpAny (model PP w) A (setItem (.ref l) (.int k u) (.ref a)) Q E s := by
  obtain ⟨n, e⟩ := c.li
  exact ki_setAt e h0 hf (by simp; omega) (h _ (c.list (RL.set ⟨n, e⟩) (Heap.SameBut.update ..)))
theorem cx_lt {r : Addr → Int} {S : Addr → Prop} {a b : Addr} {n : Nat} {Q : Value → Shared → Prop} (c : Cx g L l m xs s.heap) (LT : LtOk w g r S) (hA : Low A n) (hn : 4 ≤ n) (ha : S a) (hb : S b)
    (h : ∀ h' t', Cx g L l m xs h' → Q (.bool (decide (r a < r b))) { s with heap := h', toks := t' }) : wpAny (model PP w) A (compareOp .Lt (.ref a) (.ref b)) Q E s :=
  noE (LT A s a b Q (hA.less hn) c.fr.keep ha hb fun h' t' k => h h' t' (c.keep k))
end


theorem set_len {xs : List Addr} {n : Nat} {a : Addr} : (xs.set n a).length = xs.length := List.length_set
theorem sdGo_fuel {r : Addr → Int} {new : Addr} {sp : Nat} : ∀ {f f' : Nat} {xs : List Addr} {pos : Nat}, pos ≤ f → pos ≤ f' → sdGo r new sp f xs pos = sdGo r new sp f' xs pos
  | 0, 0, _, _, _, _ => rfl
  | 0, f' + 1, xs, pos, h, _ => by
    have : pos = 0 := by omega
    subst this
    rw [sdGo, sdGo, if_neg (by omega)]
  | f + 1, 0, xs, pos, _, h => by
    have : pos = 0 := by omega
    subst this
    rw [sdGo, sdGo, if_neg (by omega)]
  | f + 1, f' + 1, xs, pos, h, h' => by
    rw [sdGo, sdGo]
    by_cases hp : sp < pos
    · rw [if_pos hp, if_pos hp]
      split
      · split
        · exact sdGo_fuel (by omega) (by omega)
        · rfl
      · rfl
    · rw [if_neg hp, if_neg hp]

inductive SdI (s : Shared) (g : Heap) (L l : Addr) (r : Addr → Int) (S : Addr → Prop) (a : Addr) (sp N : Nat) (z : List Addr) (t1 : Tok) (n : Nat) : Shared → Prop
  | mk {h t m ys f tk} (c : Cx g L l m ys h) (hpos : n < ys.length) (hlen : ys.length = N) (hSy : ∀ y ∈ ys, S y) (hf : n ≤ f) (hgo : sdGo r a sp f ys n = z)
    (m1 : m (Str.ofString "pos") = some (.int ((n : Nat) : Int) tk)) (m2 : m (Str.ofString "heap") = some (.ref l)) (m3 : m (Str.ofString "startpos") = some (.int sp t1)) (m4 : m (Str.ofString "newitem") = some (.ref a)) :
    SdI s g L l r S a sp N z t1 n { s with heap := h, toks := t }
inductive SdJ (s : Shared) (g : Heap) (L l : Addr) (a : Addr) (N : Nat) (z : List Addr) : Flow → Shared → Prop
  | mk {h t m pos ys tk} (c : Cx g L l m ys h) (hpos : pos < ys.length) (hlen : ys.length = N) (he : ys.set pos a = z)
    (n1 : m (Str.ofString "pos") = some (.int ((pos : Nat) : Int) tk)) (n2 : m (Str.ofString "heap") = some (.ref l)) (n3 : m (Str.ofString "newitem") = some (.ref a)) :
    SdJ s g L l a N z .next { s with heap := h, toks := t }
set_option maxHeartbeats 1000000 in
theorem siftdown_c {w : World} {A : Around} {s : Shared} {g : Heap} {l : Addr} {xs : List Addr} {r : Addr → Int} {S : Addr → Prop} {sp p : Nat} {a : Addr} {t1 t2 : Tok} {Q : Value → Shared → Prop}
    (hA : Low A 8) (X : (Kc w.params).In g) (hg : Keep g s.heap) (gl : g.get? l = none) (LT : LtOk w g r S) (hl : RL s.heap l xs) (hS : ∀ x ∈ xs, S x)
    (hp : xs[p]? = some a) (hz : xs.length ≤ 100)
    (hQ : ∀ h' t', Heap.ExtBut l s.heap h' → RL h' l (sdGo r a sp p xs p) → Q .none { s with heap := h', toks := t' }) :
    wpAny (model PP w) A (call (.ref 42) [.ref l, .int sp t1, .int p t2]) Q (fun _ _ => False) s := by
  have hpl : p < xs.length := by
    rcases Nat.lt_or_ge p xs.length with h | h
    · exact h
    · rw [List.getElem?_eq_none h] at hp; cases hp
  have XS := Frag.In.keeps X hg
  refine call_static (n := 7) (a := 42) (binds := [(Str.ofString "heap", .ref l), (Str.ofString "startpos", .int sp t1), (Str.ofString "pos", .int p t2)]) hA XS rfl rfl rfl rfl (.of_eq rfl) (by decide) (locs rfl) ?_
  intro A' h₀ L hA' F
  have gk : Keep g (s.heap.hide l) := fun b o e => (Heap.hide_ne s.heap (fun (q : b = l) => by rw [q, gl] at e; cases e)).trans (hg b o e)
  have c0 : Cx (s.heap.hide l) L l _ xs h₀ := ⟨⟨F.ns, fun b o e => F.keep b o (Heap.of_hide e), by rw [Heap.hide_size]; exact F.above⟩, hl.keep F.keep,
    Nat.ne_of_lt (Nat.lt_of_lt_of_le hl.lt F.above), Heap.hide_self _ _⟩
  have LT' : LtOk w (s.heap.hide l) r S := fun A s' a b Q h1 h2 => LT A s' a b Q h1 (fun c o e => h2 c o (gk c o e))
  clear LT F
  refine wpAny_execs_cons ?_
  refine wpAny_Assign_Name ?_
  refine Subscript_ ?_
  ((refine cx_name (by assumption) (by (first | assumption | exact if_pos rfl | ((repeat refine (if_neg (by decide)).trans ?_); first | assumption | exact if_pos rfl | rfl) | rfl)) ?_; try dsimp only))
  ((refine cx_name (by assumption) (by (first | assumption | exact if_pos rfl | ((repeat refine (if_neg (by decide)).trans ?_); first | assumption | exact if_pos rfl | rfl) | rfl)) ?_; try dsimp only))
  refine cx_get c0 (Int.natCast_nonneg _) (by omega) (by simpa using hp) ?_
  refine cx_store (l := l) (xs := xs) c0 ?_
  intro h1 c1
  dsimp only
  refine wpAny_execs_cons ?_
  refine wpAny_mono (Q := SdJ s (s.heap.hide l) L l a xs.length (sdGo r a sp p xs p)) (wpAny_While ?_) ?_ (fun _ _ x => x)
  · refine codeAny_whileLoop (SdI s (s.heap.hide l) L l r S a sp xs.length (sdGo r a sp p xs p) t1) ?_ p (.mk c1 hpl rfl hS (Nat.le_refl _) rfl rfl rfl rfl rfl)
    clear c1 c0
    rintro pos _ ⟨c, hpos, hlen, hSy, hf, hgo, m1, m2, m3, m4⟩
    rename_i h t m ys f tk
    refine wpAny_isTrue_Compare1 ?_
    ((refine cx_name (by assumption) (by (first | assumption | exact if_pos rfl | ((repeat refine (if_neg (by decide)).trans ?_); first | assumption | exact if_pos rfl | rfl) | rfl)) ?_; try dsimp only))
    ((refine cx_name (by assumption) (by (first | assumption | exact if_pos rfl | ((repeat refine (if_neg (by decide)).trans ?_); first | assumption | exact if_pos rfl | rfl) | rfl)) ?_; try dsimp only))
    refine gt_int ?_
    refine wpAny_truthy_bool ?_
    by_cases hlt : sp < pos
    · rw [decide_eq_true (show (sp : Int) < (pos : Int) by omega), if_pos rfl]
      obtain ⟨f, rfl⟩ : ∃ f', f = f' + 1 := ⟨f - 1, by omega⟩
      have hq : (pos - 1) / 2 < ys.length := by omega
      obtain ⟨par, hpar⟩ : ∃ par, ys[(pos - 1) / 2]? = some par := ⟨_, List.getElem?_eq_getElem hq⟩
      rw [sdGo, if_pos hlt, hpar] at hgo
      dsimp only at hgo
      refine wpAny_execs_cons ?_
      refine wpAny_Assign_Name ?_
      refine wpAny_BinOp ?_
      refine wpAny_BinOp ?_
      ((refine cx_name (by assumption) (by (first | assumption | exact if_pos rfl | ((repeat refine (if_neg (by decide)).trans ?_); first | assumption | exact if_pos rfl | rfl) | rfl)) ?_; try dsimp only))
      refine wpAny_Constant_int ?_
      refine sub_int ?_
      refine wpAny_Constant_int ?_
      refine wpAny_rshift1_int (by omega) ?_
      refine cx_store (l := l) (xs := ys) c ?_
      intro h1 c1
      dsimp only
      have hq' : ((pos : Int) - 1) / 2 = (((pos - 1) / 2 : Nat) : Int) := by omega
      rw [hq'] at c1
      refine wpAny_execs_cons ?_
      refine wpAny_Assign_Name ?_
      refine Subscript_ ?_
      ((refine cx_name (by assumption) (by (first | assumption | exact if_pos rfl | ((repeat refine (if_neg (by decide)).trans ?_); first | assumption | exact if_pos rfl | rfl) | rfl)) ?_; try dsimp only))
      ((refine cx_name (by assumption) (by (first | assumption | exact if_pos rfl | ((repeat refine (if_neg (by decide)).trans ?_); first | assumption | exact if_pos rfl | rfl) | rfl)) ?_; try dsimp only))
      refine cx_get c1 (Int.natCast_nonneg _) (by omega) (by rw [Int.toNat_natCast]; exact hpar) ?_
      refine cx_store (l := l) (xs := ys) c1 ?_
      intro h2 c2
      dsimp only
      refine wpAny_execs_cons ?_
      refine wpAny_If ?_
      refine wpAny_isTrue_Compare1 ?_
      ((refine cx_name (by assumption) (by (first | assumption | exact if_pos rfl | ((repeat refine (if_neg (by decide)).trans ?_); first | assumption | exact if_pos rfl | rfl) | rfl)) ?_; try dsimp only))
      ((refine cx_name (by assumption) (by (first | assumption | exact if_pos rfl | ((repeat refine (if_neg (by decide)).trans ?_); first | assumption | exact if_pos rfl | rfl) | rfl)) ?_; try dsimp only))
      have hSa : S a := hS a (List.mem_of_getElem? hp)
      refine cx_lt c2 LT' hA' (by decide) hSa (hSy par (List.mem_of_getElem? hpar)) ?_
      intro h3 t3 c3
      refine wpAny_truthy_bool ?_
      by_cases hr : r a < r par
      · rw [decide_eq_true hr, if_pos rfl]
        rw [if_pos hr] at hgo
        refine wpAny_execs_cons ?_
        refine wpAny_Assign_Subscript ?_
        ((refine cx_name (by assumption) (by (first | assumption | exact if_pos rfl | ((repeat refine (if_neg (by decide)).trans ?_); first | assumption | exact if_pos rfl | rfl) | rfl)) ?_; try dsimp only))
        ((refine cx_name (by assumption) (by (first | assumption | exact if_pos rfl | ((repeat refine (if_neg (by decide)).trans ?_); first | assumption | exact if_pos rfl | rfl) | rfl)) ?_; try dsimp only))
        ((refine cx_name (by assumption) (by (first | assumption | exact if_pos rfl | ((repeat refine (if_neg (by decide)).trans ?_); first | assumption | exact if_pos rfl | rfl) | rfl)) ?_; try dsimp only))
        refine cx_set c3 (Int.natCast_nonneg _) (by omega) (by simpa using hpos) ?_
        intro h4 c4
        rw [Int.toNat_natCast] at c4
        dsimp only
        refine wpAny_execs_cons ?_
        refine wpAny_Assign_Name ?_
        ((refine cx_name (by assumption) (by (first | assumption | exact if_pos rfl | ((repeat refine (if_neg (by decide)).trans ?_); first | assumption | exact if_pos rfl | rfl) | rfl)) ?_; try dsimp only))
        refine cx_store (l := l) (xs := ys.set pos par) c4 ?_
        intro h5 c5
        dsimp only
        refine wpAny_execs_cons ?_
        refine SiftDown.continue_ ?_
        refine ⟨(pos - 1) / 2, by omega, .mk c5 (by rw [List.length_set]; omega) (by rw [List.length_set]; exact hlen) ?_ (by omega) hgo (by (first | assumption | exact if_pos rfl | ((repeat refine (if_neg (by decide)).trans ?_); first | assumption | exact if_pos rfl | rfl) | rfl)) (by (first | assumption | exact if_pos rfl | ((repeat refine (if_neg (by decide)).trans ?_); first | assumption | exact if_pos rfl | rfl) | rfl)) (by (first | assumption | exact if_pos rfl | ((repeat refine (if_neg (by decide)).trans ?_); first | assumption | exact if_pos rfl | rfl) | rfl)) (by (first | assumption | exact if_pos rfl | ((repeat refine (if_neg (by decide)).trans ?_); first | assumption | exact if_pos rfl | rfl) | rfl))⟩
        intro y hy
        rcases List.mem_or_eq_of_mem_set hy with hy | rfl
        · exact hSy y hy
        · exact hSy y (List.mem_of_getElem? hpar)
      · rw [decide_eq_false hr, if_neg (by decide)]
        rw [if_neg hr] at hgo
        refine wpAny_execs_nil ?_
        dsimp only
        refine wpAny_execs_cons ?_
        refine SiftDown.break_ ?_
        exact .mk c3 hpos hlen hgo (by (first | assumption | exact if_pos rfl | ((repeat refine (if_neg (by decide)).trans ?_); first | assumption | exact if_pos rfl | rfl) | rfl)) (by (first | assumption | exact if_pos rfl | ((repeat refine (if_neg (by decide)).trans ?_); first | assumption | exact if_pos rfl | rfl) | rfl)) (by (first | assumption | exact if_pos rfl | ((repeat refine (if_neg (by decide)).trans ?_); first | assumption | exact if_pos rfl | rfl) | rfl))
    · rw [decide_eq_false (show ¬ (sp : Int) < (pos : Int) by omega), if_neg (by decide)]
      refine wpAny_execs_nil ?_
      refine .mk c hpos hlen ?_ m1 m2 m4
      rw [← hgo]
      cases f with
      | zero => rfl
      | succ f => rw [sdGo, if_neg hlt]
  · clear c0 c1
    rintro _ _ ⟨c, hpos, hlen, he, n1, n2, n3⟩
    rename_i h t m pos ys tk
    dsimp only
    refine wpAny_execs_cons ?_
    refine wpAny_Assign_Subscript ?_
    ((refine cx_name (by assumption) (by (first | assumption | exact if_pos rfl | ((repeat refine (if_neg (by decide)).trans ?_); first | assumption | exact if_pos rfl | rfl) | rfl)) ?_; try dsimp only))
    ((refine cx_name (by assumption) (by (first | assumption | exact if_pos rfl | ((repeat refine (if_neg (by decide)).trans ?_); first | assumption | exact if_pos rfl | rfl) | rfl)) ?_; try dsimp only))
    ((refine cx_name (by assumption) (by (first | assumption | exact if_pos rfl | ((repeat refine (if_neg (by decide)).trans ?_); first | assumption | exact if_pos rfl | rfl) | rfl)) ?_; try dsimp only))
    refine cx_set c (Int.natCast_nonneg _) (by omega) (by simpa using hpos) ?_
    intro h3 c3
    refine wpAny_execs_nil ?_
    refine hQ h3 t ?_ ?_
    · intro b o hb e
      exact c3.fr.keep b o ((Heap.hide_ne s.heap hb).trans e)
    · rw [← he]; simpa using c3.li
end Mine
end
section
open PySem PySem.W PySem.W.X PyProof.Rows
set_option Elab.async false
set_option maxRecDepth 100000
set_option pp.maxSteps 1200
namespace Mine
/-- what stands throughout: the text's own objects, its names, the built-ins' names -/
structure Amb (w : World) (g : Heap) : Prop where
  X : (Kc w.params).In g
  G : ∃ mg, g.Ns mainGlobals mg
  B : ∃ mb, g.Ns builtinsNs mb ∧ ∀ x : Str, x ≠ "__name__" → mb x = bootBuiltins x
theorem Amb.keep {w : World} {g h : Heap} (a : Amb w g) (k : Keep g h) : Amb w h :=
  ⟨Frag.In.keeps a.X k, let ⟨mg, x⟩ := a.G; ⟨mg, x.keeps k⟩, let ⟨mb, x, y⟩ := a.B; ⟨mb, x.keeps k, y⟩⟩

section
variable {w : World} {A : Around} {s : Shared} {g : Heap} {L l : Addr} {m : Str → Option Value} {xs : List Addr} {env : Env} {E : Value → Shared → Prop}
theorem nm_glob {x : Str} {pos : Pos} {v : Value} {Q : Value → Shared → Prop} (B : Amb w g) (k : Keep g s.heap) (e : nsIn (Kc w.params) mainGlobals x = some (some v)) (h : Q v s)
    (hk : env.scope.kind = .function := by rfl) (hx : env.kindOf x = some .globalImplicit := by rfl) (hg : env.globals = mainGlobals := by rfl) (hb : (x == ("__debug__" : Str)) = false := by decide) :
    wpAny (model PP w) A (eval (.Name x pos) env) Q E s := by
  obtain ⟨mg, G⟩ := B.G
  exact Calls.Name_function_global hk hx (Calls.loadGlobal_global (by rw [hg]; exact G.keeps k) (mg_of B.X G e) h) hb
theorem nm_built {x : Str} {pos : Pos} {v : Value} {Q : Value → Shared → Prop} (B : Amb w g) (k : Keep g s.heap) (e : nsIn (Kc w.params) mainGlobals x = some none) (hv : bootBuiltins x = some v) (h : Q v s)
    (hn : x ≠ "__name__" := by decide)
    (hk : env.scope.kind = .function := by rfl) (hx : env.kindOf x = some .globalImplicit := by rfl) (hg : env.globals = mainGlobals := by rfl) (hbn : env.builtins = builtinsNs := by rfl) (hb : (x == ("__debug__" : Str)) = false := by decide) :
    wpAny (model PP w) A (eval (.Name x pos) env) Q E s := by
  obtain ⟨mg, G⟩ := B.G
  obtain ⟨mb, B1, B2⟩ := B.B
  exact Calls.Name_function_global hk hx (Calls.loadGlobal_builtin (by rw [hg]; exact G.keeps k) (mg_none_of B.X G e) (by rw [hbn]; exact B1.keeps k) ((B2 x hn).trans hv) h) hb
theorem cw_static {pos : Pos} {f : Addr} {o : Obj} {fd : FuncData} {e : Expr} {rest : List Expr} {Q : Value → Shared → Prop} (B : Amb w g) (hl : (Kc w.params).lookup f = some o) (hdat : o.data = .func fd)
    (h : wpAny (model PP w) A (spliced (backTo pos (starEach (e :: rest) env))) (fun vs s₁ => Keep g s₁.heap ∧ wpAny (model PP w) A (call (.ref f) vs) Q E s₁) E s)
    (he : starEach (e :: rest) env = (false, eval e env) :: starEach rest env := by rfl) :
    wpAny (model PP w) A (callWith pos (.ref f) [] (backTo pos (starEach (e :: rest) env)) []) Q E s :=
  callWith_def hdat (wpAny_mono h (fun _ _ x => ⟨x.1 _ _ (B.X _ _ hl), x.2⟩) fun _ _ x => x) he
theorem cx_len {Q : Value → Shared → Prop} (c : Cx g L l m xs s.heap) (hz : xs.length ≤ 100) (h : ∀ t t', Q (.int xs.length t) { s with toks := t' }) : wpAny (model PP w) A (call (.builtin "len") [.ref l]) Q E s :=
  len_list c.li.isList (by simp; omega) (by simpa using h _ _)
end

theorem hide_keep {g h : Heap} {l : Addr} (k : Keep g h) (gl : g.get? l = none) : Keep g (h.hide l) := fun b o e => (Heap.hide_ne h (fun (q : b = l) => by rw [q, gl] at e; cases e)).trans (k b o e)
theorem LtOk.keep {w : World} {g g' : Heap} {r : Addr → Int} {S : Addr → Prop} (LT : LtOk w g r S) (k : Keep g g') : LtOk w g' r S := fun A s' a b Q h1 h2 => LT A s' a b Q h1 (fun c o e => h2 c o (k c o e))
theorem cx_start {h h₀ : Heap} {L l : Addr} {m : Str → Option Value} {xs : List Addr} (F : Fr h L h₀ m) (hl : RL h l xs) : Cx (h.hide l) L l m xs h₀ :=
  ⟨⟨F.ns, fun b o e => F.keep b o (Heap.of_hide e), by rw [Heap.hide_size]; exact F.above⟩, hl.keep F.keep, Nat.ne_of_lt (Nat.lt_of_lt_of_le hl.lt F.above), Heap.hide_self _ _⟩
/-- behind a call that turned the list alone -/
theorem Cx.call {g h h' : Heap} {L l : Addr} {m : Str → Option Value} {xs ys : List Addr} (c : Cx g L l m xs h) (k : Heap.ExtBut l h h') (hl : RL h' l ys) : Cx g L l m ys h' :=
  ⟨⟨c.fr.ns.extBut k (Ne.symm c.ne), fun b o e => k b o (fun q => by rw [q, c.gl] at e; cases e) (c.fr.keep b o e), c.fr.above⟩, hl, c.ne, c.gl⟩

noncomputable def suPick (r : Addr → Int) (xs : List Addr) (c : Nat) : Nat :=
  match xs[c]?, xs[c + 1]? with
  | some x, some y => if r x < r y then c else c + 1
  | _, _ => c
noncomputable def suGo (r : Addr → Int) : Nat → List Addr → Nat → List Addr × Nat
  | 0, xs, pos => (xs, pos)
  | f + 1, xs, pos => match xs[suPick r xs (2 * pos + 1)]? with
    | some y => suGo r f (xs.set pos y) (suPick r xs (2 * pos + 1))
    | none => (xs, pos)
noncomputable def suF (r : Addr → Int) (xs : List Addr) (pos : Nat) (a : Addr) : List Addr :=
  let q := suGo r xs.length xs pos
  sdGo r a pos q.2 (q.1.set q.2 a) q.2
theorem suPick_none {r : Addr → Int} {xs : List Addr} {c : Nat} (h : xs.length ≤ c) : suPick r xs c = c := by
  unfold suPick
  rw [List.getElem?_eq_none h]
theorem suPick_ge {r : Addr → Int} {xs : List Addr} {c : Nat} : c ≤ suPick r xs c := by
  unfold suPick; split
  · split <;> omega
  · omega
theorem suPick_lt {r : Addr → Int} {xs : List Addr} {c : Nat} (h : c < xs.length) : suPick r xs c < xs.length := by
  unfold suPick; split
  · rename_i x y _ hy
    have : c + 1 < xs.length := by
      rcases Nat.lt_or_ge (c + 1) xs.length with q | q
      · exact q
      · rw [List.getElem?_eq_none q] at hy; cases hy
    split <;> omega
  · exact h
theorem suGo_fuel {r : Addr → Int} : ∀ {f f' : Nat} {xs : List Addr} {pos : Nat}, xs.length ≤ f + pos → xs.length ≤ f' + pos → pos < xs.length → suGo r f xs pos = suGo r f' xs pos
  | 0, _, xs, pos, h, _, hp => by omega
  | _, 0, xs, pos, _, h, hp => by omega
  | f + 1, f' + 1, xs, pos, h, h', hp => by
    rw [suGo, suGo]
    split
    · rename_i y hy
      have ge : 2 * pos + 1 ≤ suPick r xs (2 * pos + 1) := suPick_ge
      have lt : suPick r xs (2 * pos + 1) < xs.length := by
        rcases Nat.lt_or_ge (suPick r xs (2 * pos + 1)) xs.length with q | q
        · exact q
        · rw [List.getElem?_eq_none q] at hy; cases hy
      exact suGo_fuel (by rw [List.length_set]; omega) (by rw [List.length_set]; omega) (by rw [List.length_set]; exact lt)
    · rfl

inductive SuJ (s : Shared) (g : Heap) (L l : Addr) (S : Addr → Prop) (a : Addr) (p N : Nat) (z : List Addr × Nat) : Flow → Shared → Prop
  | mk {h t m pos ys tk ts} (c : Cx g L l m ys h) (hpos : pos < ys.length) (hlen : ys.length = N) (hSy : ∀ y ∈ ys, S y) (he : z = (ys, pos))
    (n1 : m (Str.ofString "pos") = some (.int ((pos : Nat) : Int) tk)) (n2 : m (Str.ofString "heap") = some (.ref l)) (n3 : m (Str.ofString "newitem") = some (.ref a)) (n4 : m (Str.ofString "startpos") = some (.int ((p : Nat) : Int) ts)) :
    SuJ s g L l S a p N z .next { s with heap := h, toks := t }
inductive SuI (s : Shared) (g : Heap) (L l : Addr) (r : Addr → Int) (S : Addr → Prop) (a : Addr) (p N : Nat) (z : List Addr × Nat) (n : Nat) : Shared → Prop
  | mk {h t m pos ys f tk tc te ts} (hn : n = N - pos) (c : Cx g L l m ys h) (hpos : pos < ys.length) (hlen : ys.length = N) (hSy : ∀ y ∈ ys, S y) (hf : N ≤ f + pos) (hgo : suGo r f ys pos = z)
    (m1 : m (Str.ofString "pos") = some (.int ((pos : Nat) : Int) tk)) (m2 : m (Str.ofString "childpos") = some (.int ((2 * pos + 1 : Nat) : Int) tc)) (m3 : m (Str.ofString "endpos") = some (.int (N : Int) te))
    (m4 : m (Str.ofString "heap") = some (.ref l)) (m5 : m (Str.ofString "newitem") = some (.ref a)) (m6 : m (Str.ofString "startpos") = some (.int ((p : Nat) : Int) ts)) :
    SuI s g L l r S a p N z n { s with heap := h, toks := t }
inductive SuC (s : Shared) (g : Heap) (L l a : Addr) (ys : List Addr) (q pos p N : Nat) (tk te ts : Tok) : Flow → Shared → Prop
  | mk {h t m tq} (c : Cx g L l m ys h) (m1 : m (Str.ofString "childpos") = some (.int ((q : Nat) : Int) tq))
    (m2 : m (Str.ofString "pos") = some (.int ((pos : Nat) : Int) tk)) (m3 : m (Str.ofString "endpos") = some (.int (N : Int) te))
    (m4 : m (Str.ofString "heap") = some (.ref l)) (m5 : m (Str.ofString "newitem") = some (.ref a)) (m6 : m (Str.ofString "startpos") = some (.int ((p : Nat) : Int) ts)) :
    SuC s g L l a ys q pos p N tk te ts .next { s with heap := h, toks := t }
set_option maxHeartbeats 2000000 in
theorem siftup_c {w : World} {A : Around} {s : Shared} {g : Heap} {l : Addr} {xs : List Addr} {r : Addr → Int} {S : Addr → Prop} {p : Nat} {a : Addr} {t2 : Tok} {Q : Value → Shared → Prop}
    (hA : Low A 10) (B : Amb w g) (hg : Keep g s.heap) (gl : g.get? l = none) (LT : LtOk w g r S) (hl : RL s.heap l xs) (hS : ∀ x ∈ xs, S x)
    (hp : xs[p]? = some a) (hz : xs.length ≤ 100)
    (hQ : ∀ h' t', Heap.ExtBut l s.heap h' → RL h' l (suF r xs p a) → Q .none { s with heap := h', toks := t' }) :
    wpAny (model PP w) A (call (.ref 49) [.ref l, .int p t2]) Q (fun _ _ => False) s := by
  have hpl : p < xs.length := by
    rcases Nat.lt_or_ge p xs.length with h | h
    · exact h
    · rw [List.getElem?_eq_none h] at hp; cases hp
  refine call_static (n := 9) (a := 49) (binds := [(Str.ofString "heap", .ref l), (Str.ofString "pos", .int p t2)]) hA (Frag.In.keeps B.X hg) rfl rfl rfl rfl (.of_eq rfl) (by decide) (locs rfl) ?_
  intro A' h₀ L hA' F
  have gk : Keep g (s.heap.hide l) := hide_keep hg gl
  have c0 := cx_start F hl
  have LT' := LT.keep gk
  have B' := B.keep gk
  clear F LT
  have hSa : S a := hS a (List.mem_of_getElem? hp)
  refine wpAny_execs_cons ?_
  refine wpAny_Assign_Name ?_
  refine Call_ ?_
  refine nm_built B' c0.fr.keep rfl boot_len ?_
  refine PyProof.Rows.callWith_builtin1 ?_
  refine args_cons ?_
  ((refine cx_name (by assumption) (by (first | assumption | exact if_pos rfl | ((repeat refine (if_neg (by decide)).trans ?_); first | assumption | exact if_pos rfl | rfl) | rfl)) ?_; try dsimp only))
  refine args_nil ?_
  refine cx_len c0 hz ?_
  intro te t1
  refine cx_store (l := l) (xs := xs) c0 ?_
  intro h1 c1
  dsimp only
  refine wpAny_execs_cons ?_
  refine wpAny_Assign_Name ?_
  ((refine cx_name (by assumption) (by (first | assumption | exact if_pos rfl | ((repeat refine (if_neg (by decide)).trans ?_); first | assumption | exact if_pos rfl | rfl) | rfl)) ?_; try dsimp only))
  refine cx_store (l := l) (xs := xs) c1 ?_
  intro h2 c2
  dsimp only
  refine wpAny_execs_cons ?_
  refine wpAny_Assign_Name ?_
  refine Subscript_ ?_
  ((refine cx_name (by assumption) (by (first | assumption | exact if_pos rfl | ((repeat refine (if_neg (by decide)).trans ?_); first | assumption | exact if_pos rfl | rfl) | rfl)) ?_; try dsimp only))
  ((refine cx_name (by assumption) (by (first | assumption | exact if_pos rfl | ((repeat refine (if_neg (by decide)).trans ?_); first | assumption | exact if_pos rfl | rfl) | rfl)) ?_; try dsimp only))
  refine cx_get c2 (Int.natCast_nonneg _) (by omega) (by simpa using hp) ?_
  refine cx_store (l := l) (xs := xs) c2 ?_
  intro h3 c3
  dsimp only
  refine wpAny_execs_cons ?_
  refine wpAny_Assign_Name ?_
  refine wpAny_BinOp ?_
  refine wpAny_BinOp ?_
  refine wpAny_Constant_int ?_
  ((refine cx_name (by assumption) (by (first | assumption | exact if_pos rfl | ((repeat refine (if_neg (by decide)).trans ?_); first | assumption | exact if_pos rfl | rfl) | rfl)) ?_; try dsimp only))
  refine mul_int ?_ (.of_left (by decide))
  refine wpAny_Constant_int ?_
  refine add_int ?_
  refine cx_store (l := l) (xs := xs) c3 ?_
  intro h4 c4
  dsimp only
  have e4 : (2 : Int) * (p : Int) + 1 = ((2 * p + 1 : Nat) : Int) := by omega
  rw [e4] at c4
  refine wpAny_execs_cons ?_
  refine wpAny_mono (Q := SuJ s (s.heap.hide l) L l S a p xs.length (suGo r xs.length xs p)) (wpAny_While ?_) ?_ (fun _ _ x => x)
  · refine codeAny_whileLoop (SuI s (s.heap.hide l) L l r S a p xs.length (suGo r xs.length xs p)) ?_ (xs.length - p)
      (.mk rfl c4 hpl rfl hS (by omega) rfl (by (first | assumption | exact if_pos rfl | ((repeat refine (if_neg (by decide)).trans ?_); first | assumption | exact if_pos rfl | rfl) | rfl)) (by (first | assumption | exact if_pos rfl | ((repeat refine (if_neg (by decide)).trans ?_); first | assumption | exact if_pos rfl | rfl) | rfl)) (by (first | assumption | exact if_pos rfl | ((repeat refine (if_neg (by decide)).trans ?_); first | assumption | exact if_pos rfl | rfl) | rfl)) (by (first | assumption | exact if_pos rfl | ((repeat refine (if_neg (by decide)).trans ?_); first | assumption | exact if_pos rfl | rfl) | rfl)) (by (first | assumption | exact if_pos rfl | ((repeat refine (if_neg (by decide)).trans ?_); first | assumption | exact if_pos rfl | rfl) | rfl)) (by (first | assumption | exact if_pos rfl | ((repeat refine (if_neg (by decide)).trans ?_); first | assumption | exact if_pos rfl | rfl) | rfl)))
    clear c0 c1 c2 c3 c4 e4
    rintro n _ ⟨rfl, c, hpos, hlen, hSy, hf, hgo, m1, m2, m3, m4, m5, m6⟩
    rename_i h t m pos ys f tk tc te ts
    refine wpAny_isTrue_Compare1 ?_
    ((refine cx_name (by assumption) (by (first | assumption | exact if_pos rfl | ((repeat refine (if_neg (by decide)).trans ?_); first | assumption | exact if_pos rfl | rfl) | rfl)) ?_; try dsimp only))
    ((refine cx_name (by assumption) (by (first | assumption | exact if_pos rfl | ((repeat refine (if_neg (by decide)).trans ?_); first | assumption | exact if_pos rfl | rfl) | rfl)) ?_; try dsimp only))
    refine lt_int ?_
    refine wpAny_truthy_bool ?_
    obtain ⟨f, rfl⟩ : ∃ f', f = f' + 1 := ⟨f - 1, by omega⟩
    by_cases hlt : 2 * pos + 1 < xs.length
    · rw [decide_eq_true (show ((2 * pos + 1 : Nat) : Int) < (xs.length : Int) by omega), if_pos rfl]
      have hc : 2 * pos + 1 < ys.length := by omega
      refine wpAny_execs_cons ?_
      refine wpAny_Assign_Name ?_
      refine wpAny_BinOp ?_
      ((refine cx_name (by assumption) (by (first | assumption | exact if_pos rfl | ((repeat refine (if_neg (by decide)).trans ?_); first | assumption | exact if_pos rfl | rfl) | rfl)) ?_; try dsimp only))
      refine wpAny_Constant_int ?_
      refine add_int ?_
      refine cx_store (l := l) (xs := ys) c ?_
      intro h1 c1
      dsimp only
      have e1 : ((2 * pos + 1 : Nat) : Int) + 1 = ((2 * pos + 2 : Nat) : Int) := by omega
      rw [e1] at c1
      refine wpAny_execs_cons ?_
      -- the if picks the child
      refine wpAny_mono (Q := SuC s (s.heap.hide l) L l a ys (suPick r ys (2 * pos + 1)) pos p xs.length tk te ts) (wpAny_If ?_) ?_ (fun _ _ x => x)
      · refine isTrue_and ?_
        refine wpAny_isTrue_Compare1 ?_
        ((refine cx_name (by assumption) (by (first | assumption | exact if_pos rfl | ((repeat refine (if_neg (by decide)).trans ?_); first | assumption | exact if_pos rfl | rfl) | rfl)) ?_; try dsimp only))
        ((refine cx_name (by assumption) (by (first | assumption | exact if_pos rfl | ((repeat refine (if_neg (by decide)).trans ?_); first | assumption | exact if_pos rfl | rfl) | rfl)) ?_; try dsimp only))
        refine lt_int ?_
        refine wpAny_truthy_bool ?_
        by_cases hr : 2 * pos + 2 < xs.length
        · rw [decide_eq_true (show ((2 * pos + 2 : Nat) : Int) < (xs.length : Int) by omega), if_pos rfl]
          obtain ⟨x, hx⟩ : ∃ x, ys[2 * pos + 1]? = some x := ⟨_, List.getElem?_eq_getElem hc⟩
          obtain ⟨y, hy⟩ : ∃ y, ys[2 * pos + 2]? = some y := ⟨_, List.getElem?_eq_getElem (by omega)⟩
          have pk : suPick r ys (2 * pos + 1) = if r x < r y then 2 * pos + 1 else 2 * pos + 2 := by
            unfold suPick
            rw [hx, hy]
          refine isTrue_and ?_
          refine isTrue_not ?_
          refine wpAny_isTrue_Compare1 ?_
          refine Subscript_ ?_
          ((refine cx_name (by assumption) (by (first | assumption | exact if_pos rfl | ((repeat refine (if_neg (by decide)).trans ?_); first | assumption | exact if_pos rfl | rfl) | rfl)) ?_; try dsimp only))
          ((refine cx_name (by assumption) (by (first | assumption | exact if_pos rfl | ((repeat refine (if_neg (by decide)).trans ?_); first | assumption | exact if_pos rfl | rfl) | rfl)) ?_; try dsimp only))
          refine cx_get c1 (Int.natCast_nonneg _) (by omega) (by rw [Int.toNat_natCast]; exact hx) ?_
          refine Subscript_ ?_
          ((refine cx_name (by assumption) (by (first | assumption | exact if_pos rfl | ((repeat refine (if_neg (by decide)).trans ?_); first | assumption | exact if_pos rfl | rfl) | rfl)) ?_; try dsimp only))
          ((refine cx_name (by assumption) (by (first | assumption | exact if_pos rfl | ((repeat refine (if_neg (by decide)).trans ?_); first | assumption | exact if_pos rfl | rfl) | rfl)) ?_; try dsimp only))
          refine cx_get c1 (Int.natCast_nonneg _) (by omega) (by rw [Int.toNat_natCast]; exact hy) ?_
          refine cx_lt c1 LT' hA' (by decide) (hSy x (List.mem_of_getElem? hx)) (hSy y (List.mem_of_getElem? hy)) ?_
          intro h2 t2 c2
          refine wpAny_truthy_bool ?_
          by_cases hxy : r x < r y
          · rw [decide_eq_true hxy]
            rw [if_pos hxy] at pk
            dsimp only [Bool.not_true, Bool.false_eq_true, if_false]
            refine wpAny_execs_nil ?_
            rw [pk]
            exact .mk c2 (by (first | assumption | exact if_pos rfl | ((repeat refine (if_neg (by decide)).trans ?_); first | assumption | exact if_pos rfl | rfl) | rfl)) (by (first | assumption | exact if_pos rfl | ((repeat refine (if_neg (by decide)).trans ?_); first | assumption | exact if_pos rfl | rfl) | rfl)) (by (first | assumption | exact if_pos rfl | ((repeat refine (if_neg (by decide)).trans ?_); first | assumption | exact if_pos rfl | rfl) | rfl)) (by (first | assumption | exact if_pos rfl | ((repeat refine (if_neg (by decide)).trans ?_); first | assumption | exact if_pos rfl | rfl) | rfl)) (by (first | assumption | exact if_pos rfl | ((repeat refine (if_neg (by decide)).trans ?_); first | assumption | exact if_pos rfl | rfl) | rfl)) (by (first | assumption | exact if_pos rfl | ((repeat refine (if_neg (by decide)).trans ?_); first | assumption | exact if_pos rfl | rfl) | rfl))
          · rw [decide_eq_false hxy]
            rw [if_neg hxy] at pk
            dsimp only [Bool.not_false, if_true]
            refine isTrue_and_nil ?_
            rw [if_pos rfl]
            refine wpAny_execs_cons ?_
            refine wpAny_Assign_Name ?_
            ((refine cx_name (by assumption) (by (first | assumption | exact if_pos rfl | ((repeat refine (if_neg (by decide)).trans ?_); first | assumption | exact if_pos rfl | rfl) | rfl)) ?_; try dsimp only))
            refine cx_store (l := l) (xs := ys) c2 ?_
            intro h3 c3
            dsimp only
            refine wpAny_execs_nil ?_
            rw [pk]
            exact .mk c3 (by (first | assumption | exact if_pos rfl | ((repeat refine (if_neg (by decide)).trans ?_); first | assumption | exact if_pos rfl | rfl) | rfl)) (by (first | assumption | exact if_pos rfl | ((repeat refine (if_neg (by decide)).trans ?_); first | assumption | exact if_pos rfl | rfl) | rfl)) (by (first | assumption | exact if_pos rfl | ((repeat refine (if_neg (by decide)).trans ?_); first | assumption | exact if_pos rfl | rfl) | rfl)) (by (first | assumption | exact if_pos rfl | ((repeat refine (if_neg (by decide)).trans ?_); first | assumption | exact if_pos rfl | rfl) | rfl)) (by (first | assumption | exact if_pos rfl | ((repeat refine (if_neg (by decide)).trans ?_); first | assumption | exact if_pos rfl | rfl) | rfl)) (by (first | assumption | exact if_pos rfl | ((repeat refine (if_neg (by decide)).trans ?_); first | assumption | exact if_pos rfl | rfl) | rfl))
        · rw [decide_eq_false (show ¬ ((2 * pos + 2 : Nat) : Int) < (xs.length : Int) by omega), if_neg (by decide), if_neg (by decide)]
          refine wpAny_execs_nil ?_
          have pk : suPick r ys (2 * pos + 1) = 2 * pos + 1 := by
            unfold suPick
            rw [List.getElem?_eq_none (show ys.length ≤ 2 * pos + 1 + 1 by omega)]
            split <;> simp_all
          rw [pk]
          exact .mk c1 (by (first | assumption | exact if_pos rfl | ((repeat refine (if_neg (by decide)).trans ?_); first | assumption | exact if_pos rfl | rfl) | rfl)) (by (first | assumption | exact if_pos rfl | ((repeat refine (if_neg (by decide)).trans ?_); first | assumption | exact if_pos rfl | rfl) | rfl)) (by (first | assumption | exact if_pos rfl | ((repeat refine (if_neg (by decide)).trans ?_); first | assumption | exact if_pos rfl | rfl) | rfl)) (by (first | assumption | exact if_pos rfl | ((repeat refine (if_neg (by decide)).trans ?_); first | assumption | exact if_pos rfl | rfl) | rfl)) (by (first | assumption | exact if_pos rfl | ((repeat refine (if_neg (by decide)).trans ?_); first | assumption | exact if_pos rfl | rfl) | rfl)) (by (first | assumption | exact if_pos rfl | ((repeat refine (if_neg (by decide)).trans ?_); first | assumption | exact if_pos rfl | rfl) | rfl))
      · clear c c1
        rintro _ _ ⟨c, m1, m2, m3, m4, m5, m6⟩
        rename_i h t m tq
        dsimp only
        have ge : 2 * pos + 1 ≤ suPick r ys (2 * pos + 1) := suPick_ge
        have lt : suPick r ys (2 * pos + 1) < ys.length := suPick_lt hc
        obtain ⟨y, hy⟩ : ∃ y, ys[suPick r ys (2 * pos + 1)]? = some y := ⟨_, List.getElem?_eq_getElem lt⟩
        rw [suGo, hy] at hgo
        dsimp only at hgo
        generalize suPick r ys (2 * pos + 1) = q at *
        refine wpAny_execs_cons ?_
        refine wpAny_Assign_Subscript ?_
        refine Subscript_ ?_
        ((refine cx_name (by assumption) (by (first | assumption | exact if_pos rfl | ((repeat refine (if_neg (by decide)).trans ?_); first | assumption | exact if_pos rfl | rfl) | rfl)) ?_; try dsimp only))
        ((refine cx_name (by assumption) (by (first | assumption | exact if_pos rfl | ((repeat refine (if_neg (by decide)).trans ?_); first | assumption | exact if_pos rfl | rfl) | rfl)) ?_; try dsimp only))
        refine cx_get c (Int.natCast_nonneg _) (by omega) (by rw [Int.toNat_natCast]; exact hy) ?_
        ((refine cx_name (by assumption) (by (first | assumption | exact if_pos rfl | ((repeat refine (if_neg (by decide)).trans ?_); first | assumption | exact if_pos rfl | rfl) | rfl)) ?_; try dsimp only))
        ((refine cx_name (by assumption) (by (first | assumption | exact if_pos rfl | ((repeat refine (if_neg (by decide)).trans ?_); first | assumption | exact if_pos rfl | rfl) | rfl)) ?_; try dsimp only))
        refine cx_set c (Int.natCast_nonneg _) (by omega) (by simpa using hpos) ?_
        intro h2 c2
        rw [Int.toNat_natCast] at c2
        dsimp only
        refine wpAny_execs_cons ?_
        refine wpAny_Assign_Name ?_
        ((refine cx_name (by assumption) (by (first | assumption | exact if_pos rfl | ((repeat refine (if_neg (by decide)).trans ?_); first | assumption | exact if_pos rfl | rfl) | rfl)) ?_; try dsimp only))
        refine cx_store (l := l) (xs := ys.set pos y) c2 ?_
        intro h3 c3
        dsimp only
        refine wpAny_execs_cons ?_
        refine wpAny_Assign_Name ?_
        refine wpAny_BinOp ?_
        refine wpAny_BinOp ?_
        refine wpAny_Constant_int ?_
        ((refine cx_name (by assumption) (by (first | assumption | exact if_pos rfl | ((repeat refine (if_neg (by decide)).trans ?_); first | assumption | exact if_pos rfl | rfl) | rfl)) ?_; try dsimp only))
        refine mul_int ?_ (.of_left (by decide))
        refine wpAny_Constant_int ?_
        refine add_int ?_
        refine cx_store (l := l) (xs := ys.set pos y) c3 ?_
        intro h4 c4
        dsimp only
        have e4 : (2 : Int) * (q : Int) + 1 = ((2 * q + 1 : Nat) : Int) := by omega
        rw [e4] at c4
        refine wpAny_execs_nil ?_
        refine ⟨xs.length - q, by omega, .mk rfl c4 (by rw [List.length_set]; omega) (by rw [List.length_set]; exact hlen) ?_ (by omega) hgo (by (first | assumption | exact if_pos rfl | ((repeat refine (if_neg (by decide)).trans ?_); first | assumption | exact if_pos rfl | rfl) | rfl)) (by (first | assumption | exact if_pos rfl | ((repeat refine (if_neg (by decide)).trans ?_); first | assumption | exact if_pos rfl | rfl) | rfl)) (by (first | assumption | exact if_pos rfl | ((repeat refine (if_neg (by decide)).trans ?_); first | assumption | exact if_pos rfl | rfl) | rfl)) (by (first | assumption | exact if_pos rfl | ((repeat refine (if_neg (by decide)).trans ?_); first | assumption | exact if_pos rfl | rfl) | rfl)) (by (first | assumption | exact if_pos rfl | ((repeat refine (if_neg (by decide)).trans ?_); first | assumption | exact if_pos rfl | rfl) | rfl)) (by (first | assumption | exact if_pos rfl | ((repeat refine (if_neg (by decide)).trans ?_); first | assumption | exact if_pos rfl | rfl) | rfl))⟩
        intro z hz
        rcases List.mem_or_eq_of_mem_set hz with hz | rfl
        · exact hSy z hz
        · exact hSy _ (List.mem_of_getElem? hy)
    · rw [decide_eq_false (show ¬ ((2 * pos + 1 : Nat) : Int) < (xs.length : Int) by omega), if_neg (by decide)]
      refine wpAny_execs_nil ?_
      refine .mk c hpos hlen hSy ?_ m1 m4 m5 m6
      rw [← hgo, suGo, suPick_none (by omega), List.getElem?_eq_none (by omega)]
  · clear c0 c1 c2 c3 c4
    rintro _ _ ⟨c, hpos, hlen, hSy, he, n1, n2, n3, n4⟩
    rename_i h t m pos ys tk ts
    dsimp only
    refine wpAny_execs_cons ?_
    refine wpAny_Assign_Subscript ?_
    ((refine cx_name (by assumption) (by (first | assumption | exact if_pos rfl | ((repeat refine (if_neg (by decide)).trans ?_); first | assumption | exact if_pos rfl | rfl) | rfl)) ?_; try dsimp only))
    ((refine cx_name (by assumption) (by (first | assumption | exact if_pos rfl | ((repeat refine (if_neg (by decide)).trans ?_); first | assumption | exact if_pos rfl | rfl) | rfl)) ?_; try dsimp only))
    ((refine cx_name (by assumption) (by (first | assumption | exact if_pos rfl | ((repeat refine (if_neg (by decide)).trans ?_); first | assumption | exact if_pos rfl | rfl) | rfl)) ?_; try dsimp only))
    refine cx_set c (Int.natCast_nonneg _) (by omega) (by simpa using hpos) ?_
    intro h3 c3
    rw [Int.toNat_natCast] at c3
    dsimp only
    refine wpAny_execs_cons ?_
    refine wpAny_Expr ?_
    refine Call_ ?_
    refine nm_glob B' c3.fr.keep (v := .ref 42) rfl ?_
    refine cw_static (f := 42) B' rfl rfl ?_
    refine args_cons ?_
    ((refine cx_name (by assumption) (by (first | assumption | exact if_pos rfl | ((repeat refine (if_neg (by decide)).trans ?_); first | assumption | exact if_pos rfl | rfl) | rfl)) ?_; try dsimp only))
    refine args_cons ?_
    ((refine cx_name (by assumption) (by (first | assumption | exact if_pos rfl | ((repeat refine (if_neg (by decide)).trans ?_); first | assumption | exact if_pos rfl | rfl) | rfl)) ?_; try dsimp only))
    refine args_cons ?_
    ((refine cx_name (by assumption) (by (first | assumption | exact if_pos rfl | ((repeat refine (if_neg (by decide)).trans ?_); first | assumption | exact if_pos rfl | rfl) | rfl)) ?_; try dsimp only))
    refine args_nil ⟨c3.fr.keep, ?_⟩
    refine noE ?_
    refine siftdown_c (g := s.heap.hide l) (xs := ys.set pos a) (r := r) (S := S) (a := a) (hA'.less (by decide)) B'.X c3.fr.keep c3.gl LT' c3.li ?_ (by simp [hpos]) (by rw [List.length_set]; omega) ?_
    · intro z hz
      rcases List.mem_or_eq_of_mem_set hz with hz | rfl
      · exact hSy z hz
      · exact hSa
    intro h4 t4 k4 l4
    dsimp only
    refine wpAny_execs_nil ?_
    refine hQ h4 t4 ?_ ?_
    · intro b o hb e
      exact k4 b o hb (c3.fr.keep b o ((Heap.hide_ne s.heap hb).trans e))
    · unfold suF; rw [he]; exact l4
end Mine
end
section
open PySem PySem.W PySem.W.X PyProof.Rows
set_option Elab.async false
set_option maxRecDepth 100000
namespace Mine
theorem memKeep {h₀ h : Heap} {news : List (Addr × Obj)} (D : Mem h₀ h [] news) : ∀ b o, h₀.get? b = some o → h.get? b = some o := fun b o e => D.keep b o e (by simp [away])
/-- the other parts of the state -/
noncomputable abbrev Rest (s s' : Shared) : Prop := s'.gens = s.gens ∧ s'.drawn = s.drawn ∧ s'.os = s.os
section
theorem range_n {w : World} {A : Around} {h : Heap} {g : Array GenState} {d : Drawn} {t : Nat} {os : OsState} {n : Int} {u : Tok} :
    wpAny (model PP w) A (call (.type "range") [.int n u]) (fun v s' => ∃ a t1 t2, v = .ref a ∧ s'.heap.get? a = some ⟨.type "range", none, .fields #[.int 0 t1, .int n u, .int 1 t2], #[]⟩ ∧ (∀ b o, h.get? b = some o → s'.heap.get? b = some o) ∧ Rest ⟨h, g, d, t, os⟩ s') (fun _ _ => False) ⟨h, g, d, t, os⟩ :=
  call_range_1 ⟨_, _, _, rfl, Heap.get?_push_size _ rfl, fun b o e => Heap.get?_push_of_some _ e, rfl, rfl, rfl⟩
theorem range_x {w : World} {h : Heap} {g : Array GenState} {d : Drawn} {t : Nat} {os : OsState} {u : Tok} (KX : (Kc w.params).In h) :
    wpAny (model PP w) AA (call (.type "range") [.int 2 u]) (fun v s' => ∃ a t1 t2, v = .ref a ∧ s'.heap.get? a = some ⟨.type "range", none, .fields #[.int 0 t1, .int 2 u, .int 1 t2], #[]⟩ ∧ (∀ b o, h.get? b = some o → s'.heap.get? b = some o) ∧ Rest ⟨h, g, d, t, os⟩ s') (fun _ _ => False) ⟨h, g, d, t, os⟩ := range_n
end
end Mine
end
local macro_rules | `(tactic| x_close) => `(tactic| first | (refine ⟨_, _, _, rfl, PySem.W.X.Mem.at (by assumption) 0 _ _ rfl, Mine.memKeep (by assumption), rfl, rfl, rfl⟩) | (refine ⟨rfl, Mine.memKeep (by assumption), rfl, rfl, rfl⟩) | (refine ⟨rfl, fun _ _ e => e, rfl, rfl, rfl⟩) | (refine ⟨_, rfl, PySem.W.X.Mem.at (by assumption) 0 _ _ rfl, (PySem.W.X.Mem.nw (by assumption) _ (List.Mem.head _)).2, Mine.memKeep (by assumption), rfl, rfl, rfl⟩) | (refine ⟨_, rfl, PySem.W.X.Mem.at (by assumption) 0 _ _ rfl, Mine.memKeep (by assumption), rfl, rfl, rfl⟩))
section
open PySem PySem.W PySem.W.X PyProof.Rows
set_option Elab.async false
set_option maxRecDepth 100000
set_option pp.maxSteps 1200
namespace Mine
section
variable {prog : Program} {w : World} {A : Around} {E : Value → Shared → Prop} {s : Shared}
theorem sub_ri_reversed : isSubtype (.type "range_iterator") (.type "reversed") = pure false := by rw [isSubtype_type]; kernel_rfl
noncomputable abbrev riObj (x n c : Int) : Obj := ⟨.type "range_iterator", none, .fields #[.int x 0, .int n 0, .int c 0], #[]⟩
theorem range_reversed {r : Addr} {t u v : Tok} {Q : Value → Shared → Prop} (hr : s.heap.get? r = some ⟨.type "range", none, .fields #[.int 0 t, .int 2 u, .int 1 v], #[]⟩)
    (h : Q (.ref s.heap.objs.size) { s with heap := s.heap.push (riObj 1 2 (-1)) }) : wpAny (model prog w) A (call (.builtin "range.__reversed__") [.ref r]) Q E s := by
  refine wpAny_call_entry F.slot_range_reversed (⟨_, hr, rfl⟩ : s.TypeIs (.ref r) "range") F.entry_range_reversed ?_ (F.args_range_reversed_1 _)
  unfold Builtin.«range.__reversed__»
  refine wpAny_bind (wpAny_of_eq (a := Value.ref r) rfl ?_)
  unfold Builtin.Range.rangeFields
  refine wpAny_bind (wpAny_bind (wpAny_field hr rfl (x := .int 0 t) rfl ?_))
  refine wpAny_bind (wpAny_of_eq (a := some (0 : Int)) rfl ?_)
  refine wpAny_bind (wpAny_field hr rfl (x := .int 2 u) rfl ?_)
  refine wpAny_bind (wpAny_of_eq (a := some (2 : Int)) rfl ?_)
  refine wpAny_bind (wpAny_field hr rfl (x := .int 1 v) rfl ?_)
  refine wpAny_bind (wpAny_of_eq (a := some (1 : Int)) rfl ?_)
  refine wpAny_pure ?_
  have e : (Builtin.Range.rangeFitsLong 0 && Builtin.Range.rangeFitsLong 2 && Builtin.Range.rangeFitsLong 1 && Builtin.Range.rangeFitsLong (-1) && Builtin.Range.rangeFitsLong (0 - 1) && Builtin.Range.rangeFitsLong (Builtin.Range.rangeSize 0 2 1)) = true := by decide
  dsimp only
  rw [e]
  exact wpAny_bind (wpAny_newObj_type (wpAny_pure ⟨_, rfl, h⟩))
theorem reversed_new {r : Addr} {t u v : Tok} {Q₁ : Value → Shared → Prop} (hr : s.heap.get? r = some ⟨.type "range", none, .fields #[.int 0 t, .int 2 u, .int 1 v], #[]⟩)
    (h : Q₁ (.ref s.heap.objs.size) { s with heap := s.heap.push (riObj 1 2 (-1)) }) : codeAny (model prog w) A (.call (.builtin "reversed.__new__") ⟨[.type "reversed", .ref r], []⟩) (wants Q₁ E) s := by
  refine codeAny_of_tree ?_
  show wpAny _ A.in1 (do checkBuiltinCall "reversed.__new__" ⟨[.type "reversed", .ref r], []⟩; again (.builtin "reversed.__new__" ⟨[.type "reversed", .ref r], []⟩)) _ _ s
  refine wpAny_bind (wpAny_of_eq (F.newCall_reversed_1 _) (wpAny_pure ⟨plainId_quiet F.plain_reversed_new _, codeAny_builtin F.entry_reversed_new ?_⟩))
  rw [Around.under_plainId F.plain_reversed_new _]
  unfold Builtin.«reversed.__new__»
  refine wpAny_bind (wpAny_of_eq (newClass_reversed _) ?_)
  dsimp only
  refine wpAny_bind (wpAny_of_eq (a := ()) (by first | rfl | kernel_rfl) ?_)
  refine wpAny_bind (wpAny_of_eq (a := ()) (by first | rfl | kernel_rfl) ?_)
  try dsimp only
  refine wpAny_bind (wpAny_specialOf (⟨_, hr, rfl⟩ : s.TypeIs (.ref r) "range") F.slot_range_reversed.lookup ?_)
  try dsimp only
  refine wpAny_bind (wpAny_of_eq (F.slot_range_reversed.bind _) ?_)
  try dsimp only
  rw [if_neg (show ¬ ((Value.builtin "range.__reversed__" == Value.none) = true) from Bool.false_ne_true)]
  refine wpAny_bind (wpAny_rule ?_)
  refine wpAny_bind (m := runValue (.call (.builtin "range.__reversed__") ⟨[.ref r], []⟩)) (show wpAny _ _ (call (.builtin "range.__reversed__") [.ref r]) _ _ _ from range_reversed hr ?_)
  first
  | exact wpAny_pure h
  | exact wpAny_bind (wpAny_pure (wpAny_pure h))
theorem call_reversed_range {r : Addr} {t u v : Tok} {Q : Value → Shared → Prop} (hr : s.heap.get? r = some ⟨.type "range", none, .fields #[.int 0 t, .int 2 u, .int 1 v], #[]⟩)
    (h : Q (.ref s.heap.objs.size) { s with heap := s.heap.push (riObj 1 2 (-1)) }) : wpAny (model prog w) A (call (.type "reversed") [.ref r]) Q E s := by
  refine callType_other (U := "range_iterator") (Q₁ := fun obj s₁ => obj = .ref s.heap.objs.size ∧ s₁ = { s with heap := s.heap.push (riObj 1 2 (-1)) }) (by decide +kernel) F.create_reversed ⟨_, _, F.mro_reversed⟩ F.made_reversed sub_ri_reversed (F.typeCall_reversed_1 _) (reversed_new hr ⟨rfl, rfl⟩) ?_
  rintro obj s₁ ⟨rfl, rfl⟩
  exact ⟨⟨_, Heap.get?_push_size _ rfl, rfl⟩, h⟩
end
end Mine
end
section
open PySem PySem.W PySem.W.X PyProof.Rows
set_option Elab.async false
set_option maxRecDepth 100000
set_option pp.maxSteps 1200
namespace Mine
theorem sdGo_len {r : Addr → Int} {new : Addr} {sp : Nat} : ∀ {f : Nat} {xs : List Addr} {pos : Nat}, (sdGo r new sp f xs pos).length = xs.length
  | 0, xs, pos => by rw [sdGo, List.length_set]
  | f + 1, xs, pos => by
    rw [sdGo]
    split
    · split
      · split
        · rw [sdGo_len, List.length_set]
        · rw [List.length_set]
      · rw [List.length_set]
    · rw [List.length_set]
theorem sdGo_mem {r : Addr → Int} {new : Addr} {sp : Nat} {S : Addr → Prop} (hn : S new) : ∀ {f : Nat} {xs : List Addr} {pos : Nat}, (∀ x ∈ xs, S x) → ∀ x ∈ sdGo r new sp f xs pos, S x
  | 0, xs, pos, h => by
    rw [sdGo]; intro x hx
    rcases List.mem_or_eq_of_mem_set hx with q | rfl
    · exact h x q
    · exact hn
  | f + 1, xs, pos, h => by
    have last : ∀ x ∈ xs.set pos new, S x := by
      intro x hx
      rcases List.mem_or_eq_of_mem_set hx with q | rfl
      · exact h x q
      · exact hn
    rw [sdGo]
    split
    · split
      · rename_i par hpar
        split
        · refine sdGo_mem hn ?_
          intro x hx
          rcases List.mem_or_eq_of_mem_set hx with q | rfl
          · exact h x q
          · exact h _ (List.mem_of_getElem? hpar)
        · exact last
      · exact last
    · exact last
theorem suGo_len {r : Addr → Int} : ∀ {f : Nat} {xs : List Addr} {pos : Nat}, (suGo r f xs pos).1.length = xs.length
  | 0, xs, pos => rfl
  | f + 1, xs, pos => by
    rw [suGo]
    split
    · rw [suGo_len, List.length_set]
    · rfl
theorem suGo_mem {r : Addr → Int} {S : Addr → Prop} : ∀ {f : Nat} {xs : List Addr} {pos : Nat}, (∀ x ∈ xs, S x) → ∀ x ∈ (suGo r f xs pos).1, S x
  | 0, xs, pos, h => h
  | f + 1, xs, pos, h => by
    rw [suGo]
    split
    · rename_i y hy
      refine suGo_mem ?_
      intro x hx
      rcases List.mem_or_eq_of_mem_set hx with q | rfl
      · exact h x q
      · exact h _ (List.mem_of_getElem? hy)
    · exact h
theorem suF_len {r : Addr → Int} {xs : List Addr} {pos : Nat} {a : Addr} : (suF r xs pos a).length = xs.length := by
  unfold suF; dsimp only; rw [sdGo_len, List.length_set, suGo_len]
theorem suF_mem {r : Addr → Int} {xs : List Addr} {pos : Nat} {a : Addr} {S : Addr → Prop} (ha : S a) (h : ∀ x ∈ xs, S x) : ∀ x ∈ suF r xs pos a, S x := by
  unfold suF; dsimp only
  refine sdGo_mem ha ?_
  intro x hx
  rcases List.mem_or_eq_of_mem_set hx with q | rfl
  · exact suGo_mem h x q
  · exact ha

set_option maxHeartbeats 1000000 in
theorem heapreplace_c {w : World} {A : Around} {s : Shared} {g : Heap} {l : Addr} {x : Addr} {xs : List Addr} {r : Addr → Int} {S : Addr → Prop} {a : Addr} {Q : Value → Shared → Prop}
    (hA : Low A 12) (B : Amb w g) (hg : Keep g s.heap) (gl : g.get? l = none) (LT : LtOk w g r S) (hl : RL s.heap l (x :: xs)) (hS : ∀ y ∈ xs, S y) (ha : S a) (hz : xs.length < 100)
    (hQ : ∀ h' t', Heap.ExtBut l s.heap h' → RL h' l (suF r (a :: xs) 0 a) → Q (.ref x) { s with heap := h', toks := t' }) :
    wpAny (model PP w) A (call (.ref 28) [.ref l, .ref a]) Q (fun _ _ => False) s := by
  refine call_static (n := 11) (a := 28) (binds := [(Str.ofString "heap", .ref l), (Str.ofString "item", .ref a)]) hA (Frag.In.keeps B.X hg) rfl rfl rfl rfl (.of_eq rfl) (by decide) (locs rfl) ?_
  intro A' h₀ L hA' F
  have gk : Keep g (s.heap.hide l) := hide_keep hg gl
  have c0 := cx_start F hl
  have LT' := LT.keep gk
  have B' := B.keep gk
  clear F LT
  refine wpAny_execs_cons ?_
  refine wpAny_Assign_Name ?_
  refine Subscript_ ?_
  ((refine cx_name (by assumption) (by (first | assumption | exact if_pos rfl | ((repeat refine (if_neg (by decide)).trans ?_); first | assumption | exact if_pos rfl | rfl) | rfl)) ?_; try dsimp only))
  refine wpAny_Constant_int ?_
  refine cx_get c0 (by decide) (by decide) rfl ?_
  refine cx_store (l := l) (xs := x :: xs) c0 ?_
  intro h1 c1
  dsimp only
  refine wpAny_execs_cons ?_
  refine wpAny_Assign_Subscript ?_
  ((refine cx_name (by assumption) (by (first | assumption | exact if_pos rfl | ((repeat refine (if_neg (by decide)).trans ?_); first | assumption | exact if_pos rfl | rfl) | rfl)) ?_; try dsimp only))
  ((refine cx_name (by assumption) (by (first | assumption | exact if_pos rfl | ((repeat refine (if_neg (by decide)).trans ?_); first | assumption | exact if_pos rfl | rfl) | rfl)) ?_; try dsimp only))
  refine wpAny_Constant_int ?_
  refine cx_set c1 (by decide) (by decide) (Nat.zero_lt_succ _) ?_
  intro h2 c2
  have c2 : Cx (s.heap.hide l) L l _ (a :: xs) h2 := c2
  dsimp only
  refine wpAny_execs_cons ?_
  refine wpAny_Expr ?_
  refine Call_ ?_
  refine nm_glob B' c2.fr.keep (v := .ref 49) rfl ?_
  refine cw_static (f := 49) B' rfl rfl ?_
  refine args_cons ?_
  ((refine cx_name (by assumption) (by (first | assumption | exact if_pos rfl | ((repeat refine (if_neg (by decide)).trans ?_); first | assumption | exact if_pos rfl | rfl) | rfl)) ?_; try dsimp only))
  refine args_cons ?_
  refine wpAny_Constant_int ?_
  refine args_nil ⟨c2.fr.keep, ?_⟩
  refine siftup_c (g := s.heap.hide l) (xs := a :: xs) (p := 0) (r := r) (S := S) (a := a) (hA'.less (by decide)) B' c2.fr.keep c2.gl LT' c2.li ?_ rfl (by simp; omega) ?_
  · intro z hz
    rcases List.mem_cons.mp hz with rfl | hz
    · exact ha
    · exact hS z hz
  intro h3 t3 k3 l3
  have c3 := c2.call k3 l3
  dsimp only
  refine wpAny_execs_cons ?_
  refine wpAny_Return_some ?_
  ((refine cx_name (by assumption) (by (first | assumption | exact if_pos rfl | ((repeat refine (if_neg (by decide)).trans ?_); first | assumption | exact if_pos rfl | rfl) | rfl)) ?_; try dsimp only))
  refine hQ h3 t3 ?_ l3
  intro b o hb e
  exact c3.fr.keep b o ((Heap.hide_ne s.heap hb).trans e)

set_option maxHeartbeats 1000000 in
theorem heappop_c {w : World} {A : Around} {s : Shared} {g : Heap} {l : Addr} {z : Addr} {xs : List Addr} {r : Addr → Int} {S : Addr → Prop} {Q : Value → Shared → Prop}
    (hA : Low A 12) (B : Amb w g) (hg : Keep g s.heap) (gl : g.get? l = none) (LT : LtOk w g r S) (hl : RL s.heap l (xs ++ [z])) (hS : ∀ y ∈ xs, S y) (hSz : S z) (hz : xs.length < 100)
    (hQ0 : ∀ h' t', xs = [] → Heap.ExtBut l s.heap h' → RL h' l [] → Q (.ref z) { s with heap := h', toks := t' })
    (hQ : ∀ h' t' x ys, xs = x :: ys → Heap.ExtBut l s.heap h' → RL h' l (suF r (z :: ys) 0 z) → Q (.ref x) { s with heap := h', toks := t' }) :
    wpAny (model PP w) A (call (.ref 21) [.ref l]) Q (fun _ _ => False) s := by
  refine call_static (n := 11) (a := 21) (binds := [(Str.ofString "heap", .ref l)]) hA (Frag.In.keeps B.X hg) rfl rfl rfl rfl (.of_eq rfl) (by decide) (locs rfl) ?_
  intro A' h₀ L hA' F
  have gk : Keep g (s.heap.hide l) := hide_keep hg gl
  have c0 := cx_start F hl
  have LT' := LT.keep gk
  have B' := B.keep gk
  clear F LT
  refine wpAny_execs_cons ?_
  refine wpAny_Assign_Name ?_
  refine MethodCall_ ?_
  ((refine cx_name (by assumption) (by (first | assumption | exact if_pos rfl | ((repeat refine (if_neg (by decide)).trans ?_); first | assumption | exact if_pos rfl | rfl) | rfl)) ?_; try dsimp only))
  obtain ⟨n0, e0⟩ := c0.li
  refine getMethod_builtin (⟨_, e0, rfl⟩ : Shared.TypeIs _ (.ref l) "list") PySem.F.plainAttrs_list PySem.F.slot_list_pop PySem.F.type_list_pop (fun a e => by cases e; exact ⟨_, e0, rfl⟩) ?_
  dsimp only
  refine callWith_method0 ?_
  have hsz : (((xs ++ [z]).map Value.ref).toArray).size = xs.length + 1 := by simp
  refine call_meets PySem.F.slot_list_pop ⟨_, e0, rfl⟩ PySem.F.entry_list_pop (PySem.F.args_list_pop_1 _) (PySem.MeetsSeq.list_pop_last l _ n0 (.ref z) (by rw [hsz]; simp) (by rw [hsz, sizeLine_eq]; omega)) ⟨e0, ?_⟩
  have c1 : Cx (s.heap.hide l) L l _ xs _ := c0.list (ys := xs) (h' := h₀.update l (Obj.mapSeq fun ys => ys.eraseIdxIfInBounds ((((xs ++ [z]).map Value.ref).toArray).size - 1))) (by
    have q := PySem.IsL.update e0 (fun ys => ys.eraseIdxIfInBounds ((((xs ++ [z]).map Value.ref).toArray).size - 1))
    have e : (((xs ++ [z]).map Value.ref).toArray).eraseIdxIfInBounds ((((xs ++ [z]).map Value.ref).toArray).size - 1) = (xs.map Value.ref).toArray := by
      rw [hsz, List.map_append]
      have k := kl_erase (xs.map Value.ref) [] (.ref z)
      rw [List.length_map, List.append_nil] at k
      exact k
    rw [e] at q
    exact ⟨_, q⟩) (Heap.SameBut.update ..)
  refine cx_store (l := l) (xs := xs) c1 ?_
  intro h2 c2
  dsimp only
  refine wpAny_execs_cons ?_
  refine wpAny_If ?_
  refine isTrue_plain ?_
  ((refine cx_name (by assumption) (by (first | assumption | exact if_pos rfl | ((repeat refine (if_neg (by decide)).trans ?_); first | assumption | exact if_pos rfl | rfl) | rfl)) ?_; try dsimp only))
  refine wpAny_truthy_list c2.li.isList (by simp; omega) ?_
  cases xs with
  | nil =>
    rw [if_neg (by simp)]
    refine wpAny_execs_nil ?_
    dsimp only
    refine wpAny_execs_cons ?_
    refine wpAny_Return_some ?_
    ((refine cx_name (by assumption) (by (first | assumption | exact if_pos rfl | ((repeat refine (if_neg (by decide)).trans ?_); first | assumption | exact if_pos rfl | rfl) | rfl)) ?_; try dsimp only))
    refine hQ0 h2 _ rfl ?_ c2.li
    intro b o hb e
    exact c2.fr.keep b o ((Heap.hide_ne s.heap hb).trans e)
  | cons x ys =>
    rw [if_pos (by simp)]
    refine wpAny_execs_cons ?_
    refine wpAny_Assign_Name ?_
    refine Subscript_ ?_
    ((refine cx_name (by assumption) (by (first | assumption | exact if_pos rfl | ((repeat refine (if_neg (by decide)).trans ?_); first | assumption | exact if_pos rfl | rfl) | rfl)) ?_; try dsimp only))
    refine wpAny_Constant_int ?_
    refine cx_get c2 (by decide) (by decide) rfl ?_
    refine cx_store (l := l) (xs := x :: ys) c2 ?_
    intro h3 c3
    dsimp only
    refine wpAny_execs_cons ?_
    refine wpAny_Assign_Subscript ?_
    ((refine cx_name (by assumption) (by (first | assumption | exact if_pos rfl | ((repeat refine (if_neg (by decide)).trans ?_); first | assumption | exact if_pos rfl | rfl) | rfl)) ?_; try dsimp only))
    ((refine cx_name (by assumption) (by (first | assumption | exact if_pos rfl | ((repeat refine (if_neg (by decide)).trans ?_); first | assumption | exact if_pos rfl | rfl) | rfl)) ?_; try dsimp only))
    refine wpAny_Constant_int ?_
    refine cx_set c3 (by decide) (by decide) (Nat.zero_lt_succ _) ?_
    intro h4 c4
    have c4 : Cx (s.heap.hide l) L l _ (z :: ys) h4 := c4
    dsimp only
    refine wpAny_execs_cons ?_
    refine wpAny_Expr ?_
    refine Call_ ?_
    refine nm_glob B' c4.fr.keep (v := .ref 49) rfl ?_
    refine cw_static (f := 49) B' rfl rfl ?_
    refine args_cons ?_
    ((refine cx_name (by assumption) (by (first | assumption | exact if_pos rfl | ((repeat refine (if_neg (by decide)).trans ?_); first | assumption | exact if_pos rfl | rfl) | rfl)) ?_; try dsimp only))
    refine args_cons ?_
    refine wpAny_Constant_int ?_
    refine args_nil ⟨c4.fr.keep, ?_⟩
    refine siftup_c (g := s.heap.hide l) (xs := z :: ys) (p := 0) (r := r) (S := S) (a := z) (hA'.less (by decide)) B' c4.fr.keep c4.gl LT' c4.li ?_ rfl (by simp at hz ⊢; omega) ?_
    · intro y hy
      rcases List.mem_cons.mp hy with rfl | hy
      · exact hSz
      · exact hS y (List.mem_cons_of_mem _ hy)
    intro h5 t5 k5 l5
    have c5 := c4.call k5 l5
    dsimp only
    refine wpAny_execs_cons ?_
    refine wpAny_Return_some ?_
    ((refine cx_name (by assumption) (by (first | assumption | exact if_pos rfl | ((repeat refine (if_neg (by decide)).trans ?_); first | assumption | exact if_pos rfl | rfl) | rfl)) ?_; try dsimp only))
    refine hQ h5 t5 x ys rfl ?_ l5
    intro b o hb e
    exact c5.fr.keep b o ((Heap.hide_ne s.heap hb).trans e)
end Mine
end
section
open PySem PySem.W PySem.W.X PyProof.Rows
set_option Elab.async false
set_option maxRecDepth 100000
set_option pp.maxSteps 1200
namespace Mine
theorem Cx.other {g h h' : Heap} {L l it : Addr} {m : Str → Option Value} {xs : List Addr} (c : Cx g L l m xs h) (k : Heap.ExtBut it h h') (iL : it ≠ L) (il : it ≠ l) (ig : g.get? it = none) : Cx g L l m xs h' :=
  ⟨⟨c.fr.ns.extBut k (Ne.symm iL), fun b o e => k b o (fun q => by rw [q, ig] at e; cases e) (c.fr.keep b o e), c.fr.above⟩, c.li.extBut k (Ne.symm il), c.ne, c.gl⟩
noncomputable def hfGo (r : Addr → Int) : Nat → List Addr → List Addr
  | 0, xs => xs
  | k + 1, xs => match xs[k]? with
    | some a => hfGo r k (suF r xs k a)
    | none => xs

inductive HfI (s : Shared) (g : Heap) (L l it : Addr) (r : Addr → Int) (S : Addr → Prop) (z : List Addr) (n : Nat) : Shared → Prop
  | mk {h t m ys} (c : Cx g L l m ys h) (i : IsRangeIter h it ((n : Int) - 1) (n : Int) (-1)) (hn : n ≤ 2) (hlen : ys.length = 5) (hSy : ∀ y ∈ ys, S y)
    (hgo : hfGo r n ys = z) (m1 : m (Str.ofString "x") = some (.ref l)) : HfI s g L l it r S z n { s with heap := h, toks := t }
set_option maxHeartbeats 1000000 in
theorem heapify_c {w : World} {A : Around} {s : Shared} {g : Heap} {l : Addr} {xs : List Addr} {r : Addr → Int} {S : Addr → Prop} {Q : Value → Shared → Prop}
    (hA : Low A 12) (B : Amb w g) (hg : Keep g s.heap) (gl : g.get? l = none) (LT : LtOk w g r S) (hl : RL s.heap l xs) (hS : ∀ y ∈ xs, S y) (h5 : xs.length = 5)
    (hQ : ∀ h' t', Heap.ExtBut l s.heap h' → RL h' l (hfGo r 2 xs) → Q .none { s with heap := h', toks := t' }) :
    wpAny (model PP w) A (call (.ref 35) [.ref l]) Q (fun _ _ => False) s := by
  refine call_static (n := 11) (a := 35) (binds := [(Str.ofString "x", .ref l)]) hA (Frag.In.keeps B.X hg) rfl rfl rfl rfl (.of_eq rfl) (by decide) (locs rfl) ?_
  intro A' h₀ L hA' F
  have gk : Keep g (s.heap.hide l) := hide_keep hg gl
  have c0 := cx_start F hl
  have LT' := LT.keep gk
  have B' := B.keep gk
  clear F LT
  refine wpAny_execs_cons ?_
  refine wpAny_Assign_Name ?_
  refine Call_ ?_
  refine nm_built B' c0.fr.keep rfl boot_len ?_
  refine PyProof.Rows.callWith_builtin1 ?_
  refine args_cons ?_
  ((refine cx_name (by assumption) (by (first | assumption | exact if_pos rfl | ((repeat refine (if_neg (by decide)).trans ?_); first | assumption | exact if_pos rfl | rfl) | rfl)) ?_; try dsimp only))
  refine args_nil ?_
  refine cx_len c0 (by omega) ?_
  intro te t1
  refine cx_store (l := l) (xs := xs) c0 ?_
  intro h1 c1
  rw [h5] at c1
  dsimp only
  refine wpAny_execs_cons ?_
  refine wpAny_For ?_
  refine Call_ ?_
  refine nm_built B' c1.fr.keep rfl (v := .type "reversed") boot_reversed ?_
  refine PyProof.Rows.callWith_type1 ?_
  refine args_cons ?_
  refine Call_ ?_
  refine nm_built B' c1.fr.keep rfl (v := .type "range") boot_range ?_
  refine PyProof.Rows.callWith_type1 ?_
  refine args_cons ?_
  refine wpAny_BinOp ?_
  ((refine cx_name (by assumption) (by (first | assumption | exact if_pos rfl | ((repeat refine (if_neg (by decide)).trans ?_); first | assumption | exact if_pos rfl | rfl) | rfl)) ?_; try dsimp only))
  refine wpAny_Constant_int ?_
  refine floordiv_int (by decide) ?_
  refine args_nil ?_
  have e2 : (((5 : Nat) : Int)).fdiv 2 = 2 := by decide
  rw [e2]
  refine hA'.run ?_
  refine wpAny_mono (range_x (Frag.In.keeps B'.X c1.fr.keep)) ?_ (fun _ _ x => x.elim)
  rintro _ ⟨h2, g2, d2, t2, o2⟩ ⟨ra, ta, tb, rfl, hra, k2, rfl, rfl, rfl⟩
  have k2 : Keep h1 h2 := k2
  have c2 := c1.keep k2
  refine args_nil ?_
  refine call_reversed_range hra ?_
  have k3 : Keep h2 (h2.push (riObj 1 2 (-1))) := fun b o e => Heap.get?_push_of_some _ e
  have c3 := c2.keep k3
  have i3 : IsRangeIter (h2.push (riObj 1 2 (-1))) h2.objs.size 1 2 (-1) := Heap.get?_push_size _ rfl
  have iL : h2.objs.size ≠ L := by
    obtain ⟨o, es, ep, ho, _⟩ := c2.fr.ns
    exact Nat.ne_of_gt (Heap.lt_size ho)
  have il : h2.objs.size ≠ l := Nat.ne_of_gt c2.li.lt
  have ig : (s.heap.hide l).get? h2.objs.size = none := by
    obtain ⟨o, es, ep, ho, _⟩ := c2.fr.ns
    exact Heap.get?_none_of_le (Nat.le_trans c2.fr.above (Nat.le_of_lt (Heap.lt_size ho)))
  generalize h2.push (riObj 1 2 (-1)) = h3 at c3 i3
  generalize h2.objs.size = it at i3 iL il ig
  clear k2 k3 c2 hra c1 c0
  dsimp only
  refine wpAny_pyIter_rangeiter i3 ?_
  refine codeAny_forLoop (HfI s (s.heap.hide l) L l it r S (hfGo r 2 xs)) ?_ 2 (.mk c3 i3 (Nat.le_refl _) h5 hS rfl (by (first | assumption | exact if_pos rfl | ((repeat refine (if_neg (by decide)).trans ?_); first | assumption | exact if_pos rfl | rfl) | rfl)))
  clear c3 i3
  rintro n _ ⟨c, i, hn, hlen, hSy, hgo, m1⟩
  rename_i h t m ys
  cases n with
  | zero =>
    refine wpAny_pyNext_range_end hA'.hd i (by decide) ?_
    intro h' k'
    refine wpAny_execs_nil ?_
    dsimp only
    refine wpAny_execs_nil ?_
    dsimp only
    refine hQ h' t ?_ ?_
    · intro b o hb e
      have e' := c.fr.keep b o ((Heap.hide_ne s.heap hb).trans e)
      refine k' b o ?_ e'
      rintro rfl
      rw [Heap.hide_ne s.heap hb, e] at ig
      cases ig
    · rw [← hgo]
      exact c.li.extBut k' (Ne.symm il)
  | succ n =>
    refine wpAny_pyNext_range_item i (by omega) ?_
    intro h4 i4 k4
    dsimp only
    refine wpAny_assign_Name ?_
    have c4 : Cx (s.heap.hide l) L l m ys h4 := c.other k4.extBut iL il ig
    refine wpAny_storeName_local rfl c4.fr.ns (fun h5 hn5 hs5 => ?_)
    have c5 := c4.store hn5 hs5
    have i5 : IsRangeIter h5 it (((n + 1 : Nat) : Int) - 1 + -1) (((n + 1 : Nat) : Int) - 1) (-1) := (hs5.2 it iL).trans i4
    dsimp only
    refine wpAny_execs_cons ?_
    refine wpAny_Expr ?_
    refine Call_ ?_
    refine nm_glob B' c5.fr.keep (v := .ref 49) rfl ?_
    refine cw_static (f := 49) B' rfl rfl ?_
    refine args_cons ?_
    ((refine cx_name (by assumption) (by (first | assumption | exact if_pos rfl | ((repeat refine (if_neg (by decide)).trans ?_); first | assumption | exact if_pos rfl | rfl) | rfl)) ?_; try dsimp only))
    refine args_cons ?_
    ((refine cx_name (by assumption) (by (first | assumption | exact if_pos rfl | ((repeat refine (if_neg (by decide)).trans ?_); first | assumption | exact if_pos rfl | rfl) | rfl)) ?_; try dsimp only))
    refine args_nil ⟨c5.fr.keep, ?_⟩
    have e5 : ((n + 1 : Nat) : Int) - 1 = ((n : Nat) : Int) := by omega
    rw [e5]
    obtain ⟨a, ha⟩ : ∃ a, ys[n]? = some a := ⟨_, List.getElem?_eq_getElem (by omega)⟩
    refine noE ?_
    refine siftup_c (g := s.heap.hide l) (xs := ys) (p := n) (r := r) (S := S) (a := a) (hA'.less (by decide)) B' c5.fr.keep c5.gl LT' c5.li hSy ha (by omega) ?_
    intro h6 t6 k6 l6
    have c6 := c5.call k6 l6
    dsimp only
    refine wpAny_execs_nil ?_
    refine ⟨n, by omega, .mk c6 ?_ (by omega) (by rw [suF_len]; exact hlen) (suF_mem (hSy a (List.mem_of_getElem? ha)) hSy) ?_ (by (first | assumption | exact if_pos rfl | ((repeat refine (if_neg (by decide)).trans ?_); first | assumption | exact if_pos rfl | rfl) | rfl))⟩
    · have := k6 _ _ il i5
      rw [e5] at this
      exact this
    · rw [← hgo, hfGo, ha]
end Mine
end
section
open PySem PySem.W PyProof.Rows
set_option Elab.async false
set_option maxRecDepth 100000
set_option linter.unusedVariables false
set_option pp.maxSteps 400
namespace Mine
/-- a frame with cells under way: its names m, its cells' values cm, the objects fs that it may change, over a base -/
structure Wc (g : Heap) (env : Env) (m cm : Str → Option Value) (fs : List (Addr × Obj)) (h : Heap) : Prop where
  ns : h.Ns env.locals m
  old : Keep g h
  gL : g.get? env.locals = none
  cell : ∀ n c, env.cells.lookup n = some c → h.IsCell c (cm n) ∧ c ≠ env.locals ∧ g.get? c = none
  inj : ∀ n n' c, env.cells.lookup n = some c → env.cells.lookup n' = some c → n = n'
  fo : ∀ p ∈ fs, h.get? p.1 = some p.2 ∧ g.get? p.1 = none ∧ p.1 ≠ env.locals ∧ ∀ n, env.cells.lookup n ≠ some p.1
  nd : (fs.map (·.1)).Nodup
section
variable {g h h' : Heap} {env : Env} {m m' cm : Str → Option Value} {fs : List (Addr × Obj)}
theorem Wc.storeL (c : Wc g env m cm fs h) (hn : h'.Ns env.locals m') (hs : Heap.SameBut env.locals h h') : Wc g env m' cm fs h' where
  ns := hn
  old := fun b o e => hs.extBut b o (fun q => by rw [q, c.gL] at e; cases e) (c.old b o e)
  gL := c.gL
  cell := fun n a e => ⟨(c.cell n a e).1.sameBut hs (c.cell n a e).2.1, (c.cell n a e).2⟩
  inj := c.inj
  fo := fun p hp => ⟨hs.extBut _ _ (c.fo p hp).2.2.1 (c.fo p hp).1, (c.fo p hp).2⟩
  nd := c.nd
theorem Wc.storeC (c : Wc g env m cm fs h) {n : Str} {a : Addr} {v : Value} (hc : env.cells.lookup n = some a) (hi : h'.IsCell a (some v)) (hs : Heap.SameBut a h h') : Wc g env m (fun y => if y = n then some v else cm y) fs h' where
  ns := c.ns.sameBut hs (Ne.symm (c.cell n a hc).2.1)
  old := fun b o e => hs.extBut b o (fun q => by rw [q, (c.cell n a hc).2.2] at e; cases e) (c.old b o e)
  gL := c.gL
  cell := fun n' b e => by
    refine ⟨?_, (c.cell n' b e).2⟩
    by_cases q : n' = n
    · subst q
      rw [hc] at e; cases e
      rw [if_pos rfl]; exact hi
    · rw [if_neg q]
      exact (c.cell n' b e).1.sameBut hs (fun z => q (c.inj _ _ a (z ▸ e) hc))
  inj := c.inj
  fo := fun p hp => ⟨hs.extBut _ _ (fun q => (c.fo p hp).2.2.2 n (q ▸ hc)) (c.fo p hp).1, (c.fo p hp).2⟩
  nd := c.nd
theorem Wc.keep (c : Wc g env m cm fs h) (k : Keep h h') : Wc g env m cm fs h' :=
  ⟨c.ns.keeps k, fun b o e => k _ _ (c.old b o e), c.gL, fun n a e => ⟨(c.cell n a e).1.keeps k, (c.cell n a e).2⟩, c.inj, fun p hp => ⟨k _ _ (c.fo p hp).1, (c.fo p hp).2⟩, c.nd⟩
theorem Wc.lt (c : Wc g env m cm fs h) : env.locals < h.objs.size := c.ns.lt
theorem Wc.add (c : Wc g env m cm fs h) {a : Addr} {o : Obj} (k : Keep h h') (na : h.get? a = none) (ha : h'.get? a = some o) : Wc g env m cm ((a, o) :: fs) h' := by
  have c' := c.keep k
  have nL : a ≠ env.locals := fun q => by
    obtain ⟨o', _, _, e, _⟩ := c.ns
    rw [← q, na] at e; cases e
  have ng : g.get? a = none := by
    cases e : g.get? a with
    | none => rfl
    | some o' => rw [c.old _ _ e] at na; cases na
  refine ⟨c'.ns, c'.old, c'.gL, c'.cell, c'.inj, ?_, ?_⟩
  · intro p hp
    rcases List.mem_cons.mp hp with rfl | hp
    · refine ⟨ha, ng, nL, fun n e => ?_⟩
      obtain ⟨o', e', _⟩ := (c.cell n a e).1
      rw [na] at e'; cases e'
    · exact c'.fo p hp
  · rw [List.map_cons, List.nodup_cons]
    refine ⟨fun hm => ?_, c.nd⟩
    obtain ⟨p, hp, e⟩ := List.mem_map.mp hm
    have := (c.fo p hp).1
    rw [e, na] at this; cases this
theorem Wc.at (c : Wc g env m cm fs h) (i : Nat) {a : Addr} {o : Obj} (hi : fs[i]? = some (a, o)) : h.get? a = some o := (c.fo _ (List.mem_of_getElem? hi)).1
theorem Wc.ext (c : Wc g env m cm fs h) (i : Nat) {a : Addr} {o o' : Obj} (hi : fs[i]? = some (a, o)) (k : Heap.ExtBut a h h') (e : h'.get? a = some o') : Wc g env m cm (fs.set i (a, o')) h' := by
  have ha := c.fo _ (List.mem_of_getElem? hi)
  refine ⟨c.ns.extBut k (Ne.symm ha.2.2.1), fun b x q => k b x (fun z => by rw [z, ha.2.1] at q; cases q) (c.old b x q), c.gL, fun n b q => ⟨?_, (c.cell n b q).2⟩, c.inj, ?_, ?_⟩
  · obtain ⟨x, ex, ed⟩ := (c.cell n b q).1
    exact ⟨x, k _ _ (fun z => ha.2.2.2 n (z ▸ q)) ex, ed⟩
  · intro p hp
    obtain ⟨j, hj⟩ := List.mem_iff_getElem?.mp hp
    by_cases q : i = j
    · subst q
      rw [List.getElem?_set_self (by rcases Nat.lt_or_ge i fs.length with z | z; exact z; rw [List.getElem?_eq_none z] at hi; cases hi)] at hj
      cases hj
      exact ⟨e, ha.2⟩
    · rw [List.getElem?_set_ne q] at hj
      have hp' := c.fo p (List.mem_of_getElem? hj)
      refine ⟨k _ _ (fun z => ?_) hp'.1, hp'.2⟩
      have hz : (fs.map (·.1))[i]? = (fs.map (·.1))[j]? := by rw [List.getElem?_map, List.getElem?_map, hi, hj]; simp [z]
      have li : i < (fs.map (·.1)).length := by rw [List.length_map]; rcases Nat.lt_or_ge i fs.length with w | w; exact w; rw [List.getElem?_eq_none w] at hi; cases hi
      exact q ((List.getElem?_inj li c.nd).mp hz)
  · have : (fs.set i (a, o')).map (·.1) = fs.map (·.1) := by
      rw [List.map_set]
      apply List.ext_getElem?
      intro j
      by_cases q : i = j
      · subst q
        have li : i < (fs.map (·.1)).length := by rw [List.length_map]; rcases Nat.lt_or_ge i fs.length with w | w; exact w; rw [List.getElem?_eq_none w] at hi; cases hi
        rw [List.getElem?_set_self li, List.getElem?_map, hi]; rfl
      · rw [List.getElem?_set_ne q]
    rw [this]; exact c.nd
noncomputable def Wc.ws (env : Env) (fs : List (Addr × Obj)) : List Addr := env.locals :: (env.cells.map (·.2) ++ fs.map (·.1))
/-- what stands unchanged becomes the base -/
theorem Wc.rebase (c : Wc g env m cm fs h) (hk : ∀ n a, (n, a) ∈ env.cells → ∃ n', env.cells.lookup n' = some a) :
    ∃ g', Keep g g' ∧ Wc g' env m cm fs h ∧ ∀ a o, h.get? a = some o → a ≠ env.locals → (∀ n, env.cells.lookup n ≠ some a) → (∀ p ∈ fs, p.1 ≠ a) → g'.get? a = some o := by
  have key : ∀ a o, h.get? a = some o → a ≠ env.locals → (∀ n, env.cells.lookup n ≠ some a) → (∀ p ∈ fs, p.1 ≠ a) → (hideAll h (Wc.ws env fs)).get? a = some o := by
    intro a o e n1 n2 n3
    refine hideAll_get _ e fun q => ?_
    unfold Wc.ws at q
    rcases List.mem_cons.mp q with q | q
    · exact n1 q
    rcases List.mem_append.mp q with q | q
    · obtain ⟨⟨n, b⟩, hp, rfl⟩ := List.mem_map.mp q
      obtain ⟨n', hn'⟩ := hk n b hp
      exact n2 n' hn'
    · obtain ⟨p, hp, e'⟩ := List.mem_map.mp q
      exact n3 p hp e'
  refine ⟨hideAll h (Wc.ws env fs), fun a o e => key a o (c.old _ _ e) (fun q => by rw [q, c.gL] at e; cases e) (fun n q => by rw [(c.cell n a q).2.2] at e; cases e) (fun p hp q => by rw [← q, (c.fo p hp).2.1] at e; cases e), ?_, key⟩
  refine ⟨c.ns, fun b o e => of_hideAll _ e, hideAll_none _ (List.mem_cons_self ..), fun n a e => ⟨(c.cell n a e).1, (c.cell n a e).2.1, hideAll_none _ ?_⟩, c.inj, fun p hp => ⟨(c.fo p hp).1, hideAll_none _ ?_, (c.fo p hp).2.2⟩, c.nd⟩
  · exact List.mem_cons_of_mem _ (List.mem_append_left _ (List.mem_map.mpr ⟨(n, a), mem_of_lookup e, rfl⟩))
  · exact List.mem_cons_of_mem _ (List.mem_append_right _ (List.mem_map_of_mem hp))
end
section
variable {M : Model} {A : Around} {E : Value → Shared → Prop} {s : Shared} {g : Heap} {env : Env} {m cm : Str → Option Value} {fs : List (Addr × Obj)}
theorem wn_l {x : Str} {pos : Pos} {v : Value} {Q : Value → Shared → Prop} (c : Wc g env m cm fs s.heap) (hv : m x = some v) (h : Q v s) (hk : env.scope.kind = .function := by rfl) (hx : env.kindOf x = some .local := by rfl) (hb : (x == ("__debug__" : Str)) = false := by decide) :
    wpAny M A (eval (.Name x pos) env) Q E s := wpAny_Name (wpAny_loadName_local hk hx c.ns hv h) hb
theorem wn_c {x : Str} {pos : Pos} {a : Addr} {v : Value} {Q : Value → Shared → Prop} (c : Wc g env m cm fs s.heap) (hc : env.cells.lookup x = some a) (hv : cm x = some v) (h : Q v s) (hk : env.scope.kind = .function := by rfl) (hx : env.kindOf x = some .cell := by rfl) (hb : (x == ("__debug__" : Str)) = false := by decide) :
    wpAny M A (eval (.Name x pos) env) Q E s := wpAny_Name (wpAny_loadName_cell hk hx hc (hv ▸ (c.cell x a hc).1) h) hb
theorem ws_l {x : Str} {v : Value} {Q : Unit → Shared → Prop} (c : Wc g env m cm fs s.heap) (h : ∀ h', Wc g env (fun y => if y = x then some v else m y) cm fs h' → Q () { s with heap := h', toks := s.toks + 1 })
    (hk : env.scope.kind = .function := by rfl) (hx : env.kindOf x = some .local := by rfl) : wpAny M A (storeName env x v) Q E s :=
  wpAny_storeName_local hx c.ns (fun h' hn hs => h h' (c.storeL hn hs)) (by rw [hk]; rfl)
theorem ws_c {x : Str} {a : Addr} {v : Value} {Q : Unit → Shared → Prop} (c : Wc g env m cm fs s.heap) (hc : env.cells.lookup x = some a) (h : ∀ h', Wc g env m (fun y => if y = x then some v else cm y) fs h' → Q () { s with heap := h' })
    (hk : env.scope.kind = .function := by rfl) (hx : env.kindOf x = some .cell := by rfl) : wpAny M A (storeName env x v) Q E s :=
  wpAny_storeName_cell hk hx hc (c.cell x a hc).1 (fun h' hi hs => h h' (c.storeC hc hi hs))
end
end Mine
end
section
open PySem PySem.W PyProof.Rows
set_option Elab.async false
set_option maxRecDepth 100000
set_option pp.maxSteps 1200
namespace Mine
noncomputable def Hp (r : Addr → Int) : List Addr → Prop
  | [] => True
  | [_] => True
  | [a, b] => r a ≤ r b
  | [a, b, c] => r a ≤ r b ∧ r a ≤ r c
  | [a, b, c, d] => r a ≤ r b ∧ r a ≤ r c ∧ r b ≤ r d
  | [a, b, c, d, e] => r a ≤ r b ∧ r a ≤ r c ∧ r b ≤ r d ∧ r b ≤ r e
  | _ => False

theorem Hp.head {r : Addr → Int} {x : Addr} {xs : List Addr} (h : Hp r (x :: xs)) : ∀ y ∈ x :: xs, r x ≤ r y := by
  rcases xs with _ | ⟨b, _ | ⟨c, _ | ⟨d, _ | ⟨e, _ | ⟨f, t⟩⟩⟩⟩⟩ <;> simp only [Hp] at h <;> intro y hy <;> simp only [List.mem_cons, List.not_mem_nil, or_false] at hy
  · subst hy; omega
  · rcases hy with rfl | rfl <;> omega
  · rcases hy with rfl | rfl | rfl <;> omega
  · rcases hy with rfl | rfl | rfl | rfl <;> omega
  · rcases hy with rfl | rfl | rfl | rfl | rfl <;> omega

theorem set_swap {α : Type} [BEq α] [LawfulBEq α] {xs : List α} {i j : Nat} {v y : α} (hi : i < xs.length) (hj : xs[j]? = some y) (hij : i ≠ j) : ((xs.set i y).set j v).Perm (xs.set i v) := by
  rw [List.perm_iff_count]
  intro a
  have hjl : j < xs.length := by
    rcases Nat.lt_or_ge j xs.length with h | h
    · exact h
    · rw [List.getElem?_eq_none h] at hj; cases hj
  have ey : xs[j] = y := by rw [List.getElem?_eq_getElem hjl] at hj; exact Option.some.inj hj
  have e1 : (xs.set i y)[j]'(by rw [List.length_set]; exact hjl) = y := by rw [List.getElem_set_ne hij]; exact ey
  rw [List.count_set (by rw [List.length_set]; exact hjl), List.count_set hi, List.count_set hi, e1]
  have c1 : xs[i] == a → 1 ≤ xs.count a := fun h => List.one_le_count_iff.mpr (by rw [← (beq_iff_eq.mp h)]; exact List.getElem_mem hi)
  split <;> split <;> split <;> simp_all <;> omega
theorem sdGo_perm {r : Addr → Int} {new : Addr} {sp : Nat} : ∀ {f : Nat} {xs : List Addr} {pos : Nat}, pos < xs.length → (sdGo r new sp f xs pos).Perm (xs.set pos new)
  | 0, xs, pos, _ => by rw [sdGo]
  | f + 1, xs, pos, hp => by
    rw [sdGo]
    split
    · rename_i hsp
      split
      · rename_i par hpar
        split
        · refine (sdGo_perm (by rw [List.length_set]; omega)).trans ?_
          exact set_swap hp hpar (by omega)
        · exact List.Perm.refl _
      · exact List.Perm.refl _
    · exact List.Perm.refl _
theorem suGo_perm {r : Addr → Int} {v : Addr} : ∀ {f : Nat} {xs : List Addr} {pos : Nat}, pos < xs.length → (suGo r f xs pos).2 < xs.length ∧ ((suGo r f xs pos).1.set (suGo r f xs pos).2 v).Perm (xs.set pos v)
  | 0, xs, pos, h => ⟨h, List.Perm.refl _⟩
  | f + 1, xs, pos, h => by
    rw [suGo]
    split
    · rename_i y hy
      have lt : suPick r xs (2 * pos + 1) < xs.length := by
        rcases Nat.lt_or_ge (suPick r xs (2 * pos + 1)) xs.length with q | q
        · exact q
        · rw [List.getElem?_eq_none q] at hy; cases hy
      have ge : 2 * pos + 1 ≤ suPick r xs (2 * pos + 1) := suPick_ge
      have ih := suGo_perm (r := r) (v := v) (f := f) (xs := xs.set pos y) (pos := suPick r xs (2 * pos + 1)) (by rw [List.length_set]; exact lt)
      rw [List.length_set] at ih
      exact ⟨ih.1, ih.2.trans (set_swap h hy (by omega))⟩
    · exact ⟨h, List.Perm.refl _⟩
theorem suF_perm {r : Addr → Int} {xs : List Addr} {pos : Nat} {a : Addr} (h : pos < xs.length) : (suF r xs pos a).Perm (xs.set pos a) := by
  unfold suF
  dsimp only
  obtain ⟨h1, h2⟩ := suGo_perm (r := r) (v := a) (f := xs.length) h
  refine (sdGo_perm (by rw [List.length_set, suGo_len]; exact h1)).trans ?_
  rw [List.set_set]
  exact h2
theorem hfGo_perm {r : Addr → Int} : ∀ {k : Nat} {xs : List Addr}, (hfGo r k xs).Perm xs
  | 0, xs => List.Perm.refl _
  | k + 1, xs => by
    rw [hfGo]
    split
    · rename_i a ha
      have hk : k < xs.length := by
        rcases Nat.lt_or_ge k xs.length with h | h
        · exact h
        · rw [List.getElem?_eq_none h] at ha; cases ha
      refine hfGo_perm.trans ((suF_perm hk).trans ?_)
      have : xs.set k a = xs := by
        have e : xs[k] = a := by rw [List.getElem?_eq_getElem hk] at ha; exact Option.some.inj ha
        rw [← e]; exact List.set_getElem_self hk
      rw [this]
    · exact List.Perm.refl _

section
variable {r : Addr → Int} {new x0 x1 x2 x3 x4 : Addr} {t : List Addr}
theorem sd0 {sp f : Nat} {xs : List Addr} : sdGo r new sp f (x0 :: xs) 0 = new :: xs := by
  cases f <;> simp [sdGo]
theorem sd1 {xs : List Addr} : sdGo r new 0 1 (x0 :: x1 :: xs) 1 = if r new < r x0 then new :: x0 :: xs else x0 :: new :: xs := by
  by_cases h : r new < r x0 <;> simp [sdGo, h]
theorem sd2 {xs : List Addr} : sdGo r new 0 2 (x0 :: x1 :: x2 :: xs) 2 = if r new < r x0 then new :: x1 :: x0 :: xs else x0 :: x1 :: new :: xs := by
  by_cases h : r new < r x0 <;> simp [sdGo, h]
theorem sd3 {xs : List Addr} : sdGo r new 0 3 (x0 :: x1 :: x2 :: x3 :: xs) 3 = if r new < r x1 then (if r new < r x0 then new :: x0 :: x2 :: x1 :: xs else x0 :: new :: x2 :: x1 :: xs) else x0 :: x1 :: x2 :: new :: xs := by
  by_cases h : r new < r x1 <;> by_cases h' : r new < r x0 <;> simp [sdGo, h, h']
theorem sd4 {xs : List Addr} : sdGo r new 0 4 (x0 :: x1 :: x2 :: x3 :: x4 :: xs) 4 = if r new < r x1 then (if r new < r x0 then new :: x0 :: x2 :: x3 :: x1 :: xs else x0 :: new :: x2 :: x3 :: x1 :: xs) else x0 :: x1 :: x2 :: x3 :: new :: xs := by
  by_cases h : r new < r x1 <;> by_cases h' : r new < r x0 <;> simp [sdGo, h, h']
theorem su1 : suGo r 1 [x0] 0 = ([x0], 0) := by simp [suGo, suPick]
theorem su2 : suGo r 2 [x0, x1] 0 = ([x1, x1], 1) := by simp [suGo, suPick]
theorem su3 : suGo r 3 [x0, x1, x2] 0 = if r x1 < r x2 then ([x1, x1, x2], 1) else ([x2, x1, x2], 2) := by
  by_cases h : r x1 < r x2 <;> simp [suGo, suPick, h]
theorem su4 : suGo r 4 [x0, x1, x2, x3] 0 = if r x1 < r x2 then ([x1, x3, x2, x3], 3) else ([x2, x1, x2, x3], 2) := by
  by_cases h : r x1 < r x2 <;> simp [suGo, suPick, h]
theorem su5 : suGo r 5 [x0, x1, x2, x3, x4] 0 = if r x1 < r x2 then (if r x3 < r x4 then ([x1, x3, x2, x3, x4], 3) else ([x1, x4, x2, x3, x4], 4)) else ([x2, x1, x2, x3, x4], 2) := by
  by_cases h : r x1 < r x2 <;> by_cases h' : r x3 < r x4 <;> simp [suGo, suPick, h, h']
theorem su51 : suGo r 5 [x0, x1, x2, x3, x4] 1 = if r x3 < r x4 then ([x0, x3, x2, x3, x4], 3) else ([x0, x4, x2, x3, x4], 4) := by
  by_cases h' : r x3 < r x4 <;> simp [suGo, suPick, h']
theorem sd31 {xs : List Addr} : sdGo r new 1 3 (x0 :: x1 :: x2 :: x3 :: xs) 3 = if r new < r x1 then x0 :: new :: x2 :: x1 :: xs else x0 :: x1 :: x2 :: new :: xs := by
  by_cases h : r new < r x1 <;> simp [sdGo, h]
theorem sd41 {xs : List Addr} : sdGo r new 1 4 (x0 :: x1 :: x2 :: x3 :: x4 :: xs) 4 = if r new < r x1 then x0 :: new :: x2 :: x3 :: x1 :: xs else x0 :: x1 :: x2 :: x3 :: new :: xs := by
  by_cases h : r new < r x1 <;> simp [sdGo, h]
end
theorem suF_hp {r : Addr → Int} {x a : Addr} {xs : List Addr} (h : Hp r (x :: xs)) : Hp r (suF r (a :: xs) 0 a) := by
  rcases xs with _ | ⟨b, _ | ⟨c, _ | ⟨d, _ | ⟨e, _ | ⟨f, t⟩⟩⟩⟩⟩ <;> simp only [Hp] at h
  · show Hp r (let q := suGo r 1 [a] 0; sdGo r a 0 q.2 (q.1.set q.2 a) q.2)
    rw [su1]; dsimp only [List.set]; rw [sd0]; trivial
  · show Hp r (let q := suGo r 2 [a, b] 0; sdGo r a 0 q.2 (q.1.set q.2 a) q.2)
    rw [su2]; dsimp only [List.set]; rw [sd1]
    split <;> simp only [Hp] <;> omega
  · show Hp r (let q := suGo r 3 [a, b, c] 0; sdGo r a 0 q.2 (q.1.set q.2 a) q.2)
    rw [su3]
    split
    · dsimp only [List.set]; rw [sd1]
      split <;> simp only [Hp] <;> omega
    · dsimp only [List.set]; rw [sd2]
      split <;> simp only [Hp] <;> omega
  · show Hp r (let q := suGo r 4 [a, b, c, d] 0; sdGo r a 0 q.2 (q.1.set q.2 a) q.2)
    rw [su4]
    split
    · dsimp only [List.set]; rw [sd3]
      (repeat' split) <;> simp only [Hp] <;> omega
    · dsimp only [List.set]; rw [sd2]
      split <;> simp only [Hp] <;> omega
  · show Hp r (let q := suGo r 5 [a, b, c, d, e] 0; sdGo r a 0 q.2 (q.1.set q.2 a) q.2)
    rw [su5]
    split
    · split
      · dsimp only [List.set]; rw [sd3]
        (repeat' split) <;> simp only [Hp] <;> omega
      · dsimp only [List.set]; rw [sd4]
        (repeat' split) <;> simp only [Hp] <;> omega
    · dsimp only [List.set]; rw [sd2]
      split <;> simp only [Hp] <;> omega
/-- all but the root -/
theorem hfGo_hp {r : Addr → Int} {a b c d e : Addr} : Hp r (hfGo r 2 [a, b, c, d, e]) := by
  have key : ∀ x y z u v, r y ≤ r u → r y ≤ r v → Hp r (suF r [x, y, z, u, v] 0 x) := by
    intro x y z u v h1 h2
    show Hp r (let q := suGo r 5 [x, y, z, u, v] 0; sdGo r x 0 q.2 (q.1.set q.2 x) q.2)
    rw [su5]
    split
    · split
      · dsimp only [List.set]; rw [sd3]
        (repeat' split) <;> simp only [Hp] <;> omega
      · dsimp only [List.set]; rw [sd4]
        (repeat' split) <;> simp only [Hp] <;> omega
    · dsimp only [List.set]; rw [sd2]
      split <;> simp only [Hp] <;> omega
  show Hp r (hfGo r 1 (let q := suGo r 5 [a, b, c, d, e] 1; sdGo r b 1 q.2 (q.1.set q.2 b) q.2))
  rw [su51]
  split
  · dsimp only [List.set]; rw [sd31]
    split
    · exact key a b c d e (by omega) (by omega)
    · exact key a d c b e (by omega) (by omega)
  · dsimp only [List.set]; rw [sd41]
    split
    · exact key a b c d e (by omega) (by omega)
    · exact key a e c d b (by omega) (by omega)
theorem hp_front {r : Addr → Int} {z : Addr} : ∀ {xs : List Addr}, Hp r (xs ++ [z]) → Hp r xs
  | [], _ => trivial
  | [_], _ => trivial
  | [_, _], h => h.1
  | [_, _, _], h => ⟨h.1, h.2.1⟩
  | [_, _, _, _], h => ⟨h.1, h.2.1, h.2.2.1⟩
  | _ :: _ :: _ :: _ :: _ :: [], h => h.elim
  | _ :: _ :: _ :: _ :: _ :: _ :: _, h => h.elim
end Mine
end
section
open PySem PySem.W PySem.W.X PyProof.Rows
set_option Elab.async false
set_option maxRecDepth 100000
set_option pp.maxSteps 1200
namespace Mine
section
variable {M : Model} {A : Around} {E : Value → Shared → Prop} {s : Shared}
theorem typeOf_ref {a : Addr} {o : Obj} {Q : Value → Shared → Prop} (ho : s.heap.get? a = some o) (h : Q o.cls s) : wpAny M A (typeOf (.ref a)) Q E s := by
  show wpAny M A (do return (← loadPart a (some headPart)).cls) Q E s
  exact wpAny_bind (wpAny_loadPart ho (wpAny_pure h))
theorem classData_ref {a : Addr} {o : Obj} {cd : ClassData} {Q : ClassData → Shared → Prop} (ho : s.heap.get? a = some o) (hd : o.data = .cls cd) (h : Q cd s) : wpAny M A (classData a) Q E s := by
  unfold classData
  refine wpAny_bind (wpAny_load ho ?_)
  rw [hd]; exact wpAny_pure h
/-- a name that the class's own dict has -/
theorem typeLookup_own {aK : Addr} {oK : Obj} {cd : ClassData} {rest : List Value} {m : Str → Option Value} {name : Str} {v : Value} {Q : Option Value → Shared → Prop}
    (hK : s.heap.get? aK = some oK) (dK : oK.data = .cls cd) (hm : cd.mro = .ref aK :: rest) (hN : s.heap.Ns cd.ns m) (hv : m name = some v) (h : Q (some v) s) : wpAny M A (typeLookup (.ref aK) name) Q E s := by
  unfold typeLookup
  refine wpAny_bind (show wpAny M A (mroOf (.ref aK)) _ E s from wpAny_bind (classData_ref hK dK (wpAny_pure ?_)))
  rw [hm]
  refine wpAny_bind ?_
  rw [List.forIn_cons]
  refine wpAny_bind (wpAny_bind (show wpAny M A (classOwn (.ref aK) name) _ E s from wpAny_bind (classData_ref hK dK (wpAny_nsGet hN ?_))))
  rw [hv]
  exact wpAny_pure (wpAny_pure (wpAny_pure h))
theorem lt_rich {x y aK aF : Addr} {ox oy oK oF : Obj} {cd : ClassData} {rest : List Value} {m : Str → Option Value} {Q : Value → Shared → Prop} (hu : A.units < cLine)
    (hx : s.heap.get? x = some ox) (cx : ox.cls = .ref aK) (hy : s.heap.get? y = some oy) (cy : oy.cls = .ref aK) (hK : s.heap.get? aK = some oK) (dK : oK.data = .cls cd) (hm : cd.mro = .ref aK :: rest) (hN : s.heap.Ns cd.ns m)
    (hv : m (Str.ofString "__lt__") = some (.ref aF)) (hF : s.heap.get? aF = some oF) (cF : oF.cls = .type "function")
    (h : wpAny M A (call (.ref aF) [.ref x, .ref y]) (fun v s' => (∃ b, v = .bool b) ∧ Q v s') (fun _ _ => False) s) : wpAny M A (compareOp .Lt (.ref x) (.ref y)) Q E s := by
  have bound : wpAny M A (bindSpecialIfBound? (.ref x) (Str.ofString "__lt__")) (fun r s' => r = some (.ref aF, [.ref x]) ∧ s' = s) E s := by
    unfold bindSpecialIfBound? specialOf
    refine wpAny_bind (wpAny_bind (typeOf_ref hx ?_))
    rw [cx]
    refine typeLookup_own hK dK hm hN hv ?_
    have b : ∀ E' : Value → Shared → Prop, wpAny M A (bindSpecial (.ref aF) (.ref x)) (fun r s' => r = (.ref aF, [.ref x]) ∧ s' = s) E' s := by
      intro E'
      unfold bindSpecial
      refine wpAny_bind (typeOf_ref hF ?_)
      rw [cF]
      exact wpAny_pure ⟨rfl, rfl⟩
    have b' : ∀ E' : Value → Shared → Prop, wpAny M A (do return some (← bindSpecial (.ref aF) (.ref x))) (fun r s' => r = some (.ref aF, [.ref x]) ∧ s' = s) E' s := fun E' =>
      wpAny_bind (wpAny_mono (b E') (fun r s' z => by obtain ⟨rfl, rfl⟩ := z; exact wpAny_pure ⟨rfl, rfl⟩) fun _ _ e => e)
    dsimp only
    refine wpAny_bind (wpAny_bind (wpAny_askSetting (wpAny_pure (wpAny_ite ?_))))
    split
    · exact b' _
    · exact wpAny_tryCatch (wpAny_mono (b' fun _ _ => False) (fun _ _ z => z) fun e s' z => z.elim)
  have one : wpAny M A (tryCompare (.ref x) (Str.ofString "__lt__") (.ref y)) (fun r s' => ∃ v, r = some v ∧ Q v s') E s := by
    unfold tryCompare callSpecialIfBound?
    refine wpAny_bind (wpAny_holding (wpAny_bind (wpAny_mono bound (fun r s' z => ?_) fun _ _ e => e)))
    obtain ⟨rfl, rfl⟩ := z
    dsimp only
    refine wpAny_bind (noE (wpAny_mono h (fun v s'' z => ?_) fun _ _ e => e))
    obtain ⟨⟨b, rfl⟩, hq⟩ := z
    exact wpAny_pure (wpAny_pure ⟨_, rfl, hq⟩)
  show wpAny M A (richCompare .Lt (.ref x) (.ref y)) Q E s
  unfold richCompare
  simp only [oneThing_ref]
  refine wpAny_holding (wpAny_bind (wpAny_cRoomFor hu ?_))
  refine wpAny_bind (typeOf_ref hx (wpAny_bind (typeOf_ref hy ?_)))
  rw [cx, cy]
  simp only [bne_self_eq_false, Bool.false_eq_true, if_false, pure_bind]
  refine wpAny_bind (wpAny_mono one (fun r s' z => ?_) fun _ _ e => e)
  obtain ⟨v, rfl, hq⟩ := z
  exact wpAny_pure hq
end
end Mine
end
section
open PySem PySem.W PySem.W.X PyProof.Rows PySem.Spec PySem.Calls
set_option Elab.async false
set_option maxRecDepth 100000
set_option linter.unusedVariables false
set_option pp.maxSteps 300
namespace Mine
section
variable {M : Model} {A : Around} {E : Value → Shared → Prop} {s : Shared} {name qual : Str} {params : Arguments} {body : List Stmt} {scope : Scope} {env : Env} {c P : Addr} {ps : Array Value} {pos : Pos} {firstLine : Nat} {mg : Str → Option Value}
  {clos : List (Str × Addr)} {Q : Value → Shared → Prop}
/-- a code object that says its qualname -/
noncomputable def CodeQ (h : Heap) (c : Addr) (qual : Str) : Prop := ∃ od c0 t cr sl, h.get? c = some (Obj.mk (.type "code") od (.fields (Array.mk (c0 :: .str qual t :: cr))) sl)
theorem codeQ_of {h : Heap} {c P : Addr} {ps : Array Value} (r : h.CodeRec (.ref c) qual) (t : h.TableAt c P ps) : CodeQ h c qual := by
  obtain ⟨c₂, o, vs, tt, e, ho, hd, hv⟩ := r
  cases e
  obtain ⟨⟨o2, vs2, e2, hcls, _, _⟩, _⟩ := t
  rw [ho] at e2; cases e2
  obtain ⟨oc, od, dt, sl⟩ := o
  simp only at hcls hd
  subst hcls; subst hd
  obtain ⟨l⟩ := vs
  match l, hv with
  | c0 :: x :: cr, hv =>
    simp at hv
    subst hv
    exact ⟨od, c0, tt, cr, sl, ho⟩
  | [x], hv => simp at hv
  | [], hv => simp at hv
theorem mkfn_c (hcl : closureFor scope env = pure clos) (hge0 : env.globals = mainGlobals) (hg : s.heap.Ns mainGlobals mg) (hcode : env.code = .ref c) (C : CodeHd s.heap c P) (hP : s.heap.get? P = some (tabObj ps)) (ht : TriplesOk ps.toList)
    (hnf : codeAmong pos ps.toList = none) (hgP : mainGlobals ≠ P) (hb : s.heap.BuiltinsAt mg P) (hdoc : docOf body = none)
    (h : ∀ f c' ctv h' tk, Heap.ExtBut P s.heap h' → s.heap.get? f = none → s.heap.get? c' = none → h'.get? f = some (fnMade name qual params body scope clos .none ((mg "__name__").getD .none) c' ctv) → CodeQ h' c' qual → h'.get? P = some (tabObj (ps ++ #[rawInt pos.line, rawInt pos.col, .ref c'])) →
      Q (.ref f) { s with heap := h', toks := tk }) :
    wpAny M A (makeFunction name qual params (.stmts body) scope env [] [] [] pos firstLine) Q E s := by
  obtain ⟨bm, ob, hbm, hne0, _, hneP, hbo, hcls, hdict, hdata⟩ := hb
  rw [makeFunction_eq]
  simp only [List.zip_nil_right, List.filterMap_nil, List.isEmpty_nil, if_true, pure_bind]
  unfold makeTail
  rw [hcl, hge0]
  refine wpAny_bind (wpAny_pure ?_)
  have key : ∀ (s1 : Shared) (ctv : Value), (∀ b o, s.heap.get? b = some o → s1.heap.get? b = some o) → s.heap.objs.size ≤ s1.heap.objs.size → s1.gens = s.gens → s1.drawn = s.drawn → s1.os = s.os →
      wpAny M A (functionCode env pos firstLine name qual params scope (.stmts body)) (fun cv s2 => wpAny M A (builtinsFor mainGlobals env.builtins) (fun bn s3 => wpAny M A (nsGet mainGlobals "__name__") (fun nm s4 =>
        wpAny M A (newObj (.type "function") (.func { name, qualname := qual, params, body := .stmts body, scope, globals := mainGlobals, closure := clos, closureTuple := ctv, code := cv, builtins := bn, defaults := .none, kwdefaults := .none, annotations := none, pyModule := nm.getD .none, doc := .none })) Q E s4) E s3) E s2) E s1 := by
    intro s1 ctv k1 z1 e1 e2 e3
    refine wpAny_functionCodeX hcode ((C.keeps k1).code (k1 _ _ hP) ht) ((C.keeps k1).tab (k1 _ _ hP)) hnf fun c' h' tk hx hge hlt _ hrec htb ⟨P', hP', _, htab⟩ => ?_
    have hg' := (hg.keeps k1).extBut hx hgP
    refine wpAny_builtinsFor hg' hbm hne0 (hx _ _ hneP (k1 _ _ hbo)) hcls hdict hdata ?_
    refine wpAny_nsGet hg' ?_
    refine wpAny_newObj_type ?_ (by size_fits)
    have hx' : Heap.ExtBut P s.heap h' := fun b o hb e => hx b o hb (k1 _ _ e)
    have q := h h'.objs.size c' ctv (h'.push (fnMade name qual params body scope clos .none ((mg "__name__").getD .none) c' ctv)) tk (fun b o hb e => Heap.get?_push_of_some _ (hx' b o hb e))
      (Heap.get?_none_of_le (Nat.le_trans z1 (Nat.le_trans hge (Nat.le_of_lt hlt)))) (Heap.get?_none_of_le (Nat.le_trans z1 hge)) (Heap.get?_push_size _ rfl)
      (by obtain ⟨od, c0, t, cr, sl, e⟩ := codeQ_of hrec htab; exact ⟨od, c0, t, cr, sl, Heap.get?_push_of_some _ e⟩) (Heap.get?_push_of_some _ htb.2)
    obtain ⟨hh, gg, dd, tt, oo⟩ := s1
    simp only at e1 e2 e3
    subst e1; subst e2; subst e3
    exact q
  cases clos with
  | nil =>
    simp only [List.isEmpty_nil, if_true]
    refine wpAny_bind (wpAny_pure ?_)
    refine wpAny_bind (wpAny_mono (key s .none (fun _ _ e => e) (Nat.le_refl _) rfl rfl rfl) (fun cv s2 h2 => ?_) fun _ _ x => x)
    refine wpAny_bind (wpAny_mono h2 (fun bn s3 h3 => ?_) fun _ _ x => x)
    refine wpAny_bind (wpAny_mono h3 (fun nm s4 h4 => ?_) fun _ _ x => x)
    rw [hdoc]
    exact wpAny_bind (wpAny_pure h4)
  | cons q r =>
    simp only [List.isEmpty_cons, Bool.false_eq_true, if_false]
    refine wpAny_bind (wpAny_newTextTuple ?_)
    refine wpAny_bind (wpAny_mono (key _ (.ref s.heap.objs.size) (fun b o e => Heap.get?_push_of_some _ e) (by rw [Heap.size_push]; omega) rfl rfl rfl) (fun cv s2 h2 => ?_) fun _ _ x => x)
    refine wpAny_bind (wpAny_mono h2 (fun bn s3 h3 => ?_) fun _ _ x => x)
    refine wpAny_bind (wpAny_mono h3 (fun nm s4 h4 => ?_) fun _ _ x => x)
    rw [hdoc]
    exact wpAny_bind (wpAny_pure h4)
end
end Mine
end
section
open PySem PySem.W PySem.W.X PyProof.Rows
set_option Elab.async false
set_option maxRecDepth 100000
namespace Mine
noncomputable def kStmt (i : Nat) : Stmt := match PP.main.body.getD 7 (.Pass default) with
  | .FunctionDef _ _ (st :: _) _ _ _ _ _ _ _ => (match st with
    | .ClassDef _ _ _ body _ _ _ _ _ _ _ => body.getD i (.Pass default)
    | _ => .Pass default)
  | _ => .Pass default
noncomputable def fnOfStmt (st : Stmt) (qual : Str) (cl : List (Str × Addr)) (ct cd pm : Value) : FuncData := match st with
  | .FunctionDef name args body _ _ _ scope _ _ _ => { name, qualname := qual, params := args, body := .stmts body, scope, globals := 3, closure := cl, defaults := .none, kwdefaults := .none, pyModule := pm, code := cd, closureTuple := ct, builtins := 0 }
  | _ => default
noncomputable abbrev kQual : Str := Str.ofString "cmp_to_key.<locals>.K"
noncomputable def clsD (aK aNs : Addr) : ClassData := { name := Str.ofString "K", bases := [.type "object"], mro := [.ref aK, .type "object"], ns := aNs, qualname := kQual, hasDict := false, slotNames := [Str.ofString "obj"] }
noncomputable abbrev de (q : Int) (x : String) (t : Tok) (v : Value) : DictEntry := ⟨q, .str (Str.ofString x) t, v⟩
/-- what is compared -/
noncomputable def laterI (n1 a1 b1 k1 n2 a2 b2 k2 : Int) : Int := if n1 * a1 * b2 - n2 * a2 * b1 = 0 then k1 - k2 else n1 * a1 * b2 - n2 * a2 * b1
end Mine
end
section
open PySem PySem.W PySem.W.X PyProof.Rows
set_option Elab.async false
set_option maxRecDepth 100000
set_option linter.unusedVariables false
set_option pp.maxSteps 600
namespace Mine
theorem p_ext : Builtin.extendedBase [.type "object"] = pure (.type "object") := by kernel_rfl
theorem p_best : Builtin.Slots.bestBase [.type "object"] = pure (.type "object") := by kernel_rfl
theorem p_slotNames : Builtin.Slots.slotNamesOf (.type "object") = pure [] := by kernel_rfl
theorem p_dict : Builtin.Slots.givesDict (.type "object") = pure false := by kernel_rfl
theorem p_weak : Builtin.Slots.givesWeak (.type "object") = pure false := by kernel_rfl
theorem p_var : Builtin.Slots.varSize (.type "object") = pure false := by kernel_rfl
theorem p_lin : Builtin.linearize [.type "object"] mroOf = pure [.type "object"] := by kernel_rfl
theorem p_made : Bind.madeBy (.type "object") = pure (some "object.__new__") := by kernel_rfl
theorem p_hook : Builtin.mroHook? (.type "type") = pure none := by kernel_rfl
theorem p_turned : Builtin.notOverATurnedClass [.type "object"] = pure () := by kernel_rfl
theorem p_isType : isType (.type "object") = pure true := by kernel_rfl
theorem p_dictiter : typeLookup (.type "dict") "__iter__" = pure (some (.builtin "dict.__iter__")) := by kernel_rfl
theorem p_sub1 : isSubtype (.type "tuple") (.type "tuple") = pure true := by kernel_rfl
theorem p_sub2 : isSubtype (.type "dict") (.type "dict") = pure true := by kernel_rfl
theorem p_sub3 : isSubtype (.type "type") (.type "type") = pure true := by kernel_rfl
theorem p_sub4 : isSubtype (.type "object") (.type "object") = pure true := by kernel_rfl
theorem p_typeOf : typeOf (.type "object") = pure (.type "type") := by kernel_rfl
end Mine
end
section
open PySem PySem.W PySem.W.X PyProof.Rows
set_option Elab.async false
set_option maxRecDepth 100000
set_option linter.unusedVariables false
set_option pp.maxSteps 300
namespace Mine
section
variable {M : Model} {A : Around} {E : Value → Shared → Prop} {s : Shared}
theorem w_if_false {α : Type} {b : Bool} {x y : Sem α} {Q : α → Shared → Prop} (hb : b = false) (h : wpAny M A y Q E s) : wpAny M A (if b = true then x else y) Q E s := by rw [if_neg (by rw [hb]; decide)]; exact h
theorem w_forIn_cons {α β : Type} {l : List α} {a : α} {init : β} {f : α → β → Sem (ForInStep β)} {Q : β → Shared → Prop}
    (h : wpAny M A (f a init) (fun r s' => wpAny M A (match r with | .done b => pure b | .yield b => forIn l b f) Q E s') E s) : wpAny M A (forIn (a :: l) init f) Q E s := by
  rw [List.forIn_cons]; exact wpAny_bind h
theorem w_forIn_nil {α β : Type} {init : β} {f : α → β → Sem (ForInStep β)} {Q : β → Shared → Prop} (h : Q init s) : wpAny M A (forIn ([] : List α) init f) Q E s := by
  rw [List.forIn_nil]; exact wpAny_pure h
theorem w_forInA {α β : Type} {l : List α} {init : β} {f : α → β → Sem (ForInStep β)} {Q : β → Shared → Prop} (h : wpAny M A (forIn l init f) Q E s) : wpAny M A (forIn (List.toArray l) init f) Q E s := by
  rw [List.forIn_toArray]; exact h
end
noncomputable abbrev entriesK (q0 q1 q2 q3 q4 q5 q6 q7 q8 q9 q10 q11 : Int) (z0 z1 z2 z3 z4 z5 z6 z7 z8 z9 z10 z11 yq : Tok) (v0 v2 : Value) (aSl aIn aLt aGt aEq aLe aGe aSt : Addr) : Array DictEntry :=
  #[de q0 "__module__" z0 v0, de q1 "__qualname__" z1 (.str kQual yq), de q2 "__firstlineno__" z2 v2, de q3 "__slots__" z3 (.ref aSl), de q4 "__init__" z4 (.ref aIn), de q5 "__lt__" z5 (.ref aLt), de q6 "__gt__" z6 (.ref aGt), de q7 "__eq__" z7 (.ref aEq), de q8 "__le__" z8 (.ref aLe), de q9 "__ge__" z9 (.ref aGe),
      de q10 "__hash__" z10 .none, de q11 "__static_attributes__" z11 (.ref aSt)]
theorem p_ident : Builtin.Slots.isIdentifier (Str.ofString "obj") = some true := by kernel_rfl
theorem p_mangle : Builtin.Slots.mangle (Str.ofString "K") (Str.ofString "obj") = Str.ofString "obj" := by kernel_rfl
theorem read_c {w : World} {A : Around} {h : Heap} {g : Array GenState} {d : Drawn} {t : Nat} {os : OsState} {aIn aLt aGt aEq aLe aGe aSl aSt : Addr} {Q : Builtin.Slots.Plan → Shared → Prop} {E : Value → Shared → Prop}
    {q0 q1 q2 q3 q4 q5 q6 q7 q8 q9 q10 q11 : Int} {z0 z1 z2 z3 z4 z5 z6 z7 z8 z9 z10 z11 zs yq : Tok} {v0 v2 : Value}
    (hsl : h.get? aSl = some (Obj.mk (.type "list") none (.seq #[.str (Str.ofString "obj") zs] 0) #[]))
    (hq : ∀ h' t', Keep h h' → Q { names := [Str.ofString "obj"], dict := false, weak := false, inherited := [] } ⟨h', g, d, t', os⟩) :
    wpAny (model PP w) A (Builtin.Slots.read (Str.ofString "K") [.type "object"] (entriesK q0 q1 q2 q3 q4 q5 q6 q7 q8 q9 q10 q11 z0 z1 z2 z3 z4 z5 z6 z7 z8 z9 z10 z11 yq v0 v2 aSl aIn aLt aGt aEq aLe aGe aSt)) Q E ⟨h, g, d, t, os⟩ := by
  unfold Builtin.Slots.read
  repeat (first | (with_reducible first | refine wpAny_pure ?_ | refine wpAny_bind ?_ | refine wpAny_holding ?_ | refine wpAny_standAt ?_ | refine wpAny_point ?_ | refine wpAny_rule ?_ | refine wpAny_fresh' ?_ | refine w_forIn_nil ?_ | refine w_forIn_cons ?_) | ((with_reducible apply wpAny_load'); focus (assumption; done)) | ((with_reducible apply wpAny_loadPart'); focus (assumption; done)) | ((with_reducible apply wpAny_ite_false); focus ((first | with_reducible rfl | kernel_rfl!); done)) | ((with_reducible apply wpAny_ite_true); focus ((first | with_reducible rfl | kernel_rfl!); done)) | ((with_reducible show wpAny _ _ (Builtin.Slots.bestBase _) _ _ _); refine wpAny_of_eq p_best ?_) | ((with_reducible show wpAny _ _ (Builtin.Slots.slotNamesOf _) _ _ _); refine wpAny_of_eq p_slotNames ?_) | ((with_reducible show wpAny _ _ (Builtin.Slots.givesDict _) _ _ _); refine wpAny_of_eq p_dict ?_) | ((with_reducible show wpAny _ _ (Builtin.Slots.givesWeak _) _ _ _); refine wpAny_of_eq p_weak ?_) | ((with_reducible show wpAny _ _ (Builtin.Slots.varSize _) _ _ _); refine wpAny_of_eq p_var ?_) | ((with_reducible show wpAny _ _ (forIn _ _ _) _ _ _); first | refine w_forIn_nil ?_ | refine w_forIn_cons ?_ | refine w_forInA ?_) | ((with_reducible show wpAny _ _ (collect _) _ _ _); refine wpAny_collect_seq _ (.inl rfl) (by assumption) rfl rfl ?_; intro h' k') | wp_delta | rw [p_ident] | rw [p_mangle])
  exact hq _ _ (by assumption)
end Mine
end
section
open PySem PySem.W PySem.W.X PyProof.Rows
set_option Elab.async false
set_option maxRecDepth 100000
set_option linter.unusedVariables false
namespace Mine
noncomputable def slotO (j : Nat) (v : Option Value) (o : Obj) : Obj := { o with slots := (o.slots ++ Array.replicate (j + 1 - o.slots.size) none).setIfInBounds j v }
theorem mem_is {h₀ h : Heap} {chg news news' : List (Addr × Obj)} (D : Mem h₀ h chg news) (e : news = news') : Mem h₀ h chg news' := e ▸ D
section
variable {M : Model} {A : Around} {E : Value → Shared → Prop} {h₀ h : Heap} {g : Array GenState} {d : Drawn} {t : Nat} {os : OsState} {chg news : List (Addr × Obj)}
theorem m_alloc {o : Obj} {Q : Addr → Shared → Prop} (D : Mem h₀ h chg news) (hf : o.isFreed = false) (k : ∀ a h', Mem h₀ h' chg ((a, o) :: news) → Q a ⟨h', g, d, t, os⟩) : wpAny M A (alloc o) Q E ⟨h, g, d, t, os⟩ :=
  wpAny_alloc (k _ _ (D.alloc hf))
theorem m_newObj {T : String} {data : Data} {Q : Value → Shared → Prop} (D : Mem h₀ h chg news) (hf : Obj.isFreed { cls := .type T, dict := none, data := data } = false) (hd : sizeOk data)
    (k : ∀ a h', Mem h₀ h' chg ((a, { cls := .type T, dict := none, data := data }) :: news) → Q (.ref a) ⟨h', g, d, t, os⟩) : wpAny M A (newObj (.type T) data none) Q E ⟨h, g, d, t, os⟩ :=
  wpAny_newObj_type (k _ _ (D.alloc hf)) hd
theorem m_update {a : Addr} {o : Obj} {f : Obj → Obj} {Q : Unit → Shared → Prop} (D : Mem h₀ h chg news) (i : Nat) (hi : news[i]? = some (a, o)) (hf : (f o).isFreed = false) (k : ∀ h', Mem h₀ h' chg (news.set i (a, f o)) → Q () ⟨h', g, d, t, os⟩) : wpAny M A (update a f) Q E ⟨h, g, d, t, os⟩ :=
  wpAny_update (D.at i a o hi) (k _ (D.update hi hf))
theorem m_updatePart {a : Addr} {p : Option Value} {o : Obj} {f : Obj → Obj} {Q : Unit → Shared → Prop} (D : Mem h₀ h chg news) (i : Nat) (hi : news[i]? = some (a, o)) (hf : (f o).isFreed = false) (k : ∀ h', Mem h₀ h' chg (news.set i (a, f o)) → Q () ⟨h', g, d, t, os⟩) : wpAny M A (updatePart a p f) Q E ⟨h, g, d, t, os⟩ :=
  wpAny_updatePart (D.at i a o hi) (k _ (D.update hi hf))
theorem m_nsGet {a : Addr} {o : Obj} {name : Str} {r : Option Value} {Q : Option Value → Shared → Prop} (ho : h.get? a = some o) (e : nsLook name o = pure r) (hq : Q r ⟨h, g, d, t, os⟩) : wpAny M A (nsGet a name) Q E ⟨h, g, d, t, os⟩ :=
  wpAny_bind (wpAny_loadPart ho (wpAny_of_eq e hq))
theorem m_updateCls {a : Addr} {o : Obj} {cd : ClassData} {f : ClassData → ClassData} {Q : Unit → Shared → Prop} (D : Mem h₀ h chg news) (i : Nat) (hi : news[i]? = some (a, o)) (hd : o.data = .cls cd) (hf : (Obj.mapCls f o).isFreed = false) (hz : (Obj.mapCls f o).data.pastItsLine = none)
    (k : ∀ h', Mem h₀ h' chg (news.set i (a, Obj.mapCls f o)) → Q () ⟨h', g, d, t, os⟩) : wpAny M A (updateCls a f) Q E ⟨h, g, d, t, os⟩ := by
  unfold updateCls
  refine wpAny_bind (wpAny_load (D.at i a o hi) ?_)
  rw [hd]
  refine wpAny_bind (m_update D i hi hf fun h' D' => ?_)
  refine wpAny_bind (wpAny_loadPart (D'.at i a (Obj.mapCls f o) ?_) ?_)
  · have : i < news.length := by
      rcases Nat.lt_or_ge i news.length with q | q
      · exact q
      · rw [List.getElem?_eq_none q] at hi; cases hi
    rw [List.getElem?_set_self this]
  · rw [hz]
    exact wpAny_pure (k _ D')
theorem m_setSlot {a : Addr} {o : Obj} {j : Nat} {v : Option Value} {Q : Unit → Shared → Prop} (D : Mem h₀ h chg news) (i : Nat) (hi : news[i]? = some (a, o)) (hf : (slotO j v o).isFreed = false) (hj : j < sizeLine)
    (k : ∀ h', Mem h₀ h' chg (news.set i (a, slotO j v o)) → Q () ⟨h', g, d, t, os⟩) : wpAny M A (setSlotAt a j v) Q E ⟨h, g, d, t, os⟩ := by
  unfold setSlotAt
  rw [if_neg (by omega)]
  refine wpAny_bind (wpAny_pure ?_)
  exact m_updatePart D i hi hf k
end
theorem p_filter (a : Addr) : List.filter (fun x => x != Value.ref a) (Value.ref a :: [Value.type "object"]) = [Value.type "object"] := by simp
theorem w_anyM1 {M : Model} {A : Around} {E : Value → Shared → Prop} {s : Shared} {α : Type} {p : α → Sem Bool} {a : α} {Q : Bool → Shared → Prop} (e : p a = pure false) (hq : Q false s) : wpAny M A (List.anyM p [a]) Q E s := by
  unfold List.anyM
  rw [e]
  exact wpAny_bind (wpAny_pure (wpAny_pure hq))
theorem p_note (a : Addr) : Builtin.noteSubclassOfBuiltin "object" a = pure () := by kernel_rfl
end Mine
end
section
open PySem PySem.W PySem.W.X PyProof.Rows
set_option Elab.async false
set_option maxRecDepth 100000
set_option linter.unusedVariables false
set_option pp.maxSteps 300
namespace Mine
section
variable {M : Model} {A : Around} {E : Value → Shared → Prop} {h₀ h : Heap} {g : Array GenState} {d : Drawn} {t : Nat} {os : OsState} {chg news : List (Addr × Obj)}
theorem classData_at {a : Addr} {o : Obj} {cd : ClassData} {Q : ClassData → Shared → Prop} (ho : h.get? a = some o) (hd : o.data = .cls cd) (hq : Q cd ⟨h, g, d, t, os⟩) : wpAny M A (classData a) Q E ⟨h, g, d, t, os⟩ :=
  classData_ref ho hd hq
/-- a name that the class's own dict lacks and object has, or lacks -/
theorem typeLookup_obj {a aN : Addr} {o oN : Obj} {cd : ClassData} {name : Str} {Q : Option Value → Shared → Prop} (ho : h.get? a = some o) (hd : o.data = .cls cd) (hm : cd.mro = [.ref a, .type "object"]) (hn : cd.ns = aN)
    (hN : h.get? aN = some oN) (e : nsLook name oN = pure none) (hq : Q (builtinOwn "object" name) ⟨h, g, d, t, os⟩) : wpAny M A (typeLookup (.ref a) name) Q E ⟨h, g, d, t, os⟩ := by
  unfold typeLookup
  refine wpAny_bind (show wpAny M A (mroOf (.ref a)) _ E _ from wpAny_bind (classData_at ho hd (wpAny_pure ?_)))
  rw [hm]
  refine wpAny_bind ?_
  rw [List.forIn_cons]
  refine wpAny_bind (wpAny_bind (show wpAny M A (classOwn (.ref a) name) _ E _ from wpAny_bind (classData_at ho hd ?_)))
  rw [hn]
  refine m_nsGet hN e ?_
  refine wpAny_pure ?_
  dsimp only
  rw [List.forIn_cons]
  refine wpAny_bind (wpAny_bind (show wpAny M A (classOwn (.type "object") name) _ E _ from wpAny_pure ?_))
  cases hb : builtinOwn "object" name with
  | none =>
    refine wpAny_pure ?_
    dsimp only
    rw [List.forIn_nil]
    refine wpAny_pure (wpAny_pure ?_)
    rw [← hb]; exact hq
  | some v =>
    refine wpAny_pure (wpAny_pure (wpAny_pure ?_))
    rw [← hb]; exact hq
theorem refresh_c {a aN : Addr} {o oN : Obj} {cd : ClassData} {Q : Unit → Shared → Prop} (ho : h.get? a = some o) (hs : (o.slots[4]?).join = some (.builtin "object.__new__")) (hd : o.data = .cls cd) (hm : cd.mro = [.ref a, .type "object"]) (hn : cd.ns = aN)
    (hN : h.get? aN = some oN) (e : nsLook "__new__" oN = pure none) (hq : Q () ⟨h, g, d, t, os⟩) : wpAny M A (Bind.refreshMaker a) Q E ⟨h, g, d, t, os⟩ := by
  unfold Bind.refreshMaker
  refine wpAny_bind (show wpAny M A (slotAt a 4) _ E _ from wpAny_bind (wpAny_loadPart ho (wpAny_pure ?_)))
  rw [hs]
  rw [if_neg (by decide)]
  refine wpAny_bind (typeLookup_obj ho hd hm hn hN e ?_)
  rw [show builtinOwn "object" "__new__" = some (.builtin "object.__new__") by kernel_rfl!]
  dsimp only
  rw [if_neg (by decide +kernel)]
  exact wpAny_pure hq
end
end Mine
end
section
open PySem PySem.W PySem.W.X PyProof.Rows
set_option Elab.async false
set_option maxRecDepth 100000
set_option linter.unusedVariables false
set_option pp.maxSteps 300
namespace Mine
theorem loop1 {M : Model} {A : Around} {E : Value → Shared → Prop} {s : Shared} {α β : Type} {arr : Array α} {b : β} {f : α → β → Sem (ForInStep β)} {Q : β → Shared → Prop} (l : List α) (e : arr = l.toArray) (hf : ∀ x ∈ l, ∀ b, f x b = pure (.yield b)) (hq : Q b s) : wpAny M A (forIn arr b f) Q E s := by
  subst e
  refine w_forInA ?_
  induction l with
  | nil => exact w_forIn_nil hq
  | cons a l ih =>
    refine w_forIn_cons ?_
    rw [hf a (List.mem_cons_self ..) b]
    exact wpAny_pure (ih fun x hx => hf x (List.mem_cons_of_mem _ hx))
theorem loop2 {M : Model} {A : Around} {E : Value → Shared → Prop} {s : Shared} {α β : Type} {arr : Array α} {b : β} {f : α → β → Sem (ForInStep β)} {Q : β → Shared → Prop} (l : List α) (e : arr = l.toArray)
    (hf : ∀ x ∈ l, ∀ Q', Q' (.yield b) s → wpAny M A (f x b) Q' (fun _ _ => False) s) (hq : Q b s) : wpAny M A (forIn arr b f) Q E s := by
  subst e
  refine w_forInA ?_
  induction l with
  | nil => exact w_forIn_nil hq
  | cons a l ih =>
    refine w_forIn_cons ?_
    exact noE (hf a (List.mem_cons_self ..) _ (ih fun x hx => hf x (List.mem_cons_of_mem _ hx)))
theorem mem_old0 {h₀ h : Heap} {news : List (Addr × Obj)} (D : Mem h₀ h [] news) {a : Addr} {o : Obj} (e : h₀.get? a = some o) : h.get? a = some o := D.keep a o e (by simp [away])
theorem s_str : typeLookup (.type "str") "__set_name__" = pure none := by kernel_rfl
theorem s_int : typeLookup (.type "int") "__set_name__" = pure none := by kernel_rfl
theorem s_list : typeLookup (.type "list") "__set_name__" = pure none := by kernel_rfl
theorem s_function : typeLookup (.type "function") "__set_name__" = pure none := by kernel_rfl
theorem s_NoneType : typeLookup (.type "NoneType") "__set_name__" = pure none := by kernel_rfl
theorem s_tuple : typeLookup (.type "tuple") "__set_name__" = pure none := by kernel_rfl
theorem s_member_descriptor : typeLookup (.type "member_descriptor") "__set_name__" = pure none := by kernel_rfl
/-- the class before its slots are laid -/
noncomputable def clsP (aK aN bT : Addr) (t0 yq : Tok) : Obj := Obj.mk (.type "type") none (.cls { name := Str.ofString "K", bases := [.type "object"], mro := [.ref aK, .type "object"], ns := aN, qualname := kQual }) #[some (.ref bT), none, some (.str (Str.ofString "K") t0), some (.str kQual yq), some (.builtin "object.__new__")]
noncomputable def entriesQ (q0 q2 q3 q4 q5 q6 q7 q8 q9 q10 q11 : Int) (z0 z2 z3 z4 z5 z6 z7 z8 z9 z10 z11 : Tok) (v0 v2 : Value) (aSl aIn aLt aGt aEq aLe aGe aSt : Addr) : Array DictEntry :=
  #[de q0 "__module__" z0 v0, de q2 "__firstlineno__" z2 v2, de q3 "__slots__" z3 (.ref aSl), de q4 "__init__" z4 (.ref aIn), de q5 "__lt__" z5 (.ref aLt), de q6 "__gt__" z6 (.ref aGt), de q7 "__eq__" z7 (.ref aEq), de q8 "__le__" z8 (.ref aLe), de q9 "__ge__" z9 (.ref aGe),
      de q10 "__hash__" z10 .none, de q11 "__static_attributes__" z11 (.ref aSt)]
noncomputable def entriesL (q0 q2 q3 q4 q5 q6 q7 q8 q9 q10 q11 qo qd : Int) (z0 z2 z3 z4 z5 z6 z7 z8 z9 z10 z11 zo zd : Tok) (v0 v2 : Value) (aSl aIn aLt aGt aEq aLe aGe aSt aD : Addr) : List DictEntry :=
  [de q0 "__module__" z0 v0, de q2 "__firstlineno__" z2 v2, de q3 "__slots__" z3 (.ref aSl), de q4 "__init__" z4 (.ref aIn), de q5 "__lt__" z5 (.ref aLt), de q6 "__gt__" z6 (.ref aGt), de q7 "__eq__" z7 (.ref aEq), de q8 "__le__" z8 (.ref aLe), de q9 "__ge__" z9 (.ref aGe),
      de q10 "__hash__" z10 .none, de q11 "__static_attributes__" z11 (.ref aSt), de qo "obj" zo (.ref aD), de qd "__doc__" zd .none]
theorem entriesQ_size (q0 q2 q3 q4 q5 q6 q7 q8 q9 q10 q11 : Int) (z0 z2 z3 z4 z5 z6 z7 z8 z9 z10 z11 : Tok) (v0 v2 : Value) (aSl aIn aLt aGt aEq aLe aGe aSt : Addr) : (entriesQ q0 q2 q3 q4 q5 q6 q7 q8 q9 q10 q11 z0 z2 z3 z4 z5 z6 z7 z8 z9 z10 z11 v0 v2 aSl aIn aLt aGt aEq aLe aGe aSt).size = 11 := rfl
noncomputable def clsQ (aK aN bT : Addr) (t0 yq : Tok) : Obj := Obj.mk (.type "type") none (.cls (clsD aK aN)) #[some (.ref bT), none, some (.str (Str.ofString "K") t0), some (.str kQual yq), some (.builtin "object.__new__")]
noncomputable def clsR (aK aN bT : Addr) (t0 yq : Tok) : Obj := Obj.mk (.type "type") none (.cls (clsD aK aN)) #[some (.ref bT), none, some (.str (Str.ofString "K") t0), some (.str kQual yq), some (.builtin "object.__new__"), some (.bool false)]
noncomputable def nsR (es : Array DictEntry) (n : Nat) : Obj := Obj.mk (.type "dict") none (.dict es n) #[]
noncomputable def nsP (es : Array DictEntry) : Obj := Obj.mk (.type "dict") none (.dict es 1) #[]
section
variable {M : Model} {A : Around} {E : Value → Shared → Prop} {h₀ h : Heap} {g : Array GenState} {d : Drawn} {t : Nat} {os : OsState} {chg news : List (Addr × Obj)}
theorem m_nsSet {a : Addr} {o : Obj} {es : Array DictEntry} {ep : Nat} {name : Str} {v : Value} {Q : Unit → Shared → Prop} (D : Mem h₀ h chg news) (i : Nat) (hi : news[i]? = some (a, o)) (hd : o.data = .dict es ep) (hr : aRefKeyMayBeTheName name es = false)
    (hf : ∀ hh tk, (Obj.putName name hh (.str name tk) v o).isFreed = false)
    (k : ∀ hh tk h' t', Mem h₀ h' chg (news.set i (a, Obj.putName name hh (.str name tk) v o)) → Q () ⟨h', g, d, t', os⟩) : wpAny M A (nsSet a name v) Q E ⟨h, g, d, t, os⟩ := by
  unfold nsSet strHash
  refine wpAny_bind (wpAny_bind (wpAny_askSetting (wpAny_pure ?_)))
  refine wpAny_bind (wpAny_bind (wpAny_fresh' (wpAny_pure ?_)))
  refine wpAny_bind (wpAny_loadPart (D.at i a o hi) ?_)
  rw [hd]
  dsimp only
  rw [hr, if_neg (by decide)]
  exact m_updatePart D i hi (hf _ _) fun h' D' => k _ _ h' _ D'
theorem m_nsSetBV {a : Addr} {o : Obj} {es : Array DictEntry} {ep : Nat} {name : Str} {v : Value} {Q : Unit → Shared → Prop} (D : Mem h₀ h chg news) (i : Nat) (hi : news[i]? = some (a, o)) (hd : o.data = .dict es ep) (hz : es.size ≤ sizeLine) (hr : aRefKeyMayBeTheName name es = false)
    (hf : ∀ hh tk, (Obj.putName name hh (.str name tk) v o).isFreed = false)
    (k : ∀ hh tk h' t', Mem h₀ h' chg (news.set i (a, Obj.putName name hh (.str name tk) v o)) → Q () ⟨h', g, d, t', os⟩) : wpAny M A (nsSetByValue a name v) Q E ⟨h, g, d, t, os⟩ := by
  unfold nsSetByValue
  refine wpAny_bind (wpAny_loadPart (D.at i a o hi) ?_)
  rw [hd]
  dsimp only
  rw [if_neg (by simp; intro q; omega)]
  exact m_nsSet D i hi hd hr hf k
theorem m_nsDel {a : Addr} {o : Obj} {name : Str} {Q : Bool → Shared → Prop} (D : Mem h₀ h chg news) (i : Nat) (hi : news[i]? = some (a, o)) (hh : nsHas name o = pure true) (hf : (Obj.dropName name o).isFreed = false)
    (k : ∀ h', Mem h₀ h' chg (news.set i (a, Obj.dropName name o)) → Q true ⟨h', g, d, t, os⟩) : wpAny M A (nsDel a name) Q E ⟨h, g, d, t, os⟩ := by
  unfold nsDel
  refine wpAny_bind (wpAny_loadPart (D.at i a o hi) ?_)
  refine wpAny_bind (wpAny_of_eq hh ?_)
  rw [if_pos rfl]
  exact wpAny_bind (m_updatePart D i hi hf fun h' D' => wpAny_pure (k h' D'))
noncomputable def instF (c : ClassData) : ClassData := { c with hasDict := false, slotNames := [] ++ [Str.ofString "obj"] }
noncomputable def desO (aK : Addr) (tk : Tok) : Obj := Obj.mk (.type "member_descriptor") none (.fields #[.str (Str.ofString "obj") tk, .ref aK, .builtin "proto.slot", .builtin "proto.slot#set", .int 0 0]) #[]
theorem install_c {a aN : Addr} {oA oN : Obj} {cd : ClassData} {es : Array DictEntry} {ep : Nat} {Q : Unit → Shared → Prop} (D : Mem h₀ h chg news) (i j : Nat) (hi : news[i]? = some (a, oA)) (hj : news[j]? = some (aN, oN)) (ij : i ≠ j)
    (hd : oA.data = .cls cd) (hdN : oN.data = .dict es ep) (hz : es.size ≤ sizeLine) (e : nsLook (Str.ofString "obj") oN = pure none) (hr : aRefKeyMayBeTheName (Str.ofString "obj") es = false)
    (hf : ∀ hh tk v, (Obj.putName (Str.ofString "obj") hh (.str (Str.ofString "obj") tk) v oN).isFreed = false) (hfA : (Obj.mapCls instF oA).isFreed = false) (hzA : (Obj.mapCls instF oA).data.pastItsLine = none)
    (k : ∀ aD td hh tk h' t', Mem h₀ h' chg ((((aD, desO a td) :: news).set (j + 1) (aN, Obj.putName (Str.ofString "obj") hh (.str (Str.ofString "obj") tk) (.ref aD) oN)).set (i + 1) (a, Obj.mapCls instF oA)) → Q () ⟨h', g, d, t', os⟩) :
    wpAny M A (Builtin.Slots.install (.ref a) aN [.type "object"] { names := [Str.ofString "obj"], dict := false, weak := false, inherited := [] }) Q E ⟨h, g, d, t, os⟩ := by
  unfold Builtin.Slots.install
  dsimp only
  refine wpAny_bind (w_forIn_cons ?_)
  refine wpAny_bind (m_nsGet (D.at j aN oN hj) e ?_)
  refine wpAny_ite_true rfl ?_
  refine wpAny_bind (wpAny_mkStr' ?_)
  refine wpAny_bind (m_newObj D rfl (by size_fits) ?_)
  intro aD h1 D1
  have hj1 : ((aD, desO a t) :: news)[j + 1]? = some (aN, oN) := hj
  refine wpAny_bind (m_nsSetBV D1 (j + 1) hj1 hdN hz hr (fun _ _ => hf _ _ _) ?_)
  intro hh tk h2 t2 D2
  refine wpAny_pure ?_
  dsimp only
  refine w_forIn_nil ?_
  refine wpAny_bind (w_forIn_cons ?_)
  refine wpAny_bind (wpAny_of_eq p_dict ?_)
  refine wpAny_ite_false rfl ?_
  refine wpAny_pure ?_
  dsimp only
  refine w_forIn_nil ?_
  rw [if_neg (by rw [sizeLine_eq]; decide)]
  refine m_updateCls D2 (i + 1) ?_ hd hfA hzA ?_
  · rw [List.getElem?_set_ne (by omega)]; exact hi
  intro h3 D3
  exact k _ _ _ _ h3 _ D3
end
end Mine
end
section
open PySem PySem.W PySem.W.X PyProof.Rows PySem.Spec PySem.Calls
set_option Elab.async false
set_option maxRecDepth 100000
set_option linter.unusedVariables false
set_option pp.maxSteps 300
namespace Mine
section
variable {M : Model} {A : Around} {E : Value → Shared → Prop} {s : Shared}
theorem cls_store {env : Env} {name : Str} {v : Value} {es : Array DictEntry} {n n' : Nat} {f : Int → Tok → Array DictEntry} {Q : Unit → Shared → Prop} (hk : env.kindOf name = some .local) (hc : env.scope.kind = .class) (hn : s.heap.get? env.locals = some (nsR es n)) (hr : aRefKeyMayBeTheName name es = false)
    (he : ∀ hh tk, Obj.putName name hh (.str name tk) v (nsR es n) = nsR (f hh tk) n')
    (k : ∀ hh tk h' t', Heap.SameBut env.locals s.heap h' → h'.get? env.locals = some (nsR (f hh tk) n') → Q () { s with heap := h', toks := t' }) : wpAny M A (storeName env name v) Q E s := by
  unfold storeName
  rw [hk]
  rw [if_neg (by simp)]
  simp only [hc]
  show wpAny M A (localSet env name v) Q E s
  unfold localSet
  refine wpAny_bind (wpAny_load hn ?_)
  refine wpAny_ite_true rfl ?_
  unfold nsSet strHash
  refine wpAny_bind (wpAny_bind (wpAny_askSetting (wpAny_pure ?_)))
  refine wpAny_bind (wpAny_mkText ?_)
  refine wpAny_bind (wpAny_loadPart hn ?_)
  show wpAny M A (if aRefKeyMayBeTheName name es = true then _ else _) Q E _
  rw [hr, if_neg (by decide)]
  refine wpAny_updatePart hn ?_
  generalize (if name.cps.isEmpty = true then 0 else reduceHash ((⟨M.prog, M.w.params⟩ : Setting).params.strHash name.cps)) = hh
  have q := Heap.get?_update_self (Obj.putName name hh (.str name s.toks) v) hn (by rw [he]; rfl)
  rw [he] at q
  exact k hh s.toks (s.heap.update env.locals (Obj.putName name hh (.str name s.toks) v)) (s.toks + 1) (Heap.SameBut.update ..) q
end
/-- the body of the class under way: its code's table, its dict, what was made -/
structure CB (g : Heap) (c P N : Addr) (ps : Array Value) (es : Array DictEntry) (n : Nat) (fs : List (Addr × Obj)) (h : Heap) : Prop where
  old : Keep g h
  gP : g.get? P = none
  gN : g.get? N = none
  hc : CodeHd h c P
  hP : h.get? P = some (tabObj ps)
  hN : h.get? N = some (nsR es n)
  fs : ∀ p ∈ fs, h.get? p.1 = some p.2 ∧ p.1 ≠ P ∧ p.1 ≠ N
theorem hd_extBut {h h' : Heap} {c P a : Addr} (x : CodeHd h c P) (k : Heap.ExtBut a h h') (ne : c ≠ a) : CodeHd h' c P :=
  let ⟨o, vs, file, tf, flags, tg, inF, text, tt, e, r⟩ := x; ⟨o, vs, file, tf, flags, tg, inF, text, tt, k _ _ ne e, r⟩
theorem hd_neP {h : Heap} {c P : Addr} (x : CodeHd h c P) : c ≠ P := let ⟨o, vs, file, tf, flags, tg, inF, text, tt, _, _, _, _, _, _, _, _, _, ne⟩ := x; ne
theorem hd_ne {h : Heap} {c P a : Addr} {o : Obj} (x : CodeHd h c P) (e : h.get? a = some o) (hn : o.cls ≠ .type "code") : c ≠ a := by
  obtain ⟨o', vs, file, tf, flags, tg, inF, text, tt, e', hcl, _⟩ := x
  rintro rfl
  rw [e] at e'; cases e'
  exact hn hcl
theorem CB.ne {g h : Heap} {c P N : Addr} {ps : Array Value} {es : Array DictEntry} {n : Nat} {fs : List (Addr × Obj)} (S : CB g c P N ps es n fs h) : N ≠ P := by
  rintro rfl
  have := S.hP.symm.trans S.hN
  cases this
theorem CB.store {g h h' : Heap} {c P N : Addr} {ps : Array Value} {es es' : Array DictEntry} {n n' : Nat} {fs : List (Addr × Obj)} (S : CB g c P N ps es n fs h) (k : Heap.SameBut N h h') (e : h'.get? N = some (nsR es' n')) : CB g c P N ps es' n' fs h' where
  old := fun b o q => k.extBut b o (fun z => by rw [z, S.gN] at q; cases q) (S.old b o q)
  gP := S.gP
  gN := S.gN
  hc := hd_extBut S.hc k.extBut (hd_ne S.hc S.hN (by simp [nsR]))
  hP := k.extBut _ _ (Ne.symm S.ne) S.hP
  hN := e
  fs := fun p hp => ⟨k.extBut _ _ (S.fs p hp).2.2 (S.fs p hp).1, (S.fs p hp).2⟩
/-- behind calls that change the table alone -/
theorem CB.tab {g h h' : Heap} {c P N : Addr} {ps ps' : Array Value} {es : Array DictEntry} {n : Nat} {fs : List (Addr × Obj)} (S : CB g c P N ps es n fs h) (k : Heap.ExtBut P h h') (e : h'.get? P = some (tabObj ps')) : CB g c P N ps' es n fs h' where
  old := fun b o q => k b o (fun z => by rw [z, S.gP] at q; cases q) (S.old b o q)
  gP := S.gP
  gN := S.gN
  hc := hd_extBut S.hc k (hd_neP S.hc)
  hP := e
  hN := k _ _ S.ne S.hN
  fs := fun p hp => ⟨k _ _ (S.fs p hp).2.1 (S.fs p hp).1, (S.fs p hp).2⟩
theorem CB.keep {g h h' : Heap} {c P N : Addr} {ps : Array Value} {es : Array DictEntry} {n : Nat} {fs : List (Addr × Obj)} (S : CB g c P N ps es n fs h) (k : Keep h h') : CB g c P N ps es n fs h' := S.tab (fun b o _ e => k b o e) (k _ _ S.hP)
theorem CB.add {g h : Heap} {c P N a : Addr} {o : Obj} {ps : Array Value} {es : Array DictEntry} {n : Nat} {fs : List (Addr × Obj)} (S : CB g c P N ps es n fs h) (e : h.get? a = some o) (hP : a ≠ P) (hN : a ≠ N) : CB g c P N ps es n ((a, o) :: fs) h :=
  ⟨S.old, S.gP, S.gN, S.hc, S.hP, S.hN, fun p hp => by
    rcases List.mem_cons.mp hp with rfl | hp
    · exact ⟨e, hP, hN⟩
    · exact S.fs p hp⟩
noncomputable abbrev codeO (qual : Str) (od : Option Addr) (c0 : Value) (t : Tok) (cr : List Value) (sl : Array (Option Value)) : Obj := Obj.mk (.type "code") od (.fields (Array.mk (c0 :: .str qual t :: cr))) sl
theorem cdef_c {w : World} {A : Around} {s : Shared} {g : Heap} {c P N : Addr} {ps : Array Value} {es : Array DictEntry} {n : Nat} {fs : List (Addr × Obj)} {env : Env} {name : Str} {params : Arguments} {body : List Stmt} {scope : Scope} {pos : Pos} {clos : List (Str × Addr)} {mg : Str → Option Value} {Q : Flow → Shared → Prop} {E : Value → Shared → Prop}
    (S : CB g c P N ps es n fs s.heap) (hgn : g.Ns mainGlobals mg) (hb : g.BuiltinsAt mg P) (hloc : env.locals = N) (hcode : env.code = .ref c) (hgl : env.globals = mainGlobals) (hkc : env.scope.kind = .class) (hkn : env.kindOf name = some .local)
    (hcl : closureFor scope env = pure clos) (hd0 : params.defaults = []) (hk0 : params.kw_defaults = []) (ha : annTrees params none env = []) (hdoc : docOf body = none) (ht : TriplesOk ps.toList) (hnf : codeAmong pos ps.toList = none)
    (hr : aRefKeyMayBeTheName name es = false) (he : ∀ f hh tk, Obj.putName name hh (.str name tk) (.ref f) (nsR es n) = nsR (es ++ #[⟨hh, .str name tk, .ref f⟩]) (n + 1))
    (k : ∀ f c' ctv od c0 t cr sl hh tk h' t', CB g c P N (ps ++ #[rawInt pos.line, rawInt pos.col, .ref c']) (es ++ #[⟨hh, .str name tk, .ref f⟩]) (n + 1)
      ((f, fnMade name (qualnameIn env name name) params body scope clos .none ((mg "__name__").getD .none) c' ctv) :: (c', codeO (qualnameIn env name name) od c0 t cr sl) :: fs) h' → Q .next { s with heap := h', toks := t' }) :
    wpAny (model PP w) A (exec (.FunctionDef name params body [] none [] scope none name pos) env) Q E s := by
  subst hloc
  have hgP : mainGlobals ≠ P := fun q => by
    obtain ⟨o, es, ep, e, _⟩ := hgn
    rw [q, S.gP] at e; cases e
  obtain ⟨bm, ob, b1, b2, b3, b4, b5, b6⟩ := hb
  refine nestDef_K hd0 hk0 ha ?_
  refine mkfn_c (mg := mg) hcl hgl (hgn.keeps S.old) hcode S.hc S.hP ht hnf hgP ⟨bm, ob, b1, b2, b3, b4, S.old _ _ b5, b6⟩ hdoc ?_
  intro f c' ctv h1 t1 x1 nf nc hf hq hp
  have S1 := S.tab x1 hp
  obtain ⟨od, c0, t, cr, sl, hq⟩ := hq
  have fP : ∀ a o, s.heap.get? a = some o → f ≠ a := fun a o e z => by rw [z, e] at nf; cases nf
  have cP : ∀ a o, s.heap.get? a = some o → c' ≠ a := fun a o e z => by rw [z, e] at nc; cases nc
  have S2 := (S1.add hq (cP _ _ S.hP) (cP _ _ S.hN)).add hf (fP _ _ S.hP) (fP _ _ S.hN)
  refine cls_store hkn hkc S2.hN hr (he f) ?_
  intro hh tk h2 t2 x2 e2
  exact k f c' ctv od c0 t cr sl hh tk h2 t2 (S2.store x2 e2)
end Mine
end
section
open PySem PySem.W PySem.W.X PyProof.Rows
set_option Elab.async false
set_option maxRecDepth 100000
set_option linter.unusedVariables false
namespace Mine
section
set_option maxHeartbeats 0 in
theorem super_x {w : World} {h : Heap} {g : Array GenState} {d : Drawn} {t : Nat} {os : OsState} {aK aNs : Addr} {sl0 sl1 sl2 sl3 sl4 sl5 : Option Value}
    (KX : (Kc w.params).In h)
    (hK : h.get? aK = some (Obj.mk (.type "type") none (.cls (clsD aK aNs)) #[sl0, sl1, sl2, sl3, sl4, sl5])) :
    wpAny (model PP w) AA (call (.type "super") [.ref aK, .ref aK]) (fun v s' => ∃ x, v = .ref x ∧ s'.heap.get? x = some (Obj.mk (.type "super") none (.fields #[.ref aK, .ref aK, .ref aK]) #[]) ∧ (∀ b o, h.get? b = some o → s'.heap.get? b = some o) ∧ Rest ⟨h, g, d, t, os⟩ s') (fun _ _ => False) ⟨h, g, d, t, os⟩ := by
  x_run
end
end Mine
end
section
open PySem PySem.W PySem.W.X PyProof.Rows
set_option Elab.async false
set_option maxRecDepth 100000
set_option linter.unusedVariables false
set_option pp.maxSteps 250
namespace Mine
noncomputable abbrev bndO (aK : Addr) : Obj := Obj.mk (.type "builtin_function_or_method") none (.fields #[.builtin "object.__init_subclass__", .ref aK]) #[]
section
set_option maxHeartbeats 0 in
theorem bound_x {w : World} {h : Heap} {g : Array GenState} {d : Drawn} {t : Nat} {os : OsState} {aK aNs : Addr} {sl0 sl1 sl2 sl3 sl4 sl5 : Option Value}
    (KX : (Kc w.params).In h)
    (hK : h.get? aK = some (Obj.mk (.type "type") none (.cls (clsD aK aNs)) #[sl0, sl1, sl2, sl3, sl4, sl5])) :
    wpAny (model PP w) AA (call (.builtin "classmethod_descriptor.__get__") [.builtin "object.__init_subclass__", .none, .ref aK]) (fun v s' => ∃ x, v = .ref x ∧ s'.heap.get? x = some (bndO aK) ∧ (∀ b o, h.get? b = some o → s'.heap.get? b = some o) ∧ Rest ⟨h, g, d, t, os⟩ s') (fun _ _ => False) ⟨h, g, d, t, os⟩ := by
  x_run
set_option maxHeartbeats 0 in
theorem initsub_x {w : World} {h : Heap} {g : Array GenState} {d : Drawn} {t : Nat} {os : OsState} {x aK aNs : Addr} {sl0 sl1 sl2 sl3 sl4 sl5 : Option Value}
    (KX : (Kc w.params).In h)
    (hK : h.get? aK = some (Obj.mk (.type "type") none (.cls (clsD aK aNs)) #[sl0, sl1, sl2, sl3, sl4, sl5]))
    (hx : h.get? x = some (Obj.mk (.type "builtin_function_or_method") none (.fields #[.builtin "object.__init_subclass__", .ref aK]) #[])) :
    wpAny (model PP w) AA (call (.ref x) []) (fun v s' => v = .none ∧ (∀ b o, h.get? b = some o → s'.heap.get? b = some o) ∧ Rest ⟨h, g, d, t, os⟩ s') (fun _ _ => False) ⟨h, g, d, t, os⟩ := by
  x_run
end
theorem p_isOp (a : Addr) : (Value.ref a == Value.ref a) = true := beq_self_eq_true _
theorem p_drop (a : Addr) : List.drop 1 (List.dropWhile (fun x => x != Value.ref a) [Value.ref a, Value.type "object"]) = [Value.type "object"] := by simp
theorem p_own : classOwn (.type "object") "__init_subclass__" = pure (some (.builtin "object.__init_subclass__")) := by kernel_rfl
theorem p_ty : typeOf (.builtin "object.__init_subclass__") = pure (.type "classmethod_descriptor") := by kernel_rfl
theorem p_get : typeLookup (.type "classmethod_descriptor") "__get__" = pure (some (.builtin "classmethod_descriptor.__get__")) := by kernel_rfl
theorem super_ga {w : World} {A : Around} {h : Heap} {g : Array GenState} {d : Drawn} {t : Nat} {os : OsState} {aS aK aNs : Addr} {sl0 sl1 sl2 sl3 sl4 sl5 : Option Value} {u : Tok} {n : Nat} {Q : Fin → Shared → Prop} {E : Value → Shared → Prop}
    (hA : Low A n) (KX : (Kc w.params).In h)
    (hK : h.get? aK = some (Obj.mk (.type "type") none (.cls (clsD aK aNs)) #[sl0, sl1, sl2, sl3, sl4, sl5]))
    (hS : h.get? aS = some (Obj.mk (.type "super") none (.fields #[.ref aK, .ref aK, .ref aK]) #[]))
    (k : ∀ x h' t', Keep h h' → h'.get? x = some (bndO aK) → Q (.done (.ret (.ref x))) ⟨h', g, d, t', os⟩) :
    wpAny (model PP w) A (Builtin.«super.__getattribute__» ⟨[.ref aS, .str (Str.ofString "__init_subclass__") u], []⟩) Q E ⟨h, g, d, t, os⟩ := by
  have LO : Looks (model PP w) h (opaqueClassAbove (.ref aK)) none := looks_opaque KX rfl
  have LM : Looks (model PP w) h (mroOf (.ref aK)) [.ref aK, .type "object"] := fun A Q E s kk q => by
    show wpAny _ A (classData aK >>= fun c => pure c.mro) Q E s
    exact wpAny_bind (classData_ref (kk _ _ hK) rfl (wpAny_pure q))
  have hdt : ({ cls := .type "super", dict := none, data := .fields #[.ref aK, .ref aK, .ref aK], slots := #[] } : Obj).data = .fields #[.ref aK, .ref aK, .ref aK] := rfl
  have f0 : (#[.ref aK, .ref aK, .ref aK] : Array Value)[0]? = some (.ref aK) := rfl
  have f1 : (#[.ref aK, .ref aK, .ref aK] : Array Value)[1]? = some (.ref aK) := rfl
  have f2 : (#[.ref aK, .ref aK, .ref aK] : Array Value)[2]? = some (.ref aK) := rfl
  unfold Builtin.«super.__getattribute__»
  iterate 34 (first | (with_reducible refine wpAny_field hS hdt f0 ?_) | (with_reducible refine wpAny_field hS hdt f1 ?_) | (with_reducible refine wpAny_field hS hdt f2 ?_) | (first | (with_reducible first | refine wpAny_pure ?_ | refine wpAny_bind ?_ | refine wpAny_holding ?_ | refine wpAny_standAt ?_ | refine wpAny_point ?_ | refine wpAny_rule ?_ | refine wpAny_fresh' ?_ | refine w_if_false (by assumption) ?_ | refine w_forIn_nil ?_ | refine w_forIn_cons ?_ | refine ks_wpAny_notOpaque (by assumption) ?_ | refine Looks.at (by assumption) ?_ | refine wpAny_of_eq p_own ?_ | refine wpAny_of_eq p_ty ?_ | refine wpAny_of_eq p_get ?_) | ((with_reducible apply wpAny_load'); focus (assumption; done)) | ((with_reducible apply wpAny_loadPart'); focus (assumption; done)) | ((with_reducible apply wpAny_ite_false); focus ((first | with_reducible rfl | kernel_rfl!); done)) | ((with_reducible apply wpAny_ite_true); focus ((first | with_reducible rfl | kernel_rfl!); done)) | wp_delta | rw [p_drop]) | skip)
  rw [p_isOp, if_pos rfl]
  refine noE (hA.run (wpAny_mono (bound_x KX hK) ?_ (fun _ _ x => x.elim)))
  rintro _ ⟨h2, g2, d2, t2, o2⟩ ⟨x, rfl, hx, k2, rfl, rfl, rfl⟩
  iterate 8 (first | (first | (with_reducible first | refine wpAny_pure ?_ | refine wpAny_bind ?_ | refine wpAny_holding ?_ | refine wpAny_standAt ?_ | refine wpAny_point ?_ | refine wpAny_rule ?_ | refine wpAny_fresh' ?_ | refine w_if_false (by assumption) ?_ | refine w_forIn_nil ?_ | refine w_forIn_cons ?_ | refine ks_wpAny_notOpaque (by assumption) ?_ | refine Looks.at (by assumption) ?_ | refine wpAny_of_eq p_own ?_ | refine wpAny_of_eq p_ty ?_ | refine wpAny_of_eq p_get ?_) | ((with_reducible apply wpAny_load'); focus (assumption; done)) | ((with_reducible apply wpAny_loadPart'); focus (assumption; done)) | ((with_reducible apply wpAny_ite_false); focus ((first | with_reducible rfl | kernel_rfl!); done)) | ((with_reducible apply wpAny_ite_true); focus ((first | with_reducible rfl | kernel_rfl!); done)) | wp_delta | rw [p_drop]) | skip)
  exact k x h2 t2 k2 hx
end Mine
end
section
open PySem PySem.W PySem.W.X PyProof.Rows
set_option Elab.async false
set_option maxRecDepth 100000
set_option linter.unusedVariables false
set_option pp.maxSteps 250
namespace Mine
theorem Low.in1 {A : Around} {n : Nat} (h : Low A (n + 1)) : Low A.in1 n := by
  refine ⟨h.hd, ?_, ?_⟩
  · have := h.dp; show A.depth + n ≤ 600; omega
  · have := h.un; show A.units + 1 + 3 * n ≤ 600; omega
theorem super_attr {w : World} {A : Around} {h : Heap} {g : Array GenState} {d : Drawn} {t : Nat} {os : OsState} {aS aK aNs : Addr} {sl0 sl1 sl2 sl3 sl4 sl5 : Option Value} {n : Nat} {Q : Value → Shared → Prop} {E : Value → Shared → Prop}
    (hA : Low A (n + 1)) (KX : (Kc w.params).In h)
    (hK : h.get? aK = some (Obj.mk (.type "type") none (.cls (clsD aK aNs)) #[sl0, sl1, sl2, sl3, sl4, sl5]))
    (hS : h.get? aS = some (Obj.mk (.type "super") none (.fields #[.ref aK, .ref aK, .ref aK]) #[]))
    (k : ∀ x h' t', Keep h h' → h'.get? x = some (bndO aK) → Q (.ref x) ⟨h', g, d, t', os⟩) :
    wpAny (model PP w) A (getAttr (.ref aS) (Str.ofString "__init_subclass__")) Q E ⟨h, g, d, t, os⟩ := by
  have hlk := PySem.F.ks_slot_super_ga.lookup
  have hT : ∀ t', (⟨h, g, d, t', os⟩ : Shared).TypeIs (.ref aS) "super" := fun _ => ⟨_, hS, rfl⟩
  unfold getAttr getAttrBy
  refine wpAny_bind (wpAny_mkText (wpAny_holding (wpAny_bind (wpAny_typeOf (hT _) (wpAny_bind (wpAny_of_eq hlk ?_))))))
  show wpAny _ _ (getAttrByItsOwn (.ref aS) (.str (Str.ofString "__init_subclass__") t) (.type "super") (.builtin "super.__getattribute__") true false) _ _ _
  unfold getAttrByItsOwn hookBefore callGetattribute boundAndCalled
  refine wpAny_bind (wpAny_of_eq (show (if onTheHeap (.type "super") then typeLookup (.type "super") "__getattr__" else pure none) = pure none from rfl) ?_)
  refine wpAny_bind (wpAny_attempt (wpAny_holding ?_))
  show wpAny _ _ (bindSpecial (.builtin "super.__getattribute__") (.ref aS) >>= _) _ _ _
  refine wpAny_bind (wpAny_of_eq (PySem.F.ks_slot_super_ga.bind _) ?_)
  refine wpAny_call_entry PySem.F.ks_slot_super_ga (hT _) PySem.F.ks_entry_super_ga (super_ga (hA.in1) KX hK hS ?_) (PySem.F.ks_gaArgs_super _ _)
  intro x h' t' k' hx
  exact ⟨_, rfl, wpAny_pure (k x h' t' k' hx)⟩
end Mine
end
section
open PySem PySem.W PySem.W.X PyProof.Rows
set_option Elab.async false
set_option maxRecDepth 100000
set_option linter.unusedVariables false
set_option pp.maxSteps 250
namespace Mine

set_option maxHeartbeats 4000000 in
theorem tnew {w : World} {A : Around} {h : Heap} {g : Array GenState} {d : Drawn} {t : Nat} {os : OsState} {bT nsA aIn aLt aGt aEq aLe aGe aSl aSt : Addr} {t0 : Tok} {Q : Fin → Shared → Prop} {E : Value → Shared → Prop}
    {q0 q1 q2 q3 q4 q5 q6 q7 q8 q9 q10 q11 : Int} {z0 z1 z2 z3 z4 z5 z6 z7 z8 z9 z10 z11 zs yq : Tok} {sM : Str} {zM zF : Tok} {iF : Int} {ep : Nat} {oIn oLt oGt oEq oLe oGe : Obj} {oSt : Obj}
    (KX : (Kc w.params).In h)
    (hb : h.get? bT = some (Obj.mk (.type "tuple") none (.seq #[.type "object"] 0) #[]))
    (hn : h.get? nsA = some (Obj.mk (.type "dict") none (.dict (entriesK q0 q1 q2 q3 q4 q5 q6 q7 q8 q9 q10 q11 z0 z1 z2 z3 z4 z5 z6 z7 z8 z9 z10 z11 yq (.str sM zM) (.int iF zF) aSl aIn aLt aGt aEq aLe aGe aSt) ep) #[]))
    (hIn : h.get? aIn = some oIn) (cIn : oIn.cls = .type "function") (hLt : h.get? aLt = some oLt) (cLt : oLt.cls = .type "function") (hGt : h.get? aGt = some oGt) (cGt : oGt.cls = .type "function")
    (hEq : h.get? aEq = some oEq) (cEq : oEq.cls = .type "function") (hLe : h.get? aLe = some oLe) (cLe : oLe.cls = .type "function") (hGe : h.get? aGe = some oGe) (cGe : oGe.cls = .type "function")
    (hSt : h.get? aSt = some oSt) (cSt : oSt.cls = .type "tuple")
    (hne : (nsA == sysModules) = false)
    (hsl : h.get? aSl = some (Obj.mk (.type "list") none (.seq #[.str (Str.ofString "obj") zs] 0) #[]))
    (hA : Low A 4)
    (k : ∀ aK aN aD td ho to hd tD h' t', Keep h h' → h'.get? aK = some (clsR aK aN bT t0 yq) → h'.get? aD = some (desO aK td) →
      h'.get? aN = some (nsR (entriesQ q0 q2 q3 q4 q5 q6 q7 q8 q9 q10 q11 z0 z2 z3 z4 z5 z6 z7 z8 z9 z10 z11 (.str sM zM) (.int iF zF) aSl aIn aLt aGt aEq aLe aGe aSt ++ #[de ho "obj" to (.ref aD), de hd "__doc__" tD .none]) 3) → Q (.done (.ret (.ref aK))) ⟨h', g, d, t', os⟩) :
    wpAny (model PP w) A (Builtin.«type.__new__» ⟨[.type "type", .str (Str.ofString "K") t0, .ref bT, .ref nsA], []⟩) Q E ⟨h, g, d, t, os⟩ := by
  unfold Builtin.«type.__new__»
  have D := Mem.start h
  repeat (first | (with_reducible first | refine wpAny_pure ?_ | refine wpAny_bind ?_ | refine wpAny_holding ?_ | refine wpAny_standAt ?_ | refine wpAny_point ?_ | refine wpAny_rule ?_ | refine wpAny_fresh' ?_ | refine w_if_false (by assumption) ?_ | refine w_forIn_nil ?_ | refine w_forIn_cons ?_) | ((with_reducible apply wpAny_load'); focus ((first | assumption | exact Mem.at (by assumption) 0 _ _ rfl | exact Mem.at (by assumption) 1 _ _ rfl | exact Mem.at (by assumption) 2 _ _ rfl | exact Mem.at (by assumption) 3 _ _ rfl | exact Mem.at (by assumption) 4 _ _ rfl | exact Mem.old (by assumption) _ _ (by assumption) rfl | exact mem_old0 (by assumption) (by assumption)); done)) | ((with_reducible apply wpAny_loadPart'); focus ((first | assumption | exact Mem.at (by assumption) 0 _ _ rfl | exact Mem.at (by assumption) 1 _ _ rfl | exact Mem.at (by assumption) 2 _ _ rfl | exact Mem.at (by assumption) 3 _ _ rfl | exact Mem.at (by assumption) 4 _ _ rfl | exact Mem.old (by assumption) _ _ (by assumption) rfl | exact mem_old0 (by assumption) (by assumption)); done)) | ((with_reducible apply wpAny_ite_false); focus ((first | with_reducible rfl | kernel_rfl!); done)) | ((with_reducible apply wpAny_ite_true); focus ((first | with_reducible rfl | kernel_rfl!); done)) | ((with_reducible show wpAny _ _ (Builtin.extendedBase _) _ _ _); refine wpAny_of_eq p_ext ?_) | ((with_reducible show wpAny _ _ (Builtin.Slots.bestBase _) _ _ _); refine wpAny_of_eq p_best ?_) | ((with_reducible show wpAny _ _ (Builtin.linearize _ _) _ _ _); refine wpAny_of_eq p_lin ?_) | ((with_reducible show wpAny _ _ (Bind.madeBy _) _ _ _); refine wpAny_of_eq p_made ?_) | ((with_reducible show wpAny _ _ (Builtin.mroHook? _) _ _ _); refine wpAny_of_eq p_hook ?_) | ((with_reducible show wpAny _ _ (Builtin.notOverATurnedClass _) _ _ _); refine wpAny_of_eq p_turned ?_) | ((with_reducible show wpAny _ _ (isType (Value.type _)) _ _ _); refine wpAny_of_eq p_isType ?_) | ((with_reducible show wpAny _ _ (typeLookup (Value.type _) _) _ _ _); refine wpAny_of_eq p_dictiter ?_) | ((with_reducible show wpAny _ _ (typeOf (Value.type _)) _ _ _); refine wpAny_of_eq p_typeOf ?_) | ((with_reducible show wpAny _ _ (isSubtype _ _) _ _ _); first | refine wpAny_of_eq p_sub1 ?_ | refine wpAny_of_eq p_sub2 ?_ | refine wpAny_of_eq p_sub3 ?_ | refine wpAny_of_eq p_sub4 ?_) | ((with_reducible show wpAny _ _ (forIn _ _ _) _ _ _); first | refine w_forIn_nil ?_ | refine w_forIn_cons ?_ | refine w_forInA ?_) | ((with_reducible show wpAny _ _ (newObj _ _ _) _ _ _); refine m_newObj (by assumption) (by kernel_rfl!) (by size_fits) ?_; intro _ _ _) | ((with_reducible show wpAny _ _ (alloc _) _ _ _); refine m_alloc (by assumption) (by kernel_rfl!) ?_; intro _ _ _) | ((with_reducible show wpAny _ _ (updatePart _ _ _) _ _ _); (first  | refine m_updatePart (by assumption) 0 rfl (by kernel_rfl!) ?_ | refine m_updatePart (by assumption) 1 rfl (by kernel_rfl!) ?_ | refine m_updatePart (by assumption) 2 rfl (by kernel_rfl!) ?_ | refine m_updatePart (by assumption) 3 rfl (by kernel_rfl!) ?_); intro _ _) | ((with_reducible show wpAny _ _ (update _ _) _ _ _); (first  | refine m_update (by assumption) 0 rfl (by kernel_rfl!) ?_ | refine m_update (by assumption) 1 rfl (by kernel_rfl!) ?_ | refine m_update (by assumption) 2 rfl (by kernel_rfl!) ?_ | refine m_update (by assumption) 3 rfl (by kernel_rfl!) ?_); intro _ _) | ((with_reducible show wpAny _ _ (nsGet _ _) _ _ _); refine m_nsGet (r := none) (by (first | assumption | exact Mem.at (by assumption) 0 _ _ rfl | exact Mem.at (by assumption) 1 _ _ rfl | exact Mem.at (by assumption) 2 _ _ rfl | exact Mem.at (by assumption) 3 _ _ rfl | exact Mem.at (by assumption) 4 _ _ rfl | exact Mem.old (by assumption) _ _ (by assumption) rfl | exact mem_old0 (by assumption) (by assumption))) (by kernel_rfl!) ?_) | ((with_reducible show wpAny _ _ (Builtin.Slots.givesWeak (Value.type _)) _ _ _); refine wpAny_of_eq p_weak ?_) | ((with_reducible show wpAny _ _ (Sem.tryCatch _ _) _ _ _); refine wpAny_tryCatch ?_) | ((with_reducible show wpAny _ _ (specialOf _ "__set_name__") _ _ _); first | refine wpAny_specialOf (show Shared.TypeIs _ _ "function" from ⟨_, by (first | assumption | exact Mem.at (by assumption) 0 _ _ rfl | exact Mem.at (by assumption) 1 _ _ rfl | exact Mem.at (by assumption) 2 _ _ rfl | exact Mem.at (by assumption) 3 _ _ rfl | exact Mem.at (by assumption) 4 _ _ rfl | exact Mem.old (by assumption) _ _ (by assumption) rfl | exact mem_old0 (by assumption) (by assumption)), by first | rfl | assumption⟩) s_function ?_ | refine wpAny_specialOf (show Shared.TypeIs _ _ "list" from ⟨_, by (first | assumption | exact Mem.at (by assumption) 0 _ _ rfl | exact Mem.at (by assumption) 1 _ _ rfl | exact Mem.at (by assumption) 2 _ _ rfl | exact Mem.at (by assumption) 3 _ _ rfl | exact Mem.at (by assumption) 4 _ _ rfl | exact Mem.old (by assumption) _ _ (by assumption) rfl | exact mem_old0 (by assumption) (by assumption)), by first | rfl | assumption⟩) s_list ?_ | refine wpAny_specialOf (show Shared.TypeIs _ _ "tuple" from ⟨_, by (first | assumption | exact Mem.at (by assumption) 0 _ _ rfl | exact Mem.at (by assumption) 1 _ _ rfl | exact Mem.at (by assumption) 2 _ _ rfl | exact Mem.at (by assumption) 3 _ _ rfl | exact Mem.at (by assumption) 4 _ _ rfl | exact Mem.old (by assumption) _ _ (by assumption) rfl | exact mem_old0 (by assumption) (by assumption)), by first | rfl | assumption⟩) s_tuple ?_ | refine wpAny_specialOf (show Shared.TypeIs _ _ "member_descriptor" from ⟨_, by (first | assumption | exact Mem.at (by assumption) 0 _ _ rfl | exact Mem.at (by assumption) 1 _ _ rfl | exact Mem.at (by assumption) 2 _ _ rfl | exact Mem.at (by assumption) 3 _ _ rfl | exact Mem.at (by assumption) 4 _ _ rfl | exact Mem.old (by assumption) _ _ (by assumption) rfl | exact mem_old0 (by assumption) (by assumption)), by first | rfl | assumption⟩) s_member_descriptor ?_ | refine wpAny_specialOf_val (T := "str") rfl s_str ?_ | refine wpAny_specialOf_val (T := "int") rfl s_int ?_ | refine wpAny_specialOf_val (T := "NoneType") rfl s_NoneType ?_) | ((with_reducible show wpAny _ _ (nsSet _ _ _) _ _ _); refine m_nsSet (by assumption) 2 rfl rfl (by kernel_rfl!) (fun _ _ => by kernel_rfl!) ?_) | ((with_reducible show wpAny _ _ (Builtin.noteSubclassOfBuiltin _ _) _ _ _); refine wpAny_of_eq (p_note _) ?_) | ((with_reducible show wpAny _ _ (Builtin.Slots.read _ _ _) _ _ _); refine read_c (by assumption) ?_) | ((with_reducible show wpAny _ _ (updateCls _ _) _ _ _); (first  | refine m_updateCls (by assumption) 0 rfl rfl (by kernel_rfl!) (by kernel_rfl!) ?_ | refine m_updateCls (by assumption) 1 rfl rfl (by kernel_rfl!) (by kernel_rfl!) ?_ | refine m_updateCls (by assumption) 2 rfl rfl (by kernel_rfl!) (by kernel_rfl!) ?_ | refine m_updateCls (by assumption) 3 rfl rfl (by kernel_rfl!) (by kernel_rfl!) ?_ | refine m_updateCls (by assumption) 4 rfl rfl (by kernel_rfl!) (by kernel_rfl!) ?_); intro _ _) | ((with_reducible show wpAny _ _ (setSlotAt _ _ _) _ _ _); (first  | refine m_setSlot (by assumption) 0 rfl (by kernel_rfl!) (by rw [sizeLine_eq]; decide) ?_ | refine m_setSlot (by assumption) 1 rfl (by kernel_rfl!) (by rw [sizeLine_eq]; decide) ?_ | refine m_setSlot (by assumption) 2 rfl (by kernel_rfl!) (by rw [sizeLine_eq]; decide) ?_ | refine m_setSlot (by assumption) 3 rfl (by kernel_rfl!) (by rw [sizeLine_eq]; decide) ?_ | refine m_setSlot (by assumption) 4 rfl (by kernel_rfl!) (by rw [sizeLine_eq]; decide) ?_); intro _ _) | wp_delta)
  intro h1 t1 k1
  have KX1 := Frag.In.keeps KX k1
  have hb1 := k1 _ _ hb
  have hsl1 := k1 _ _ hsl
  have hIn1 := k1 _ _ hIn
  have hLt1 := k1 _ _ hLt
  have hGt1 := k1 _ _ hGt
  have hEq1 := k1 _ _ hEq
  have hLe1 := k1 _ _ hLe
  have hGe1 := k1 _ _ hGe
  have hSt1 := k1 _ _ hSt
  clear D KX hb hn hsl hne hIn hLt hGt hEq hLe hGe hSt
  have D := Mem.start h1
  iterate 78 (first | (first | (with_reducible first | refine wpAny_pure ?_ | refine wpAny_bind ?_ | refine wpAny_holding ?_ | refine wpAny_standAt ?_ | refine wpAny_point ?_ | refine wpAny_rule ?_ | refine wpAny_fresh' ?_ | refine w_if_false (by assumption) ?_ | refine w_forIn_nil ?_ | refine w_forIn_cons ?_) | ((with_reducible apply wpAny_load'); focus ((first | assumption | exact Mem.at (by assumption) 0 _ _ rfl | exact Mem.at (by assumption) 1 _ _ rfl | exact Mem.at (by assumption) 2 _ _ rfl | exact Mem.at (by assumption) 3 _ _ rfl | exact Mem.at (by assumption) 4 _ _ rfl | exact Mem.old (by assumption) _ _ (by assumption) rfl | exact mem_old0 (by assumption) (by assumption)); done)) | ((with_reducible apply wpAny_loadPart'); focus ((first | assumption | exact Mem.at (by assumption) 0 _ _ rfl | exact Mem.at (by assumption) 1 _ _ rfl | exact Mem.at (by assumption) 2 _ _ rfl | exact Mem.at (by assumption) 3 _ _ rfl | exact Mem.at (by assumption) 4 _ _ rfl | exact Mem.old (by assumption) _ _ (by assumption) rfl | exact mem_old0 (by assumption) (by assumption)); done)) | ((with_reducible apply wpAny_ite_false); focus ((first | with_reducible rfl | kernel_rfl!); done)) | ((with_reducible apply wpAny_ite_true); focus ((first | with_reducible rfl | kernel_rfl!); done)) | ((with_reducible show wpAny _ _ (Builtin.extendedBase _) _ _ _); refine wpAny_of_eq p_ext ?_) | ((with_reducible show wpAny _ _ (Builtin.Slots.bestBase _) _ _ _); refine wpAny_of_eq p_best ?_) | ((with_reducible show wpAny _ _ (Builtin.linearize _ _) _ _ _); refine wpAny_of_eq p_lin ?_) | ((with_reducible show wpAny _ _ (Bind.madeBy _) _ _ _); refine wpAny_of_eq p_made ?_) | ((with_reducible show wpAny _ _ (Builtin.mroHook? _) _ _ _); refine wpAny_of_eq p_hook ?_) | ((with_reducible show wpAny _ _ (Builtin.notOverATurnedClass _) _ _ _); refine wpAny_of_eq p_turned ?_) | ((with_reducible show wpAny _ _ (isType (Value.type _)) _ _ _); refine wpAny_of_eq p_isType ?_) | ((with_reducible show wpAny _ _ (typeLookup (Value.type _) _) _ _ _); refine wpAny_of_eq p_dictiter ?_) | ((with_reducible show wpAny _ _ (typeOf (Value.type _)) _ _ _); refine wpAny_of_eq p_typeOf ?_) | ((with_reducible show wpAny _ _ (isSubtype _ _) _ _ _); first | refine wpAny_of_eq p_sub1 ?_ | refine wpAny_of_eq p_sub2 ?_ | refine wpAny_of_eq p_sub3 ?_ | refine wpAny_of_eq p_sub4 ?_) | ((with_reducible show wpAny _ _ (forIn _ _ _) _ _ _); first | refine w_forIn_nil ?_ | refine w_forIn_cons ?_ | refine w_forInA ?_) | ((with_reducible show wpAny _ _ (newObj _ _ _) _ _ _); refine m_newObj (by assumption) (by kernel_rfl!) (by size_fits) ?_; intro _ _ _) | ((with_reducible show wpAny _ _ (alloc _) _ _ _); refine m_alloc (by assumption) (by kernel_rfl!) ?_; intro _ _ _) | ((with_reducible show wpAny _ _ (updatePart _ _ _) _ _ _); (first  | refine m_updatePart (by assumption) 0 rfl (by kernel_rfl!) ?_ | refine m_updatePart (by assumption) 1 rfl (by kernel_rfl!) ?_ | refine m_updatePart (by assumption) 2 rfl (by kernel_rfl!) ?_ | refine m_updatePart (by assumption) 3 rfl (by kernel_rfl!) ?_); intro _ _) | ((with_reducible show wpAny _ _ (update _ _) _ _ _); (first  | refine m_update (by assumption) 0 rfl (by kernel_rfl!) ?_ | refine m_update (by assumption) 1 rfl (by kernel_rfl!) ?_ | refine m_update (by assumption) 2 rfl (by kernel_rfl!) ?_ | refine m_update (by assumption) 3 rfl (by kernel_rfl!) ?_); intro _ _) | ((with_reducible show wpAny _ _ (nsGet _ _) _ _ _); refine m_nsGet (r := none) (by (first | assumption | exact Mem.at (by assumption) 0 _ _ rfl | exact Mem.at (by assumption) 1 _ _ rfl | exact Mem.at (by assumption) 2 _ _ rfl | exact Mem.at (by assumption) 3 _ _ rfl | exact Mem.at (by assumption) 4 _ _ rfl | exact Mem.old (by assumption) _ _ (by assumption) rfl | exact mem_old0 (by assumption) (by assumption))) (by kernel_rfl!) ?_) | ((with_reducible show wpAny _ _ (Builtin.Slots.givesWeak (Value.type _)) _ _ _); refine wpAny_of_eq p_weak ?_) | ((with_reducible show wpAny _ _ (Sem.tryCatch _ _) _ _ _); refine wpAny_tryCatch ?_) | ((with_reducible show wpAny _ _ (specialOf _ "__set_name__") _ _ _); first | refine wpAny_specialOf (show Shared.TypeIs _ _ "function" from ⟨_, by (first | assumption | exact Mem.at (by assumption) 0 _ _ rfl | exact Mem.at (by assumption) 1 _ _ rfl | exact Mem.at (by assumption) 2 _ _ rfl | exact Mem.at (by assumption) 3 _ _ rfl | exact Mem.at (by assumption) 4 _ _ rfl | exact Mem.old (by assumption) _ _ (by assumption) rfl | exact mem_old0 (by assumption) (by assumption)), by first | rfl | assumption⟩) s_function ?_ | refine wpAny_specialOf (show Shared.TypeIs _ _ "list" from ⟨_, by (first | assumption | exact Mem.at (by assumption) 0 _ _ rfl | exact Mem.at (by assumption) 1 _ _ rfl | exact Mem.at (by assumption) 2 _ _ rfl | exact Mem.at (by assumption) 3 _ _ rfl | exact Mem.at (by assumption) 4 _ _ rfl | exact Mem.old (by assumption) _ _ (by assumption) rfl | exact mem_old0 (by assumption) (by assumption)), by first | rfl | assumption⟩) s_list ?_ | refine wpAny_specialOf (show Shared.TypeIs _ _ "tuple" from ⟨_, by (first | assumption | exact Mem.at (by assumption) 0 _ _ rfl | exact Mem.at (by assumption) 1 _ _ rfl | exact Mem.at (by assumption) 2 _ _ rfl | exact Mem.at (by assumption) 3 _ _ rfl | exact Mem.at (by assumption) 4 _ _ rfl | exact Mem.old (by assumption) _ _ (by assumption) rfl | exact mem_old0 (by assumption) (by assumption)), by first | rfl | assumption⟩) s_tuple ?_ | refine wpAny_specialOf (show Shared.TypeIs _ _ "member_descriptor" from ⟨_, by (first | assumption | exact Mem.at (by assumption) 0 _ _ rfl | exact Mem.at (by assumption) 1 _ _ rfl | exact Mem.at (by assumption) 2 _ _ rfl | exact Mem.at (by assumption) 3 _ _ rfl | exact Mem.at (by assumption) 4 _ _ rfl | exact Mem.old (by assumption) _ _ (by assumption) rfl | exact mem_old0 (by assumption) (by assumption)), by first | rfl | assumption⟩) s_member_descriptor ?_ | refine wpAny_specialOf_val (T := "str") rfl s_str ?_ | refine wpAny_specialOf_val (T := "int") rfl s_int ?_ | refine wpAny_specialOf_val (T := "NoneType") rfl s_NoneType ?_) | ((with_reducible show wpAny _ _ (nsSet _ _ _) _ _ _); refine m_nsSet (by assumption) 2 rfl rfl (by kernel_rfl!) (fun _ _ => by kernel_rfl!) ?_) | ((with_reducible show wpAny _ _ (Builtin.noteSubclassOfBuiltin _ _) _ _ _); refine wpAny_of_eq (p_note _) ?_) | ((with_reducible show wpAny _ _ (Builtin.Slots.read _ _ _) _ _ _); refine read_c (by assumption) ?_) | ((with_reducible show wpAny _ _ (updateCls _ _) _ _ _); (first  | refine m_updateCls (by assumption) 0 rfl rfl (by kernel_rfl!) (by kernel_rfl!) ?_ | refine m_updateCls (by assumption) 1 rfl rfl (by kernel_rfl!) (by kernel_rfl!) ?_ | refine m_updateCls (by assumption) 2 rfl rfl (by kernel_rfl!) (by kernel_rfl!) ?_ | refine m_updateCls (by assumption) 3 rfl rfl (by kernel_rfl!) (by kernel_rfl!) ?_ | refine m_updateCls (by assumption) 4 rfl rfl (by kernel_rfl!) (by kernel_rfl!) ?_); intro _ _) | ((with_reducible show wpAny _ _ (setSlotAt _ _ _) _ _ _); (first  | refine m_setSlot (by assumption) 0 rfl (by kernel_rfl!) (by rw [sizeLine_eq]; decide) ?_ | refine m_setSlot (by assumption) 1 rfl (by kernel_rfl!) (by rw [sizeLine_eq]; decide) ?_ | refine m_setSlot (by assumption) 2 rfl (by kernel_rfl!) (by rw [sizeLine_eq]; decide) ?_ | refine m_setSlot (by assumption) 3 rfl (by kernel_rfl!) (by rw [sizeLine_eq]; decide) ?_ | refine m_setSlot (by assumption) 4 rfl (by kernel_rfl!) (by rw [sizeLine_eq]; decide) ?_); intro _ _) | wp_delta) | skip)
  rw [p_filter]
  refine w_anyM1 (by kernel_rfl!) ?_
  iterate 7 (first | (first | (with_reducible first | refine wpAny_pure ?_ | refine wpAny_bind ?_ | refine wpAny_holding ?_ | refine wpAny_standAt ?_ | refine wpAny_point ?_ | refine wpAny_rule ?_ | refine wpAny_fresh' ?_ | refine w_if_false (by assumption) ?_ | refine w_forIn_nil ?_ | refine w_forIn_cons ?_) | ((with_reducible apply wpAny_load'); focus ((first | assumption | exact Mem.at (by assumption) 0 _ _ rfl | exact Mem.at (by assumption) 1 _ _ rfl | exact Mem.at (by assumption) 2 _ _ rfl | exact Mem.at (by assumption) 3 _ _ rfl | exact Mem.at (by assumption) 4 _ _ rfl | exact Mem.old (by assumption) _ _ (by assumption) rfl | exact mem_old0 (by assumption) (by assumption)); done)) | ((with_reducible apply wpAny_loadPart'); focus ((first | assumption | exact Mem.at (by assumption) 0 _ _ rfl | exact Mem.at (by assumption) 1 _ _ rfl | exact Mem.at (by assumption) 2 _ _ rfl | exact Mem.at (by assumption) 3 _ _ rfl | exact Mem.at (by assumption) 4 _ _ rfl | exact Mem.old (by assumption) _ _ (by assumption) rfl | exact mem_old0 (by assumption) (by assumption)); done)) | ((with_reducible apply wpAny_ite_false); focus ((first | with_reducible rfl | kernel_rfl!); done)) | ((with_reducible apply wpAny_ite_true); focus ((first | with_reducible rfl | kernel_rfl!); done)) | ((with_reducible show wpAny _ _ (Builtin.extendedBase _) _ _ _); refine wpAny_of_eq p_ext ?_) | ((with_reducible show wpAny _ _ (Builtin.Slots.bestBase _) _ _ _); refine wpAny_of_eq p_best ?_) | ((with_reducible show wpAny _ _ (Builtin.linearize _ _) _ _ _); refine wpAny_of_eq p_lin ?_) | ((with_reducible show wpAny _ _ (Bind.madeBy _) _ _ _); refine wpAny_of_eq p_made ?_) | ((with_reducible show wpAny _ _ (Builtin.mroHook? _) _ _ _); refine wpAny_of_eq p_hook ?_) | ((with_reducible show wpAny _ _ (Builtin.notOverATurnedClass _) _ _ _); refine wpAny_of_eq p_turned ?_) | ((with_reducible show wpAny _ _ (isType (Value.type _)) _ _ _); refine wpAny_of_eq p_isType ?_) | ((with_reducible show wpAny _ _ (typeLookup (Value.type _) _) _ _ _); refine wpAny_of_eq p_dictiter ?_) | ((with_reducible show wpAny _ _ (typeOf (Value.type _)) _ _ _); refine wpAny_of_eq p_typeOf ?_) | ((with_reducible show wpAny _ _ (isSubtype _ _) _ _ _); first | refine wpAny_of_eq p_sub1 ?_ | refine wpAny_of_eq p_sub2 ?_ | refine wpAny_of_eq p_sub3 ?_ | refine wpAny_of_eq p_sub4 ?_) | ((with_reducible show wpAny _ _ (forIn _ _ _) _ _ _); first | refine w_forIn_nil ?_ | refine w_forIn_cons ?_ | refine w_forInA ?_) | ((with_reducible show wpAny _ _ (newObj _ _ _) _ _ _); refine m_newObj (by assumption) (by kernel_rfl!) (by size_fits) ?_; intro _ _ _) | ((with_reducible show wpAny _ _ (alloc _) _ _ _); refine m_alloc (by assumption) (by kernel_rfl!) ?_; intro _ _ _) | ((with_reducible show wpAny _ _ (updatePart _ _ _) _ _ _); (first  | refine m_updatePart (by assumption) 0 rfl (by kernel_rfl!) ?_ | refine m_updatePart (by assumption) 1 rfl (by kernel_rfl!) ?_ | refine m_updatePart (by assumption) 2 rfl (by kernel_rfl!) ?_ | refine m_updatePart (by assumption) 3 rfl (by kernel_rfl!) ?_); intro _ _) | ((with_reducible show wpAny _ _ (update _ _) _ _ _); (first  | refine m_update (by assumption) 0 rfl (by kernel_rfl!) ?_ | refine m_update (by assumption) 1 rfl (by kernel_rfl!) ?_ | refine m_update (by assumption) 2 rfl (by kernel_rfl!) ?_ | refine m_update (by assumption) 3 rfl (by kernel_rfl!) ?_); intro _ _) | ((with_reducible show wpAny _ _ (nsGet _ _) _ _ _); refine m_nsGet (r := none) (by (first | assumption | exact Mem.at (by assumption) 0 _ _ rfl | exact Mem.at (by assumption) 1 _ _ rfl | exact Mem.at (by assumption) 2 _ _ rfl | exact Mem.at (by assumption) 3 _ _ rfl | exact Mem.at (by assumption) 4 _ _ rfl | exact Mem.old (by assumption) _ _ (by assumption) rfl | exact mem_old0 (by assumption) (by assumption))) (by kernel_rfl!) ?_) | ((with_reducible show wpAny _ _ (Builtin.Slots.givesWeak (Value.type _)) _ _ _); refine wpAny_of_eq p_weak ?_) | ((with_reducible show wpAny _ _ (Sem.tryCatch _ _) _ _ _); refine wpAny_tryCatch ?_) | ((with_reducible show wpAny _ _ (specialOf _ "__set_name__") _ _ _); first | refine wpAny_specialOf (show Shared.TypeIs _ _ "function" from ⟨_, by (first | assumption | exact Mem.at (by assumption) 0 _ _ rfl | exact Mem.at (by assumption) 1 _ _ rfl | exact Mem.at (by assumption) 2 _ _ rfl | exact Mem.at (by assumption) 3 _ _ rfl | exact Mem.at (by assumption) 4 _ _ rfl | exact Mem.old (by assumption) _ _ (by assumption) rfl | exact mem_old0 (by assumption) (by assumption)), by first | rfl | assumption⟩) s_function ?_ | refine wpAny_specialOf (show Shared.TypeIs _ _ "list" from ⟨_, by (first | assumption | exact Mem.at (by assumption) 0 _ _ rfl | exact Mem.at (by assumption) 1 _ _ rfl | exact Mem.at (by assumption) 2 _ _ rfl | exact Mem.at (by assumption) 3 _ _ rfl | exact Mem.at (by assumption) 4 _ _ rfl | exact Mem.old (by assumption) _ _ (by assumption) rfl | exact mem_old0 (by assumption) (by assumption)), by first | rfl | assumption⟩) s_list ?_ | refine wpAny_specialOf (show Shared.TypeIs _ _ "tuple" from ⟨_, by (first | assumption | exact Mem.at (by assumption) 0 _ _ rfl | exact Mem.at (by assumption) 1 _ _ rfl | exact Mem.at (by assumption) 2 _ _ rfl | exact Mem.at (by assumption) 3 _ _ rfl | exact Mem.at (by assumption) 4 _ _ rfl | exact Mem.old (by assumption) _ _ (by assumption) rfl | exact mem_old0 (by assumption) (by assumption)), by first | rfl | assumption⟩) s_tuple ?_ | refine wpAny_specialOf (show Shared.TypeIs _ _ "member_descriptor" from ⟨_, by (first | assumption | exact Mem.at (by assumption) 0 _ _ rfl | exact Mem.at (by assumption) 1 _ _ rfl | exact Mem.at (by assumption) 2 _ _ rfl | exact Mem.at (by assumption) 3 _ _ rfl | exact Mem.at (by assumption) 4 _ _ rfl | exact Mem.old (by assumption) _ _ (by assumption) rfl | exact mem_old0 (by assumption) (by assumption)), by first | rfl | assumption⟩) s_member_descriptor ?_ | refine wpAny_specialOf_val (T := "str") rfl s_str ?_ | refine wpAny_specialOf_val (T := "int") rfl s_int ?_ | refine wpAny_specialOf_val (T := "NoneType") rfl s_NoneType ?_) | ((with_reducible show wpAny _ _ (nsSet _ _ _) _ _ _); refine m_nsSet (by assumption) 2 rfl rfl (by kernel_rfl!) (fun _ _ => by kernel_rfl!) ?_) | ((with_reducible show wpAny _ _ (Builtin.noteSubclassOfBuiltin _ _) _ _ _); refine wpAny_of_eq (p_note _) ?_) | ((with_reducible show wpAny _ _ (Builtin.Slots.read _ _ _) _ _ _); refine read_c (by assumption) ?_) | ((with_reducible show wpAny _ _ (updateCls _ _) _ _ _); (first  | refine m_updateCls (by assumption) 0 rfl rfl (by kernel_rfl!) (by kernel_rfl!) ?_ | refine m_updateCls (by assumption) 1 rfl rfl (by kernel_rfl!) (by kernel_rfl!) ?_ | refine m_updateCls (by assumption) 2 rfl rfl (by kernel_rfl!) (by kernel_rfl!) ?_ | refine m_updateCls (by assumption) 3 rfl rfl (by kernel_rfl!) (by kernel_rfl!) ?_ | refine m_updateCls (by assumption) 4 rfl rfl (by kernel_rfl!) (by kernel_rfl!) ?_); intro _ _) | ((with_reducible show wpAny _ _ (setSlotAt _ _ _) _ _ _); (first  | refine m_setSlot (by assumption) 0 rfl (by kernel_rfl!) (by rw [sizeLine_eq]; decide) ?_ | refine m_setSlot (by assumption) 1 rfl (by kernel_rfl!) (by rw [sizeLine_eq]; decide) ?_ | refine m_setSlot (by assumption) 2 rfl (by kernel_rfl!) (by rw [sizeLine_eq]; decide) ?_ | refine m_setSlot (by assumption) 3 rfl (by kernel_rfl!) (by rw [sizeLine_eq]; decide) ?_ | refine m_setSlot (by assumption) 4 rfl (by kernel_rfl!) (by rw [sizeLine_eq]; decide) ?_); intro _ _) | wp_delta) | skip)
  rename_i aN _ _ aK _ _ _ _ _ _ _ _ _ _ _ _ hx D
  have D2 : Mem h1 hx [] [(aK, clsP aK aN bT t0 yq), (aN, nsP (entriesQ q0 q2 q3 q4 q5 q6 q7 q8 q9 q10 q11 z0 z2 z3 z4 z5 z6 z7 z8 z9 z10 z11 (.str sM zM) (.int iF zF) aSl aIn aLt aGt aEq aLe aGe aSt))] := mem_is D (by kernel_rfl!)
  clear D
  refine refresh_c (Mem.at D2 0 _ _ rfl) (by kernel_rfl!) rfl rfl rfl (Mem.at D2 1 _ _ rfl) (by kernel_rfl!) ?_
  refine wpAny_bind ?_
  refine install_c D2 0 1 rfl rfl (by decide) rfl rfl (by rw [entriesQ_size, sizeLine_eq]; decide) (by kernel_rfl!) (by kernel_rfl!) (fun _ _ _ => by kernel_rfl!) (by kernel_rfl!) (by kernel_rfl!) ?_
  intro aD td ho to hy ty D3
  have D4 : Mem h1 hy [] [(aD, desO aK td), (aK, clsQ aK aN bT t0 yq), (aN, nsR (entriesQ q0 q2 q3 q4 q5 q6 q7 q8 q9 q10 q11 z0 z2 z3 z4 z5 z6 z7 z8 z9 z10 z11 (.str sM zM) (.int iF zF) aSl aIn aLt aGt aEq aLe aGe aSt ++ #[de ho "obj" to (.ref aD)]) 2)] := mem_is D3 (by kernel_rfl!)
  clear D3 D2
  repeat (first | (with_reducible first | refine wpAny_pure ?_ | refine wpAny_bind ?_ | refine wpAny_holding ?_ | refine wpAny_standAt ?_ | refine wpAny_point ?_ | refine wpAny_rule ?_ | refine wpAny_fresh' ?_ | refine w_if_false (by assumption) ?_ | refine w_forIn_nil ?_ | refine w_forIn_cons ?_) | ((with_reducible apply wpAny_load'); focus ((first | assumption | exact Mem.at (by assumption) 0 _ _ rfl | exact Mem.at (by assumption) 1 _ _ rfl | exact Mem.at (by assumption) 2 _ _ rfl | exact Mem.at (by assumption) 3 _ _ rfl | exact Mem.at (by assumption) 4 _ _ rfl | exact Mem.old (by assumption) _ _ (by assumption) rfl | exact mem_old0 (by assumption) (by assumption)); done)) | ((with_reducible apply wpAny_loadPart'); focus ((first | assumption | exact Mem.at (by assumption) 0 _ _ rfl | exact Mem.at (by assumption) 1 _ _ rfl | exact Mem.at (by assumption) 2 _ _ rfl | exact Mem.at (by assumption) 3 _ _ rfl | exact Mem.at (by assumption) 4 _ _ rfl | exact Mem.old (by assumption) _ _ (by assumption) rfl | exact mem_old0 (by assumption) (by assumption)); done)) | ((with_reducible apply wpAny_ite_false); focus ((first | with_reducible rfl | kernel_rfl!); done)) | ((with_reducible apply wpAny_ite_true); focus ((first | with_reducible rfl | kernel_rfl!); done)) | ((with_reducible show wpAny _ _ (Builtin.extendedBase _) _ _ _); refine wpAny_of_eq p_ext ?_) | ((with_reducible show wpAny _ _ (Builtin.Slots.bestBase _) _ _ _); refine wpAny_of_eq p_best ?_) | ((with_reducible show wpAny _ _ (Builtin.linearize _ _) _ _ _); refine wpAny_of_eq p_lin ?_) | ((with_reducible show wpAny _ _ (Bind.madeBy _) _ _ _); refine wpAny_of_eq p_made ?_) | ((with_reducible show wpAny _ _ (Builtin.mroHook? _) _ _ _); refine wpAny_of_eq p_hook ?_) | ((with_reducible show wpAny _ _ (Builtin.notOverATurnedClass _) _ _ _); refine wpAny_of_eq p_turned ?_) | ((with_reducible show wpAny _ _ (isType (Value.type _)) _ _ _); refine wpAny_of_eq p_isType ?_) | ((with_reducible show wpAny _ _ (typeLookup (Value.type _) _) _ _ _); refine wpAny_of_eq p_dictiter ?_) | ((with_reducible show wpAny _ _ (typeOf (Value.type _)) _ _ _); refine wpAny_of_eq p_typeOf ?_) | ((with_reducible show wpAny _ _ (isSubtype _ _) _ _ _); first | refine wpAny_of_eq p_sub1 ?_ | refine wpAny_of_eq p_sub2 ?_ | refine wpAny_of_eq p_sub3 ?_ | refine wpAny_of_eq p_sub4 ?_) | ((with_reducible show wpAny _ _ (forIn _ _ _) _ _ _); first | refine w_forIn_nil ?_ | refine w_forIn_cons ?_ | refine w_forInA ?_) | ((with_reducible show wpAny _ _ (newObj _ _ _) _ _ _); refine m_newObj (by assumption) (by kernel_rfl!) (by size_fits) ?_; intro _ _ _) | ((with_reducible show wpAny _ _ (alloc _) _ _ _); refine m_alloc (by assumption) (by kernel_rfl!) ?_; intro _ _ _) | ((with_reducible show wpAny _ _ (updatePart _ _ _) _ _ _); (first  | refine m_updatePart (by assumption) 0 rfl (by kernel_rfl!) ?_ | refine m_updatePart (by assumption) 1 rfl (by kernel_rfl!) ?_ | refine m_updatePart (by assumption) 2 rfl (by kernel_rfl!) ?_ | refine m_updatePart (by assumption) 3 rfl (by kernel_rfl!) ?_); intro _ _) | ((with_reducible show wpAny _ _ (update _ _) _ _ _); (first  | refine m_update (by assumption) 0 rfl (by kernel_rfl!) ?_ | refine m_update (by assumption) 1 rfl (by kernel_rfl!) ?_ | refine m_update (by assumption) 2 rfl (by kernel_rfl!) ?_ | refine m_update (by assumption) 3 rfl (by kernel_rfl!) ?_); intro _ _) | ((with_reducible show wpAny _ _ (nsGet _ _) _ _ _); refine m_nsGet (r := none) (by (first | assumption | exact Mem.at (by assumption) 0 _ _ rfl | exact Mem.at (by assumption) 1 _ _ rfl | exact Mem.at (by assumption) 2 _ _ rfl | exact Mem.at (by assumption) 3 _ _ rfl | exact Mem.at (by assumption) 4 _ _ rfl | exact Mem.old (by assumption) _ _ (by assumption) rfl | exact mem_old0 (by assumption) (by assumption))) (by kernel_rfl!) ?_) | ((with_reducible show wpAny _ _ (Builtin.Slots.givesWeak (Value.type _)) _ _ _); refine wpAny_of_eq p_weak ?_) | ((with_reducible show wpAny _ _ (Sem.tryCatch _ _) _ _ _); refine wpAny_tryCatch ?_) | ((with_reducible show wpAny _ _ (specialOf _ "__set_name__") _ _ _); first | refine wpAny_specialOf (show Shared.TypeIs _ _ "function" from ⟨_, by (first | assumption | exact Mem.at (by assumption) 0 _ _ rfl | exact Mem.at (by assumption) 1 _ _ rfl | exact Mem.at (by assumption) 2 _ _ rfl | exact Mem.at (by assumption) 3 _ _ rfl | exact Mem.at (by assumption) 4 _ _ rfl | exact Mem.old (by assumption) _ _ (by assumption) rfl | exact mem_old0 (by assumption) (by assumption)), by first | rfl | assumption⟩) s_function ?_ | refine wpAny_specialOf (show Shared.TypeIs _ _ "list" from ⟨_, by (first | assumption | exact Mem.at (by assumption) 0 _ _ rfl | exact Mem.at (by assumption) 1 _ _ rfl | exact Mem.at (by assumption) 2 _ _ rfl | exact Mem.at (by assumption) 3 _ _ rfl | exact Mem.at (by assumption) 4 _ _ rfl | exact Mem.old (by assumption) _ _ (by assumption) rfl | exact mem_old0 (by assumption) (by assumption)), by first | rfl | assumption⟩) s_list ?_ | refine wpAny_specialOf (show Shared.TypeIs _ _ "tuple" from ⟨_, by (first | assumption | exact Mem.at (by assumption) 0 _ _ rfl | exact Mem.at (by assumption) 1 _ _ rfl | exact Mem.at (by assumption) 2 _ _ rfl | exact Mem.at (by assumption) 3 _ _ rfl | exact Mem.at (by assumption) 4 _ _ rfl | exact Mem.old (by assumption) _ _ (by assumption) rfl | exact mem_old0 (by assumption) (by assumption)), by first | rfl | assumption⟩) s_tuple ?_ | refine wpAny_specialOf (show Shared.TypeIs _ _ "member_descriptor" from ⟨_, by (first | assumption | exact Mem.at (by assumption) 0 _ _ rfl | exact Mem.at (by assumption) 1 _ _ rfl | exact Mem.at (by assumption) 2 _ _ rfl | exact Mem.at (by assumption) 3 _ _ rfl | exact Mem.at (by assumption) 4 _ _ rfl | exact Mem.old (by assumption) _ _ (by assumption) rfl | exact mem_old0 (by assumption) (by assumption)), by first | rfl | assumption⟩) s_member_descriptor ?_ | refine wpAny_specialOf_val (T := "str") rfl s_str ?_ | refine wpAny_specialOf_val (T := "int") rfl s_int ?_ | refine wpAny_specialOf_val (T := "NoneType") rfl s_NoneType ?_) | ((with_reducible show wpAny _ _ (nsSet _ _ _) _ _ _); refine m_nsSet (by assumption) 2 rfl rfl (by kernel_rfl!) (fun _ _ => by kernel_rfl!) ?_) | ((with_reducible show wpAny _ _ (Builtin.noteSubclassOfBuiltin _ _) _ _ _); refine wpAny_of_eq (p_note _) ?_) | ((with_reducible show wpAny _ _ (Builtin.Slots.read _ _ _) _ _ _); refine read_c (by assumption) ?_) | ((with_reducible show wpAny _ _ (updateCls _ _) _ _ _); (first  | refine m_updateCls (by assumption) 0 rfl rfl (by kernel_rfl!) (by kernel_rfl!) ?_ | refine m_updateCls (by assumption) 1 rfl rfl (by kernel_rfl!) (by kernel_rfl!) ?_ | refine m_updateCls (by assumption) 2 rfl rfl (by kernel_rfl!) (by kernel_rfl!) ?_ | refine m_updateCls (by assumption) 3 rfl rfl (by kernel_rfl!) (by kernel_rfl!) ?_ | refine m_updateCls (by assumption) 4 rfl rfl (by kernel_rfl!) (by kernel_rfl!) ?_); intro _ _) | ((with_reducible show wpAny _ _ (setSlotAt _ _ _) _ _ _); (first  | refine m_setSlot (by assumption) 0 rfl (by kernel_rfl!) (by rw [sizeLine_eq]; decide) ?_ | refine m_setSlot (by assumption) 1 rfl (by kernel_rfl!) (by rw [sizeLine_eq]; decide) ?_ | refine m_setSlot (by assumption) 2 rfl (by kernel_rfl!) (by rw [sizeLine_eq]; decide) ?_ | refine m_setSlot (by assumption) 3 rfl (by kernel_rfl!) (by rw [sizeLine_eq]; decide) ?_ | refine m_setSlot (by assumption) 4 rfl (by kernel_rfl!) (by rw [sizeLine_eq]; decide) ?_); intro _ _) | wp_delta)
  intro hd td' hz tz D5
  have D6 : Mem h1 hz [] [(aD, desO aK td), (aK, clsR aK aN bT t0 yq), (aN, nsR (entriesQ q0 q2 q3 q4 q5 q6 q7 q8 q9 q10 q11 z0 z2 z3 z4 z5 z6 z7 z8 z9 z10 z11 (.str sM zM) (.int iF zF) aSl aIn aLt aGt aEq aLe aGe aSt ++ #[de ho "obj" to (.ref aD), de hd "__doc__" td' .none]) 3)] := mem_is D5 (by kernel_rfl!)
  clear D5
  iterate 29 (first | (first | (with_reducible first | refine wpAny_pure ?_ | refine wpAny_bind ?_ | refine wpAny_holding ?_ | refine wpAny_standAt ?_ | refine wpAny_point ?_ | refine wpAny_rule ?_ | refine wpAny_fresh' ?_ | refine w_if_false (by assumption) ?_ | refine w_forIn_nil ?_ | refine w_forIn_cons ?_) | ((with_reducible apply wpAny_load'); focus ((first | assumption | exact Mem.at (by assumption) 0 _ _ rfl | exact Mem.at (by assumption) 1 _ _ rfl | exact Mem.at (by assumption) 2 _ _ rfl | exact Mem.at (by assumption) 3 _ _ rfl | exact Mem.at (by assumption) 4 _ _ rfl | exact Mem.old (by assumption) _ _ (by assumption) rfl | exact mem_old0 (by assumption) (by assumption)); done)) | ((with_reducible apply wpAny_loadPart'); focus ((first | assumption | exact Mem.at (by assumption) 0 _ _ rfl | exact Mem.at (by assumption) 1 _ _ rfl | exact Mem.at (by assumption) 2 _ _ rfl | exact Mem.at (by assumption) 3 _ _ rfl | exact Mem.at (by assumption) 4 _ _ rfl | exact Mem.old (by assumption) _ _ (by assumption) rfl | exact mem_old0 (by assumption) (by assumption)); done)) | ((with_reducible apply wpAny_ite_false); focus ((first | with_reducible rfl | kernel_rfl!); done)) | ((with_reducible apply wpAny_ite_true); focus ((first | with_reducible rfl | kernel_rfl!); done)) | ((with_reducible show wpAny _ _ (Builtin.extendedBase _) _ _ _); refine wpAny_of_eq p_ext ?_) | ((with_reducible show wpAny _ _ (Builtin.Slots.bestBase _) _ _ _); refine wpAny_of_eq p_best ?_) | ((with_reducible show wpAny _ _ (Builtin.linearize _ _) _ _ _); refine wpAny_of_eq p_lin ?_) | ((with_reducible show wpAny _ _ (Bind.madeBy _) _ _ _); refine wpAny_of_eq p_made ?_) | ((with_reducible show wpAny _ _ (Builtin.mroHook? _) _ _ _); refine wpAny_of_eq p_hook ?_) | ((with_reducible show wpAny _ _ (Builtin.notOverATurnedClass _) _ _ _); refine wpAny_of_eq p_turned ?_) | ((with_reducible show wpAny _ _ (isType (Value.type _)) _ _ _); refine wpAny_of_eq p_isType ?_) | ((with_reducible show wpAny _ _ (typeLookup (Value.type _) _) _ _ _); refine wpAny_of_eq p_dictiter ?_) | ((with_reducible show wpAny _ _ (typeOf (Value.type _)) _ _ _); refine wpAny_of_eq p_typeOf ?_) | ((with_reducible show wpAny _ _ (isSubtype _ _) _ _ _); first | refine wpAny_of_eq p_sub1 ?_ | refine wpAny_of_eq p_sub2 ?_ | refine wpAny_of_eq p_sub3 ?_ | refine wpAny_of_eq p_sub4 ?_) | ((with_reducible show wpAny _ _ (forIn _ _ _) _ _ _); first | refine w_forIn_nil ?_ | refine w_forIn_cons ?_ | refine w_forInA ?_) | ((with_reducible show wpAny _ _ (newObj _ _ _) _ _ _); refine m_newObj (by assumption) (by kernel_rfl!) (by size_fits) ?_; intro _ _ _) | ((with_reducible show wpAny _ _ (alloc _) _ _ _); refine m_alloc (by assumption) (by kernel_rfl!) ?_; intro _ _ _) | ((with_reducible show wpAny _ _ (updatePart _ _ _) _ _ _); (first  | refine m_updatePart (by assumption) 0 rfl (by kernel_rfl!) ?_ | refine m_updatePart (by assumption) 1 rfl (by kernel_rfl!) ?_ | refine m_updatePart (by assumption) 2 rfl (by kernel_rfl!) ?_ | refine m_updatePart (by assumption) 3 rfl (by kernel_rfl!) ?_); intro _ _) | ((with_reducible show wpAny _ _ (update _ _) _ _ _); (first  | refine m_update (by assumption) 0 rfl (by kernel_rfl!) ?_ | refine m_update (by assumption) 1 rfl (by kernel_rfl!) ?_ | refine m_update (by assumption) 2 rfl (by kernel_rfl!) ?_ | refine m_update (by assumption) 3 rfl (by kernel_rfl!) ?_); intro _ _) | ((with_reducible show wpAny _ _ (nsGet _ _) _ _ _); refine m_nsGet (r := none) (by (first | assumption | exact Mem.at (by assumption) 0 _ _ rfl | exact Mem.at (by assumption) 1 _ _ rfl | exact Mem.at (by assumption) 2 _ _ rfl | exact Mem.at (by assumption) 3 _ _ rfl | exact Mem.at (by assumption) 4 _ _ rfl | exact Mem.old (by assumption) _ _ (by assumption) rfl | exact mem_old0 (by assumption) (by assumption))) (by kernel_rfl!) ?_) | ((with_reducible show wpAny _ _ (Builtin.Slots.givesWeak (Value.type _)) _ _ _); refine wpAny_of_eq p_weak ?_) | ((with_reducible show wpAny _ _ (Sem.tryCatch _ _) _ _ _); refine wpAny_tryCatch ?_) | ((with_reducible show wpAny _ _ (specialOf _ "__set_name__") _ _ _); first | refine wpAny_specialOf (show Shared.TypeIs _ _ "function" from ⟨_, by (first | assumption | exact Mem.at (by assumption) 0 _ _ rfl | exact Mem.at (by assumption) 1 _ _ rfl | exact Mem.at (by assumption) 2 _ _ rfl | exact Mem.at (by assumption) 3 _ _ rfl | exact Mem.at (by assumption) 4 _ _ rfl | exact Mem.old (by assumption) _ _ (by assumption) rfl | exact mem_old0 (by assumption) (by assumption)), by first | rfl | assumption⟩) s_function ?_ | refine wpAny_specialOf (show Shared.TypeIs _ _ "list" from ⟨_, by (first | assumption | exact Mem.at (by assumption) 0 _ _ rfl | exact Mem.at (by assumption) 1 _ _ rfl | exact Mem.at (by assumption) 2 _ _ rfl | exact Mem.at (by assumption) 3 _ _ rfl | exact Mem.at (by assumption) 4 _ _ rfl | exact Mem.old (by assumption) _ _ (by assumption) rfl | exact mem_old0 (by assumption) (by assumption)), by first | rfl | assumption⟩) s_list ?_ | refine wpAny_specialOf (show Shared.TypeIs _ _ "tuple" from ⟨_, by (first | assumption | exact Mem.at (by assumption) 0 _ _ rfl | exact Mem.at (by assumption) 1 _ _ rfl | exact Mem.at (by assumption) 2 _ _ rfl | exact Mem.at (by assumption) 3 _ _ rfl | exact Mem.at (by assumption) 4 _ _ rfl | exact Mem.old (by assumption) _ _ (by assumption) rfl | exact mem_old0 (by assumption) (by assumption)), by first | rfl | assumption⟩) s_tuple ?_ | refine wpAny_specialOf (show Shared.TypeIs _ _ "member_descriptor" from ⟨_, by (first | assumption | exact Mem.at (by assumption) 0 _ _ rfl | exact Mem.at (by assumption) 1 _ _ rfl | exact Mem.at (by assumption) 2 _ _ rfl | exact Mem.at (by assumption) 3 _ _ rfl | exact Mem.at (by assumption) 4 _ _ rfl | exact Mem.old (by assumption) _ _ (by assumption) rfl | exact mem_old0 (by assumption) (by assumption)), by first | rfl | assumption⟩) s_member_descriptor ?_ | refine wpAny_specialOf_val (T := "str") rfl s_str ?_ | refine wpAny_specialOf_val (T := "int") rfl s_int ?_ | refine wpAny_specialOf_val (T := "NoneType") rfl s_NoneType ?_) | ((with_reducible show wpAny _ _ (nsSet _ _ _) _ _ _); refine m_nsSet (by assumption) 2 rfl rfl (by kernel_rfl!) (fun _ _ => by kernel_rfl!) ?_) | ((with_reducible show wpAny _ _ (Builtin.noteSubclassOfBuiltin _ _) _ _ _); refine wpAny_of_eq (p_note _) ?_) | ((with_reducible show wpAny _ _ (Builtin.Slots.read _ _ _) _ _ _); refine read_c (by assumption) ?_) | ((with_reducible show wpAny _ _ (updateCls _ _) _ _ _); (first  | refine m_updateCls (by assumption) 0 rfl rfl (by kernel_rfl!) (by kernel_rfl!) ?_ | refine m_updateCls (by assumption) 1 rfl rfl (by kernel_rfl!) (by kernel_rfl!) ?_ | refine m_updateCls (by assumption) 2 rfl rfl (by kernel_rfl!) (by kernel_rfl!) ?_ | refine m_updateCls (by assumption) 3 rfl rfl (by kernel_rfl!) (by kernel_rfl!) ?_ | refine m_updateCls (by assumption) 4 rfl rfl (by kernel_rfl!) (by kernel_rfl!) ?_); intro _ _) | ((with_reducible show wpAny _ _ (setSlotAt _ _ _) _ _ _); (first  | refine m_setSlot (by assumption) 0 rfl (by kernel_rfl!) (by rw [sizeLine_eq]; decide) ?_ | refine m_setSlot (by assumption) 1 rfl (by kernel_rfl!) (by rw [sizeLine_eq]; decide) ?_ | refine m_setSlot (by assumption) 2 rfl (by kernel_rfl!) (by rw [sizeLine_eq]; decide) ?_ | refine m_setSlot (by assumption) 3 rfl (by kernel_rfl!) (by rw [sizeLine_eq]; decide) ?_ | refine m_setSlot (by assumption) 4 rfl (by kernel_rfl!) (by rw [sizeLine_eq]; decide) ?_); intro _ _) | wp_delta) | skip)
  refine wpAny_bind ?_
  refine loop1 (entriesL q0 q2 q3 q4 q5 q6 q7 q8 q9 q10 q11 ho hd z0 z2 z3 z4 z5 z6 z7 z8 z9 z10 z11 to td' (.str sM zM) (.int iF zF) aSl aIn aLt aGt aEq aLe aGe aSt aD) (by kernel_rfl!) ?_ ?_
  · intro x hx b
    simp only [entriesL, List.mem_cons, List.not_mem_nil, or_false] at hx
    rcases hx with rfl | rfl | rfl | rfl | rfl | rfl | rfl | rfl | rfl | rfl | rfl | rfl | rfl <;> rfl
  iterate 8 (first | (first | (with_reducible first | refine wpAny_pure ?_ | refine wpAny_bind ?_ | refine wpAny_holding ?_ | refine wpAny_standAt ?_ | refine wpAny_point ?_ | refine wpAny_rule ?_ | refine wpAny_fresh' ?_ | refine w_if_false (by assumption) ?_ | refine w_forIn_nil ?_ | refine w_forIn_cons ?_) | ((with_reducible apply wpAny_load'); focus ((first | assumption | exact Mem.at (by assumption) 0 _ _ rfl | exact Mem.at (by assumption) 1 _ _ rfl | exact Mem.at (by assumption) 2 _ _ rfl | exact Mem.at (by assumption) 3 _ _ rfl | exact Mem.at (by assumption) 4 _ _ rfl | exact Mem.old (by assumption) _ _ (by assumption) rfl | exact mem_old0 (by assumption) (by assumption)); done)) | ((with_reducible apply wpAny_loadPart'); focus ((first | assumption | exact Mem.at (by assumption) 0 _ _ rfl | exact Mem.at (by assumption) 1 _ _ rfl | exact Mem.at (by assumption) 2 _ _ rfl | exact Mem.at (by assumption) 3 _ _ rfl | exact Mem.at (by assumption) 4 _ _ rfl | exact Mem.old (by assumption) _ _ (by assumption) rfl | exact mem_old0 (by assumption) (by assumption)); done)) | ((with_reducible apply wpAny_ite_false); focus ((first | with_reducible rfl | kernel_rfl!); done)) | ((with_reducible apply wpAny_ite_true); focus ((first | with_reducible rfl | kernel_rfl!); done)) | ((with_reducible show wpAny _ _ (Builtin.extendedBase _) _ _ _); refine wpAny_of_eq p_ext ?_) | ((with_reducible show wpAny _ _ (Builtin.Slots.bestBase _) _ _ _); refine wpAny_of_eq p_best ?_) | ((with_reducible show wpAny _ _ (Builtin.linearize _ _) _ _ _); refine wpAny_of_eq p_lin ?_) | ((with_reducible show wpAny _ _ (Bind.madeBy _) _ _ _); refine wpAny_of_eq p_made ?_) | ((with_reducible show wpAny _ _ (Builtin.mroHook? _) _ _ _); refine wpAny_of_eq p_hook ?_) | ((with_reducible show wpAny _ _ (Builtin.notOverATurnedClass _) _ _ _); refine wpAny_of_eq p_turned ?_) | ((with_reducible show wpAny _ _ (isType (Value.type _)) _ _ _); refine wpAny_of_eq p_isType ?_) | ((with_reducible show wpAny _ _ (typeLookup (Value.type _) _) _ _ _); refine wpAny_of_eq p_dictiter ?_) | ((with_reducible show wpAny _ _ (typeOf (Value.type _)) _ _ _); refine wpAny_of_eq p_typeOf ?_) | ((with_reducible show wpAny _ _ (isSubtype _ _) _ _ _); first | refine wpAny_of_eq p_sub1 ?_ | refine wpAny_of_eq p_sub2 ?_ | refine wpAny_of_eq p_sub3 ?_ | refine wpAny_of_eq p_sub4 ?_) | ((with_reducible show wpAny _ _ (forIn _ _ _) _ _ _); first | refine w_forIn_nil ?_ | refine w_forIn_cons ?_ | refine w_forInA ?_) | ((with_reducible show wpAny _ _ (newObj _ _ _) _ _ _); refine m_newObj (by assumption) (by kernel_rfl!) (by size_fits) ?_; intro _ _ _) | ((with_reducible show wpAny _ _ (alloc _) _ _ _); refine m_alloc (by assumption) (by kernel_rfl!) ?_; intro _ _ _) | ((with_reducible show wpAny _ _ (updatePart _ _ _) _ _ _); (first  | refine m_updatePart (by assumption) 0 rfl (by kernel_rfl!) ?_ | refine m_updatePart (by assumption) 1 rfl (by kernel_rfl!) ?_ | refine m_updatePart (by assumption) 2 rfl (by kernel_rfl!) ?_ | refine m_updatePart (by assumption) 3 rfl (by kernel_rfl!) ?_); intro _ _) | ((with_reducible show wpAny _ _ (update _ _) _ _ _); (first  | refine m_update (by assumption) 0 rfl (by kernel_rfl!) ?_ | refine m_update (by assumption) 1 rfl (by kernel_rfl!) ?_ | refine m_update (by assumption) 2 rfl (by kernel_rfl!) ?_ | refine m_update (by assumption) 3 rfl (by kernel_rfl!) ?_); intro _ _) | ((with_reducible show wpAny _ _ (nsGet _ _) _ _ _); refine m_nsGet (r := none) (by (first | assumption | exact Mem.at (by assumption) 0 _ _ rfl | exact Mem.at (by assumption) 1 _ _ rfl | exact Mem.at (by assumption) 2 _ _ rfl | exact Mem.at (by assumption) 3 _ _ rfl | exact Mem.at (by assumption) 4 _ _ rfl | exact Mem.old (by assumption) _ _ (by assumption) rfl | exact mem_old0 (by assumption) (by assumption))) (by kernel_rfl!) ?_) | ((with_reducible show wpAny _ _ (Builtin.Slots.givesWeak (Value.type _)) _ _ _); refine wpAny_of_eq p_weak ?_) | ((with_reducible show wpAny _ _ (Sem.tryCatch _ _) _ _ _); refine wpAny_tryCatch ?_) | ((with_reducible show wpAny _ _ (specialOf _ "__set_name__") _ _ _); first | refine wpAny_specialOf (show Shared.TypeIs _ _ "function" from ⟨_, by (first | assumption | exact Mem.at (by assumption) 0 _ _ rfl | exact Mem.at (by assumption) 1 _ _ rfl | exact Mem.at (by assumption) 2 _ _ rfl | exact Mem.at (by assumption) 3 _ _ rfl | exact Mem.at (by assumption) 4 _ _ rfl | exact Mem.old (by assumption) _ _ (by assumption) rfl | exact mem_old0 (by assumption) (by assumption)), by first | rfl | assumption⟩) s_function ?_ | refine wpAny_specialOf (show Shared.TypeIs _ _ "list" from ⟨_, by (first | assumption | exact Mem.at (by assumption) 0 _ _ rfl | exact Mem.at (by assumption) 1 _ _ rfl | exact Mem.at (by assumption) 2 _ _ rfl | exact Mem.at (by assumption) 3 _ _ rfl | exact Mem.at (by assumption) 4 _ _ rfl | exact Mem.old (by assumption) _ _ (by assumption) rfl | exact mem_old0 (by assumption) (by assumption)), by first | rfl | assumption⟩) s_list ?_ | refine wpAny_specialOf (show Shared.TypeIs _ _ "tuple" from ⟨_, by (first | assumption | exact Mem.at (by assumption) 0 _ _ rfl | exact Mem.at (by assumption) 1 _ _ rfl | exact Mem.at (by assumption) 2 _ _ rfl | exact Mem.at (by assumption) 3 _ _ rfl | exact Mem.at (by assumption) 4 _ _ rfl | exact Mem.old (by assumption) _ _ (by assumption) rfl | exact mem_old0 (by assumption) (by assumption)), by first | rfl | assumption⟩) s_tuple ?_ | refine wpAny_specialOf (show Shared.TypeIs _ _ "member_descriptor" from ⟨_, by (first | assumption | exact Mem.at (by assumption) 0 _ _ rfl | exact Mem.at (by assumption) 1 _ _ rfl | exact Mem.at (by assumption) 2 _ _ rfl | exact Mem.at (by assumption) 3 _ _ rfl | exact Mem.at (by assumption) 4 _ _ rfl | exact Mem.old (by assumption) _ _ (by assumption) rfl | exact mem_old0 (by assumption) (by assumption)), by first | rfl | assumption⟩) s_member_descriptor ?_ | refine wpAny_specialOf_val (T := "str") rfl s_str ?_ | refine wpAny_specialOf_val (T := "int") rfl s_int ?_ | refine wpAny_specialOf_val (T := "NoneType") rfl s_NoneType ?_) | ((with_reducible show wpAny _ _ (nsSet _ _ _) _ _ _); refine m_nsSet (by assumption) 2 rfl rfl (by kernel_rfl!) (fun _ _ => by kernel_rfl!) ?_) | ((with_reducible show wpAny _ _ (Builtin.noteSubclassOfBuiltin _ _) _ _ _); refine wpAny_of_eq (p_note _) ?_) | ((with_reducible show wpAny _ _ (Builtin.Slots.read _ _ _) _ _ _); refine read_c (by assumption) ?_) | ((with_reducible show wpAny _ _ (updateCls _ _) _ _ _); (first  | refine m_updateCls (by assumption) 0 rfl rfl (by kernel_rfl!) (by kernel_rfl!) ?_ | refine m_updateCls (by assumption) 1 rfl rfl (by kernel_rfl!) (by kernel_rfl!) ?_ | refine m_updateCls (by assumption) 2 rfl rfl (by kernel_rfl!) (by kernel_rfl!) ?_ | refine m_updateCls (by assumption) 3 rfl rfl (by kernel_rfl!) (by kernel_rfl!) ?_ | refine m_updateCls (by assumption) 4 rfl rfl (by kernel_rfl!) (by kernel_rfl!) ?_); intro _ _) | ((with_reducible show wpAny _ _ (setSlotAt _ _ _) _ _ _); (first  | refine m_setSlot (by assumption) 0 rfl (by kernel_rfl!) (by rw [sizeLine_eq]; decide) ?_ | refine m_setSlot (by assumption) 1 rfl (by kernel_rfl!) (by rw [sizeLine_eq]; decide) ?_ | refine m_setSlot (by assumption) 2 rfl (by kernel_rfl!) (by rw [sizeLine_eq]; decide) ?_ | refine m_setSlot (by assumption) 3 rfl (by kernel_rfl!) (by rw [sizeLine_eq]; decide) ?_ | refine m_setSlot (by assumption) 4 rfl (by kernel_rfl!) (by rw [sizeLine_eq]; decide) ?_); intro _ _) | wp_delta) | skip)
  refine loop2 (entriesL q0 q2 q3 q4 q5 q6 q7 q8 q9 q10 q11 ho hd z0 z2 z3 z4 z5 z6 z7 z8 z9 z10 z11 to td' (.str sM zM) (.int iF zF) aSl aIn aLt aGt aEq aLe aGe aSt aD) (by kernel_rfl!) ?_ ?_
  · intro x hx Q' hQ'
    simp only [entriesL, List.mem_cons, List.not_mem_nil, or_false] at hx
    rcases hx with rfl | rfl | rfl | rfl | rfl | rfl | rfl | rfl | rfl | rfl | rfl | rfl | rfl <;> (repeat (first | (with_reducible first | refine wpAny_pure ?_ | refine wpAny_bind ?_ | refine wpAny_holding ?_ | refine wpAny_standAt ?_ | refine wpAny_point ?_ | refine wpAny_rule ?_ | refine wpAny_fresh' ?_ | refine w_if_false (by assumption) ?_ | refine w_forIn_nil ?_ | refine w_forIn_cons ?_) | ((with_reducible apply wpAny_load'); focus ((first | assumption | exact Mem.at (by assumption) 0 _ _ rfl | exact Mem.at (by assumption) 1 _ _ rfl | exact Mem.at (by assumption) 2 _ _ rfl | exact Mem.at (by assumption) 3 _ _ rfl | exact Mem.at (by assumption) 4 _ _ rfl | exact Mem.old (by assumption) _ _ (by assumption) rfl | exact mem_old0 (by assumption) (by assumption)); done)) | ((with_reducible apply wpAny_loadPart'); focus ((first | assumption | exact Mem.at (by assumption) 0 _ _ rfl | exact Mem.at (by assumption) 1 _ _ rfl | exact Mem.at (by assumption) 2 _ _ rfl | exact Mem.at (by assumption) 3 _ _ rfl | exact Mem.at (by assumption) 4 _ _ rfl | exact Mem.old (by assumption) _ _ (by assumption) rfl | exact mem_old0 (by assumption) (by assumption)); done)) | ((with_reducible apply wpAny_ite_false); focus ((first | with_reducible rfl | kernel_rfl!); done)) | ((with_reducible apply wpAny_ite_true); focus ((first | with_reducible rfl | kernel_rfl!); done)) | ((with_reducible show wpAny _ _ (Builtin.extendedBase _) _ _ _); refine wpAny_of_eq p_ext ?_) | ((with_reducible show wpAny _ _ (Builtin.Slots.bestBase _) _ _ _); refine wpAny_of_eq p_best ?_) | ((with_reducible show wpAny _ _ (Builtin.linearize _ _) _ _ _); refine wpAny_of_eq p_lin ?_) | ((with_reducible show wpAny _ _ (Bind.madeBy _) _ _ _); refine wpAny_of_eq p_made ?_) | ((with_reducible show wpAny _ _ (Builtin.mroHook? _) _ _ _); refine wpAny_of_eq p_hook ?_) | ((with_reducible show wpAny _ _ (Builtin.notOverATurnedClass _) _ _ _); refine wpAny_of_eq p_turned ?_) | ((with_reducible show wpAny _ _ (isType (Value.type _)) _ _ _); refine wpAny_of_eq p_isType ?_) | ((with_reducible show wpAny _ _ (typeLookup (Value.type _) _) _ _ _); refine wpAny_of_eq p_dictiter ?_) | ((with_reducible show wpAny _ _ (typeOf (Value.type _)) _ _ _); refine wpAny_of_eq p_typeOf ?_) | ((with_reducible show wpAny _ _ (isSubtype _ _) _ _ _); first | refine wpAny_of_eq p_sub1 ?_ | refine wpAny_of_eq p_sub2 ?_ | refine wpAny_of_eq p_sub3 ?_ | refine wpAny_of_eq p_sub4 ?_) | ((with_reducible show wpAny _ _ (forIn _ _ _) _ _ _); first | refine w_forIn_nil ?_ | refine w_forIn_cons ?_ | refine w_forInA ?_) | ((with_reducible show wpAny _ _ (newObj _ _ _) _ _ _); refine m_newObj (by assumption) (by kernel_rfl!) (by size_fits) ?_; intro _ _ _) | ((with_reducible show wpAny _ _ (alloc _) _ _ _); refine m_alloc (by assumption) (by kernel_rfl!) ?_; intro _ _ _) | ((with_reducible show wpAny _ _ (updatePart _ _ _) _ _ _); (first  | refine m_updatePart (by assumption) 0 rfl (by kernel_rfl!) ?_ | refine m_updatePart (by assumption) 1 rfl (by kernel_rfl!) ?_ | refine m_updatePart (by assumption) 2 rfl (by kernel_rfl!) ?_ | refine m_updatePart (by assumption) 3 rfl (by kernel_rfl!) ?_); intro _ _) | ((with_reducible show wpAny _ _ (update _ _) _ _ _); (first  | refine m_update (by assumption) 0 rfl (by kernel_rfl!) ?_ | refine m_update (by assumption) 1 rfl (by kernel_rfl!) ?_ | refine m_update (by assumption) 2 rfl (by kernel_rfl!) ?_ | refine m_update (by assumption) 3 rfl (by kernel_rfl!) ?_); intro _ _) | ((with_reducible show wpAny _ _ (nsGet _ _) _ _ _); refine m_nsGet (r := none) (by (first | assumption | exact Mem.at (by assumption) 0 _ _ rfl | exact Mem.at (by assumption) 1 _ _ rfl | exact Mem.at (by assumption) 2 _ _ rfl | exact Mem.at (by assumption) 3 _ _ rfl | exact Mem.at (by assumption) 4 _ _ rfl | exact Mem.old (by assumption) _ _ (by assumption) rfl | exact mem_old0 (by assumption) (by assumption))) (by kernel_rfl!) ?_) | ((with_reducible show wpAny _ _ (Builtin.Slots.givesWeak (Value.type _)) _ _ _); refine wpAny_of_eq p_weak ?_) | ((with_reducible show wpAny _ _ (Sem.tryCatch _ _) _ _ _); refine wpAny_tryCatch ?_) | ((with_reducible show wpAny _ _ (specialOf _ "__set_name__") _ _ _); first | refine wpAny_specialOf (show Shared.TypeIs _ _ "function" from ⟨_, by (first | assumption | exact Mem.at (by assumption) 0 _ _ rfl | exact Mem.at (by assumption) 1 _ _ rfl | exact Mem.at (by assumption) 2 _ _ rfl | exact Mem.at (by assumption) 3 _ _ rfl | exact Mem.at (by assumption) 4 _ _ rfl | exact Mem.old (by assumption) _ _ (by assumption) rfl | exact mem_old0 (by assumption) (by assumption)), by first | rfl | assumption⟩) s_function ?_ | refine wpAny_specialOf (show Shared.TypeIs _ _ "list" from ⟨_, by (first | assumption | exact Mem.at (by assumption) 0 _ _ rfl | exact Mem.at (by assumption) 1 _ _ rfl | exact Mem.at (by assumption) 2 _ _ rfl | exact Mem.at (by assumption) 3 _ _ rfl | exact Mem.at (by assumption) 4 _ _ rfl | exact Mem.old (by assumption) _ _ (by assumption) rfl | exact mem_old0 (by assumption) (by assumption)), by first | rfl | assumption⟩) s_list ?_ | refine wpAny_specialOf (show Shared.TypeIs _ _ "tuple" from ⟨_, by (first | assumption | exact Mem.at (by assumption) 0 _ _ rfl | exact Mem.at (by assumption) 1 _ _ rfl | exact Mem.at (by assumption) 2 _ _ rfl | exact Mem.at (by assumption) 3 _ _ rfl | exact Mem.at (by assumption) 4 _ _ rfl | exact Mem.old (by assumption) _ _ (by assumption) rfl | exact mem_old0 (by assumption) (by assumption)), by first | rfl | assumption⟩) s_tuple ?_ | refine wpAny_specialOf (show Shared.TypeIs _ _ "member_descriptor" from ⟨_, by (first | assumption | exact Mem.at (by assumption) 0 _ _ rfl | exact Mem.at (by assumption) 1 _ _ rfl | exact Mem.at (by assumption) 2 _ _ rfl | exact Mem.at (by assumption) 3 _ _ rfl | exact Mem.at (by assumption) 4 _ _ rfl | exact Mem.old (by assumption) _ _ (by assumption) rfl | exact mem_old0 (by assumption) (by assumption)), by first | rfl | assumption⟩) s_member_descriptor ?_ | refine wpAny_specialOf_val (T := "str") rfl s_str ?_ | refine wpAny_specialOf_val (T := "int") rfl s_int ?_ | refine wpAny_specialOf_val (T := "NoneType") rfl s_NoneType ?_) | ((with_reducible show wpAny _ _ (nsSet _ _ _) _ _ _); refine m_nsSet (by assumption) 2 rfl rfl (by kernel_rfl!) (fun _ _ => by kernel_rfl!) ?_) | ((with_reducible show wpAny _ _ (Builtin.noteSubclassOfBuiltin _ _) _ _ _); refine wpAny_of_eq (p_note _) ?_) | ((with_reducible show wpAny _ _ (Builtin.Slots.read _ _ _) _ _ _); refine read_c (by assumption) ?_) | ((with_reducible show wpAny _ _ (updateCls _ _) _ _ _); (first  | refine m_updateCls (by assumption) 0 rfl rfl (by kernel_rfl!) (by kernel_rfl!) ?_ | refine m_updateCls (by assumption) 1 rfl rfl (by kernel_rfl!) (by kernel_rfl!) ?_ | refine m_updateCls (by assumption) 2 rfl rfl (by kernel_rfl!) (by kernel_rfl!) ?_ | refine m_updateCls (by assumption) 3 rfl rfl (by kernel_rfl!) (by kernel_rfl!) ?_ | refine m_updateCls (by assumption) 4 rfl rfl (by kernel_rfl!) (by kernel_rfl!) ?_); intro _ _) | ((with_reducible show wpAny _ _ (setSlotAt _ _ _) _ _ _); (first  | refine m_setSlot (by assumption) 0 rfl (by kernel_rfl!) (by rw [sizeLine_eq]; decide) ?_ | refine m_setSlot (by assumption) 1 rfl (by kernel_rfl!) (by rw [sizeLine_eq]; decide) ?_ | refine m_setSlot (by assumption) 2 rfl (by kernel_rfl!) (by rw [sizeLine_eq]; decide) ?_ | refine m_setSlot (by assumption) 3 rfl (by kernel_rfl!) (by rw [sizeLine_eq]; decide) ?_ | refine m_setSlot (by assumption) 4 rfl (by kernel_rfl!) (by rw [sizeLine_eq]; decide) ?_); intro _ _) | wp_delta)) <;> (try assumption)
  iterate 2 (first | (first | (with_reducible first | refine wpAny_pure ?_ | refine wpAny_bind ?_ | refine wpAny_holding ?_ | refine wpAny_standAt ?_ | refine wpAny_point ?_ | refine wpAny_rule ?_ | refine wpAny_fresh' ?_ | refine w_if_false (by assumption) ?_ | refine w_forIn_nil ?_ | refine w_forIn_cons ?_) | ((with_reducible apply wpAny_load'); focus ((first | assumption | exact Mem.at (by assumption) 0 _ _ rfl | exact Mem.at (by assumption) 1 _ _ rfl | exact Mem.at (by assumption) 2 _ _ rfl | exact Mem.at (by assumption) 3 _ _ rfl | exact Mem.at (by assumption) 4 _ _ rfl | exact Mem.old (by assumption) _ _ (by assumption) rfl | exact mem_old0 (by assumption) (by assumption)); done)) | ((with_reducible apply wpAny_loadPart'); focus ((first | assumption | exact Mem.at (by assumption) 0 _ _ rfl | exact Mem.at (by assumption) 1 _ _ rfl | exact Mem.at (by assumption) 2 _ _ rfl | exact Mem.at (by assumption) 3 _ _ rfl | exact Mem.at (by assumption) 4 _ _ rfl | exact Mem.old (by assumption) _ _ (by assumption) rfl | exact mem_old0 (by assumption) (by assumption)); done)) | ((with_reducible apply wpAny_ite_false); focus ((first | with_reducible rfl | kernel_rfl!); done)) | ((with_reducible apply wpAny_ite_true); focus ((first | with_reducible rfl | kernel_rfl!); done)) | ((with_reducible show wpAny _ _ (Builtin.extendedBase _) _ _ _); refine wpAny_of_eq p_ext ?_) | ((with_reducible show wpAny _ _ (Builtin.Slots.bestBase _) _ _ _); refine wpAny_of_eq p_best ?_) | ((with_reducible show wpAny _ _ (Builtin.linearize _ _) _ _ _); refine wpAny_of_eq p_lin ?_) | ((with_reducible show wpAny _ _ (Bind.madeBy _) _ _ _); refine wpAny_of_eq p_made ?_) | ((with_reducible show wpAny _ _ (Builtin.mroHook? _) _ _ _); refine wpAny_of_eq p_hook ?_) | ((with_reducible show wpAny _ _ (Builtin.notOverATurnedClass _) _ _ _); refine wpAny_of_eq p_turned ?_) | ((with_reducible show wpAny _ _ (isType (Value.type _)) _ _ _); refine wpAny_of_eq p_isType ?_) | ((with_reducible show wpAny _ _ (typeLookup (Value.type _) _) _ _ _); refine wpAny_of_eq p_dictiter ?_) | ((with_reducible show wpAny _ _ (typeOf (Value.type _)) _ _ _); refine wpAny_of_eq p_typeOf ?_) | ((with_reducible show wpAny _ _ (isSubtype _ _) _ _ _); first | refine wpAny_of_eq p_sub1 ?_ | refine wpAny_of_eq p_sub2 ?_ | refine wpAny_of_eq p_sub3 ?_ | refine wpAny_of_eq p_sub4 ?_) | ((with_reducible show wpAny _ _ (forIn _ _ _) _ _ _); first | refine w_forIn_nil ?_ | refine w_forIn_cons ?_ | refine w_forInA ?_) | ((with_reducible show wpAny _ _ (newObj _ _ _) _ _ _); refine m_newObj (by assumption) (by kernel_rfl!) (by size_fits) ?_; intro _ _ _) | ((with_reducible show wpAny _ _ (alloc _) _ _ _); refine m_alloc (by assumption) (by kernel_rfl!) ?_; intro _ _ _) | ((with_reducible show wpAny _ _ (updatePart _ _ _) _ _ _); (first  | refine m_updatePart (by assumption) 0 rfl (by kernel_rfl!) ?_ | refine m_updatePart (by assumption) 1 rfl (by kernel_rfl!) ?_ | refine m_updatePart (by assumption) 2 rfl (by kernel_rfl!) ?_ | refine m_updatePart (by assumption) 3 rfl (by kernel_rfl!) ?_); intro _ _) | ((with_reducible show wpAny _ _ (update _ _) _ _ _); (first  | refine m_update (by assumption) 0 rfl (by kernel_rfl!) ?_ | refine m_update (by assumption) 1 rfl (by kernel_rfl!) ?_ | refine m_update (by assumption) 2 rfl (by kernel_rfl!) ?_ | refine m_update (by assumption) 3 rfl (by kernel_rfl!) ?_); intro _ _) | ((with_reducible show wpAny _ _ (nsGet _ _) _ _ _); refine m_nsGet (r := none) (by (first | assumption | exact Mem.at (by assumption) 0 _ _ rfl | exact Mem.at (by assumption) 1 _ _ rfl | exact Mem.at (by assumption) 2 _ _ rfl | exact Mem.at (by assumption) 3 _ _ rfl | exact Mem.at (by assumption) 4 _ _ rfl | exact Mem.old (by assumption) _ _ (by assumption) rfl | exact mem_old0 (by assumption) (by assumption))) (by kernel_rfl!) ?_) | ((with_reducible show wpAny _ _ (Builtin.Slots.givesWeak (Value.type _)) _ _ _); refine wpAny_of_eq p_weak ?_) | ((with_reducible show wpAny _ _ (Sem.tryCatch _ _) _ _ _); refine wpAny_tryCatch ?_) | ((with_reducible show wpAny _ _ (specialOf _ "__set_name__") _ _ _); first | refine wpAny_specialOf (show Shared.TypeIs _ _ "function" from ⟨_, by (first | assumption | exact Mem.at (by assumption) 0 _ _ rfl | exact Mem.at (by assumption) 1 _ _ rfl | exact Mem.at (by assumption) 2 _ _ rfl | exact Mem.at (by assumption) 3 _ _ rfl | exact Mem.at (by assumption) 4 _ _ rfl | exact Mem.old (by assumption) _ _ (by assumption) rfl | exact mem_old0 (by assumption) (by assumption)), by first | rfl | assumption⟩) s_function ?_ | refine wpAny_specialOf (show Shared.TypeIs _ _ "list" from ⟨_, by (first | assumption | exact Mem.at (by assumption) 0 _ _ rfl | exact Mem.at (by assumption) 1 _ _ rfl | exact Mem.at (by assumption) 2 _ _ rfl | exact Mem.at (by assumption) 3 _ _ rfl | exact Mem.at (by assumption) 4 _ _ rfl | exact Mem.old (by assumption) _ _ (by assumption) rfl | exact mem_old0 (by assumption) (by assumption)), by first | rfl | assumption⟩) s_list ?_ | refine wpAny_specialOf (show Shared.TypeIs _ _ "tuple" from ⟨_, by (first | assumption | exact Mem.at (by assumption) 0 _ _ rfl | exact Mem.at (by assumption) 1 _ _ rfl | exact Mem.at (by assumption) 2 _ _ rfl | exact Mem.at (by assumption) 3 _ _ rfl | exact Mem.at (by assumption) 4 _ _ rfl | exact Mem.old (by assumption) _ _ (by assumption) rfl | exact mem_old0 (by assumption) (by assumption)), by first | rfl | assumption⟩) s_tuple ?_ | refine wpAny_specialOf (show Shared.TypeIs _ _ "member_descriptor" from ⟨_, by (first | assumption | exact Mem.at (by assumption) 0 _ _ rfl | exact Mem.at (by assumption) 1 _ _ rfl | exact Mem.at (by assumption) 2 _ _ rfl | exact Mem.at (by assumption) 3 _ _ rfl | exact Mem.at (by assumption) 4 _ _ rfl | exact Mem.old (by assumption) _ _ (by assumption) rfl | exact mem_old0 (by assumption) (by assumption)), by first | rfl | assumption⟩) s_member_descriptor ?_ | refine wpAny_specialOf_val (T := "str") rfl s_str ?_ | refine wpAny_specialOf_val (T := "int") rfl s_int ?_ | refine wpAny_specialOf_val (T := "NoneType") rfl s_NoneType ?_) | ((with_reducible show wpAny _ _ (nsSet _ _ _) _ _ _); refine m_nsSet (by assumption) 2 rfl rfl (by kernel_rfl!) (fun _ _ => by kernel_rfl!) ?_) | ((with_reducible show wpAny _ _ (Builtin.noteSubclassOfBuiltin _ _) _ _ _); refine wpAny_of_eq (p_note _) ?_) | ((with_reducible show wpAny _ _ (Builtin.Slots.read _ _ _) _ _ _); refine read_c (by assumption) ?_) | ((with_reducible show wpAny _ _ (updateCls _ _) _ _ _); (first  | refine m_updateCls (by assumption) 0 rfl rfl (by kernel_rfl!) (by kernel_rfl!) ?_ | refine m_updateCls (by assumption) 1 rfl rfl (by kernel_rfl!) (by kernel_rfl!) ?_ | refine m_updateCls (by assumption) 2 rfl rfl (by kernel_rfl!) (by kernel_rfl!) ?_ | refine m_updateCls (by assumption) 3 rfl rfl (by kernel_rfl!) (by kernel_rfl!) ?_ | refine m_updateCls (by assumption) 4 rfl rfl (by kernel_rfl!) (by kernel_rfl!) ?_); intro _ _) | ((with_reducible show wpAny _ _ (setSlotAt _ _ _) _ _ _); (first  | refine m_setSlot (by assumption) 0 rfl (by kernel_rfl!) (by rw [sizeLine_eq]; decide) ?_ | refine m_setSlot (by assumption) 1 rfl (by kernel_rfl!) (by rw [sizeLine_eq]; decide) ?_ | refine m_setSlot (by assumption) 2 rfl (by kernel_rfl!) (by rw [sizeLine_eq]; decide) ?_ | refine m_setSlot (by assumption) 3 rfl (by kernel_rfl!) (by rw [sizeLine_eq]; decide) ?_ | refine m_setSlot (by assumption) 4 rfl (by kernel_rfl!) (by rw [sizeLine_eq]; decide) ?_); intro _ _) | wp_delta) | skip)
  have k1z : Keep h hz := fun b o e => mem_old0 D6 (k1 b o e)
  have KXz := Frag.In.keeps KX1 (fun b o e => mem_old0 D6 e)
  have hKz : hz.get? aK = some (clsR aK aN bT t0 yq) := Mem.at D6 1 _ _ rfl
  have hDz : hz.get? aD = some (desO aK td) := Mem.at D6 0 _ _ rfl
  have hNz : hz.get? aN = some (nsR (entriesQ q0 q2 q3 q4 q5 q6 q7 q8 q9 q10 q11 z0 z2 z3 z4 z5 z6 z7 z8 z9 z10 z11 (.str sM zM) (.int iF zF) aSl aIn aLt aGt aEq aLe aGe aSt ++ #[de ho "obj" to (.ref aD), de hd "__doc__" td' .none]) 3) := Mem.at D6 2 _ _ rfl
  refine noE (hA.run (wpAny_mono (super_x KXz hKz) ?_ (fun _ _ x => x.elim)))
  rintro _ ⟨h3, g3, d3, t3, o3⟩ ⟨aS, rfl, hS, k3, rfl, rfl, rfl⟩
  refine wpAny_bind (wpAny_holding ?_)
  refine super_attr (n := 3) hA (Frag.In.keeps KXz k3) (k3 _ _ hKz) hS ?_
  intro x h4 t4 k4 hx
  refine wpAny_bind ?_
  refine noE (hA.run (wpAny_mono (initsub_x (Frag.In.keeps (Frag.In.keeps KXz k3) k4) (k4 _ _ (k3 _ _ hKz)) hx) ?_ (fun _ _ x => x.elim)))
  rintro _ ⟨h5, g5, d5, t5, o5⟩ ⟨rfl, k5, rfl, rfl, rfl⟩
  refine wpAny_pure ?_
  refine wpAny_pure ?_
  have kk : ∀ b o, hz.get? b = some o → h5.get? b = some o := fun b o e => k5 _ _ (k4 _ _ (k3 _ _ e))
  exact k aK aN aD td ho to hd td' h5 t5 (fun b o e => kk b o (k1z b o e)) (kk _ _ hKz) (kk _ _ hDz) (kk _ _ hNz)
end Mine
end
section
open PySem PySem.W PySem.W.X PyProof.Rows
set_option Elab.async false
set_option maxRecDepth 100000
set_option linter.unusedVariables false
set_option pp.maxSteps 150
namespace Mine
theorem q1 (a b c : Value) : checkTypeCall "type" ⟨[a, b, c], []⟩ = pure () := by kernel_rfl
theorem q2 : Bind.madeBy (.type "type") = pure (some "type.__new__") := by kernel_rfl
theorem q3 (a b c : Value) : checkBuiltinCall "type.__new__" ⟨[.type "type", a, b, c], []⟩ = pure () := by kernel_rfl
theorem q4 : entryFor table "type.__new__" = some Builtin.«type.__new__» := entryFor_of_tree (by kernel_rfl)
theorem q5 : plainId "type.__new__" = true := by decide +kernel
theorem q6 : typeLookup (.type "type") "__init__" = pure (some (.builtin "type.__init__")) := by kernel_rfl
theorem q7 : mroOf (.type "type") = pure [.type "type", .type "object"] := by kernel_rfl
theorem q8 : isSubtype (.type "type") (.type "type") = pure true := by kernel_rfl
theorem q9 (v : Value) : bindSpecial (.builtin "type.__init__") v = pure (.builtin "type.__init__", [v]) := by kernel_rfl
theorem call_tnew {w : World} {A : Around} {s : Shared} {a b c : Value} {Q : Value → Shared → Prop} {E : Value → Shared → Prop}
    (h : wpAny (model PP w) A.in1 (Builtin.«type.__new__» ⟨[.type "type", a, b, c], []⟩) (fun fin s' => ∃ v, fin = .done (.ret v) ∧ Q v s') E s) :
    wpAny (model PP w) A (call (.builtin "type.__new__") [.type "type", a, b, c]) Q E s := by
  refine wpAny_call (codeAny_of_tree ?_)
  show wpAny _ A.in1 (do checkBuiltinCall "type.__new__" ⟨[.type "type", a, b, c], []⟩; again (.builtin "type.__new__" ⟨[.type "type", a, b, c], []⟩)) _ _ s
  refine wpAny_bind (wpAny_of_eq (q3 _ _ _) (wpAny_pure ⟨plainId_quiet q5 _, codeAny_builtin q4 ?_⟩))
  rw [Around.under_plainId q5 _]
  refine wpAny_mono h (fun fin s' z => ?_) fun _ _ z => z
  obtain ⟨v, rfl, q⟩ := z
  exact q
section
set_option maxHeartbeats 0 in
theorem tinit_x {w : World} {h : Heap} {g : Array GenState} {d : Drawn} {t : Nat} {os : OsState} {aK aNs bT nsA : Addr} {sl0 sl1 sl2 sl3 sl4 sl5 : Option Value} {t0 : Tok}
    (KX : (Kc w.params).In h)
    (hK : h.get? aK = some (Obj.mk (.type "type") none (.cls (clsD aK aNs)) #[sl0, sl1, sl2, sl3, sl4, sl5])) :
    wpAny (model PP w) AA (call (.builtin "type.__init__") [.ref aK, .str (Str.ofString "K") t0, .ref bT, .ref nsA]) (fun v s' => v = .none ∧ (∀ b o, h.get? b = some o → s'.heap.get? b = some o) ∧ Rest ⟨h, g, d, t, os⟩ s') (fun _ _ => False) ⟨h, g, d, t, os⟩ := by
  x_run
end
theorem ctype_c {w : World} {A : Around} {h : Heap} {g : Array GenState} {d : Drawn} {t : Nat} {os : OsState} {bT nsA : Addr} {t0 : Tok} {P : Addr → Heap → Prop} {Q : Value → Shared → Prop} {E : Value → Shared → Prop}
    (hn : ∀ (A : Around) (Q : PySem.Fin → Shared → Prop) (E : Value → Shared → Prop), Low A 4 → (∀ aK h' t', P aK h' → Q (.done (.ret (.ref aK))) ⟨h', g, d, t', os⟩) →
      wpAny (model PP w) A (Builtin.«type.__new__» ⟨[.type "type", .str (Str.ofString "K") t0, .ref bT, .ref nsA], []⟩) Q E ⟨h, g, d, t, os⟩) (hA : Low A 8)
    (hP : ∀ aK h', P aK h' → (Kc w.params).In h' ∧ ∃ aN sl0 sl1 sl2 sl3 sl4 sl5, h'.get? aK = some (Obj.mk (.type "type") none (.cls (clsD aK aN)) #[sl0, sl1, sl2, sl3, sl4, sl5]))
    (k : ∀ aK h' h'' t', P aK h' → Keep h' h'' → Q (.ref aK) ⟨h'', g, d, t', os⟩) :
    wpAny (model PP w) A (call (.type "type") [.str (Str.ofString "K") t0, .ref bT, .ref nsA]) Q E ⟨h, g, d, t, os⟩ := by
  refine wpAny_call (codeAny_of_tree ?_)
  show wpAny _ _ (callAny (.type "type") _) _ _ _
  refine wpAny_pure ⟨Code.quiet_builtin _ (by decide +kernel), codeAny_builtin PySem.F.entry_type_call ?_⟩
  rw [Around.under_plain (weight_type_call_type "type" _ []) rfl]
  unfold Builtin.«type.__call__»
  repeat (first | (with_reducible first | refine wpAny_pure ?_ | refine wpAny_bind ?_ | refine wpAny_holding ?_ | refine wpAny_standAt ?_ | refine wpAny_point ?_ | refine wpAny_rule ?_ | refine wpAny_fresh' ?_ | refine wpAny_of_eq (q1 _ _ _) ?_ | refine wpAny_of_eq q2 ?_ | refine wpAny_of_eq q6 ?_ | refine wpAny_of_eq q7 ?_ | refine wpAny_of_eq q8 ?_ | refine wpAny_of_eq (q9 _) ?_) | ((with_reducible apply wpAny_load'); focus (assumption; done)) | ((with_reducible apply wpAny_loadPart'); focus (assumption; done)) | ((with_reducible apply wpAny_ite_false); focus ((first | with_reducible rfl | kernel_rfl!); done)) | ((with_reducible apply wpAny_ite_true); focus ((first | with_reducible rfl | kernel_rfl!); done)) | wp_delta)
  have hA2 : Low A.in1.in1 4 := ⟨hA.hd, by have := hA.dp; show A.depth + 4 ≤ 600; omega, by have := hA.un; show A.units + 1 + 1 + 3 * 4 ≤ 600; omega⟩
  have hA1 : Low A.in1 4 := ⟨hA.hd, by have := hA.dp; show A.depth + 4 ≤ 600; omega, by have := hA.un; show A.units + 1 + 3 * 4 ≤ 600; omega⟩
  refine call_tnew (hn _ _ _ hA2 ?_)
  intro aK h1 t1 p1
  obtain ⟨KX1, aN, sl0, sl1, sl2, sl3, sl4, sl5, hK⟩ := hP aK h1 p1
  refine ⟨_, rfl, ?_⟩
  repeat (first | (with_reducible first | refine wpAny_pure ?_ | refine wpAny_bind ?_ | refine wpAny_holding ?_ | refine wpAny_standAt ?_ | refine wpAny_point ?_ | refine wpAny_rule ?_ | refine wpAny_fresh' ?_ | refine wpAny_of_eq (q1 _ _ _) ?_ | refine wpAny_of_eq q2 ?_ | refine wpAny_of_eq q6 ?_ | refine wpAny_of_eq q7 ?_ | refine wpAny_of_eq q8 ?_ | refine wpAny_of_eq (q9 _) ?_) | ((with_reducible apply wpAny_load'); focus (assumption; done)) | ((with_reducible apply wpAny_loadPart'); focus (assumption; done)) | ((with_reducible apply wpAny_ite_false); focus ((first | with_reducible rfl | kernel_rfl!); done)) | ((with_reducible apply wpAny_ite_true); focus ((first | with_reducible rfl | kernel_rfl!); done)) | wp_delta)
  refine noE (hA1.run (wpAny_mono (tinit_x KX1 hK) ?_ (fun _ _ x => x.elim)))
  rintro _ ⟨h2, g2, d2, t2, o2⟩ ⟨rfl, k2, rfl, rfl, rfl⟩
  repeat (first | (with_reducible first | refine wpAny_pure ?_ | refine wpAny_bind ?_ | refine wpAny_holding ?_ | refine wpAny_standAt ?_ | refine wpAny_point ?_ | refine wpAny_rule ?_ | refine wpAny_fresh' ?_ | refine wpAny_of_eq (q1 _ _ _) ?_ | refine wpAny_of_eq q2 ?_ | refine wpAny_of_eq q6 ?_ | refine wpAny_of_eq q7 ?_ | refine wpAny_of_eq q8 ?_ | refine wpAny_of_eq (q9 _) ?_) | ((with_reducible apply wpAny_load'); focus (assumption; done)) | ((with_reducible apply wpAny_loadPart'); focus (assumption; done)) | ((with_reducible apply wpAny_ite_false); focus ((first | with_reducible rfl | kernel_rfl!); done)) | ((with_reducible apply wpAny_ite_true); focus ((first | with_reducible rfl | kernel_rfl!); done)) | wp_delta)
  exact k aK h1 h2 _ p1 k2
end Mine
end
section
open PySem PySem.W PySem.W.X PyProof.Rows PySem.Spec PySem.Calls
set_option Elab.async false
set_option maxRecDepth 100000
set_option linter.unusedVariables false
set_option pp.maxSteps 500
namespace Mine
noncomputable def fd56 (P : Params) : FuncData := match (Kc P).lookup 56 with | some o => (match o.data with | .func f => f | _ => default) | none => default
noncomputable def obj56 (P : Params) : Obj := ((Kc P).lookup 56).getD default
theorem l56 (P : Params) : (Kc P).lookup 56 = some (obj56 P) := by kernel_rfl
theorem d56 (P : Params) : (obj56 P).data = .func (fd56 P) := by kernel_rfl
noncomputable def cBody : List Stmt := match PP.main.body.getD 7 (.Pass default) with
  | .FunctionDef _ _ b _ _ _ _ _ _ _ => b
  | _ => []
theorem b56 (P : Params) : (fd56 P).body = .stmts cBody := by kernel_rfl
theorem c56 (P : Params) : (fd56 P).closure = [] := by kernel_rfl
theorem g56 (P : Params) : (fd56 P).globals = mainGlobals := by kernel_rfl
theorem q56 (P : Params) : (fd56 P).qualname = Str.ofString "cmp_to_key" := by kernel_rfl
theorem k56 (P : Params) : (fd56 P).code = .ref 55 := by kernel_rfl
theorem u56 (P : Params) : (fd56 P).builtins = builtinsNs := by kernel_rfl
noncomputable def scp56 : Scope := match PP.main.body.getD 7 (.Pass default) with
  | .FunctionDef _ _ _ _ _ _ sc _ _ _ => sc
  | _ => default
theorem s56 (P : Params) : (fd56 P).scope = scp56 := by kernel_rfl
theorem n56 : scp56.names = [(Str.ofString "mycmp", .cell), (Str.ofString "K", .local), (Str.ofString "object", .globalImplicit)] := by kernel_rfl
theorem h56 (P : Params) : codeIn (Kc P) (.ref 55) (Str.ofString "cmp_to_key") = true := by kernel_rfl
theorem ba56 (P : Params) : bindArgs (fd56 P) ⟨[.ref 121], []⟩ = pure [(Str.ofString "mycmp", .ref 121)] := by kernel_rfl
noncomputable abbrev env56 (L cell : Addr) : Env := { scope := scp56, locals := L, globals := mainGlobals, cells := [(Str.ofString "mycmp", cell)], qual := Str.ofString "cmp_to_key.<locals>.", func := some 56, code := .ref 55, frame := some L, builtins := builtinsNs }
theorem env_c {M : Model} {A : Around} {E : Value → Shared → Prop} {h : Heap} {g : Array GenState} {d : Drawn} {t : Nat} {os : OsState} {Q : Env → Shared → Prop}
    (k : ∀ L cell h' t', Mem h h' [] [(cell, Obj.mk (.type "cell") none (.cell (some (.ref 121))) #[]), (L, Obj.mk (.type "frame") none (.dict #[] 0) #[])] → Q (env56 L cell) ⟨h', g, d, t', os⟩) :
    wpAny M A (newFunctionEnv scp56 mainGlobals [] [(Str.ofString "mycmp", .ref 121)] (Str.ofString "cmp_to_key.<locals>.") (some 56) (.ref 55) none builtinsNs) Q E ⟨h, g, d, t, os⟩ := by
  have D := Mem.start h
  unfold newFunctionEnv
  repeat (first | (with_reducible first | refine wpAny_pure ?_ | refine wpAny_bind ?_ | refine wpAny_holding ?_ | refine wpAny_standAt ?_ | refine wpAny_point ?_ | refine wpAny_rule ?_ | refine wpAny_fresh' ?_ | refine w_if_false (by assumption) ?_ | refine w_forIn_nil ?_ | refine w_forIn_cons ?_) | ((with_reducible apply wpAny_load'); focus ((first | assumption | exact Mem.at (by assumption) 0 _ _ rfl | exact Mem.at (by assumption) 1 _ _ rfl | exact Mem.at (by assumption) 2 _ _ rfl | exact Mem.at (by assumption) 3 _ _ rfl | exact Mem.at (by assumption) 4 _ _ rfl | exact Mem.old (by assumption) _ _ (by assumption) rfl | exact mem_old0 (by assumption) (by assumption)); done)) | ((with_reducible apply wpAny_loadPart'); focus ((first | assumption | exact Mem.at (by assumption) 0 _ _ rfl | exact Mem.at (by assumption) 1 _ _ rfl | exact Mem.at (by assumption) 2 _ _ rfl | exact Mem.at (by assumption) 3 _ _ rfl | exact Mem.at (by assumption) 4 _ _ rfl | exact Mem.old (by assumption) _ _ (by assumption) rfl | exact mem_old0 (by assumption) (by assumption)); done)) | ((with_reducible apply wpAny_ite_false); focus ((first | with_reducible rfl | kernel_rfl!); done)) | ((with_reducible apply wpAny_ite_true); focus ((first | with_reducible rfl | kernel_rfl!); done)) | ((with_reducible show wpAny _ _ (forIn _ _ _) _ _ _); first | refine w_forIn_nil ?_ | refine w_forIn_cons ?_ | refine w_forInA ?_) | ((with_reducible show wpAny _ _ (newObj _ _ _) _ _ _); refine m_newObj (by assumption) (by kernel_rfl!) (by size_fits) ?_; intro _ _ _) | ((with_reducible show wpAny _ _ (alloc _) _ _ _); refine m_alloc (by assumption) (by kernel_rfl!) ?_; intro _ _ _) | ((with_reducible show wpAny _ _ (updatePart _ _ _) _ _ _); (first | refine m_updatePart (by assumption) 0 rfl (by kernel_rfl!) ?_ | refine m_updatePart (by assumption) 1 rfl (by kernel_rfl!) ?_ | refine m_updatePart (by assumption) 2 rfl (by kernel_rfl!) ?_); intro _ _) | ((with_reducible show wpAny _ _ (update _ _) _ _ _); (first | refine m_update (by assumption) 0 rfl (by kernel_rfl!) ?_ | refine m_update (by assumption) 1 rfl (by kernel_rfl!) ?_ | refine m_update (by assumption) 2 rfl (by kernel_rfl!) ?_); intro _ _) | wp_delta)
  exact k _ _ _ _ (mem_is (by assumption) (by kernel_rfl!))
end Mine
end
section
open PySem PySem.W PySem.W.X PyProof.Rows PySem.Spec PySem.Calls
set_option Elab.async false
set_option maxRecDepth 100000
set_option linter.unusedVariables false
set_option pp.maxSteps 300
namespace Mine
noncomputable def clsSt : Stmt := cBody.getD 0 (.Pass default)
noncomputable def retSt : Stmt := cBody.getD 1 (.Pass default)
theorem cBody_eq : cBody = [clsSt, retSt] := by kernel_rfl
noncomputable def kBody : List Stmt := match clsSt with | .ClassDef _ _ _ b _ _ _ _ _ _ _ => b | _ => []
noncomputable def kScope : Scope := match clsSt with | .ClassDef _ _ _ _ _ _ sc _ _ _ _ => sc | _ => default
noncomputable def kPos : Pos := match clsSt with | .ClassDef _ _ _ _ _ _ _ _ _ _ p => p | _ => default
noncomputable def kBases : List Expr := match clsSt with | .ClassDef _ b _ _ _ _ _ _ _ _ _ => b | _ => []
theorem clsSt_eq : clsSt = .ClassDef (Str.ofString "K") kBases [] kBody [] [] kScope none (Str.ofString "K") [Str.ofString "obj"] kPos := by kernel_rfl
noncomputable def nmObj : Expr := kBases.getD 0 default
noncomputable def nmPos : Pos := match nmObj with | .Name _ p => p | _ => default
theorem kBases_eq : kBases = [.Name (Str.ofString "object") nmPos] := by kernel_rfl
noncomputable def retPos : Pos := match retSt with | .Return _ p => p | _ => default
noncomputable def retNm : Pos := match retSt with | .Return (some (.Name _ p)) _ => p | _ => default
theorem retSt_eq : retSt = .Return (some (.Name (Str.ofString "K") retNm)) retPos := by kernel_rfl
theorem kScope_names : kScope.names = [(Str.ofString "__module__", .local), (Str.ofString "__slots__", .local), (Str.ofString "__init__", .local), (Str.ofString "__lt__", .local), (Str.ofString "__gt__", .local), (Str.ofString "__eq__", .local), (Str.ofString "__le__", .local), (Str.ofString "__ge__", .local), (Str.ofString "__hash__", .local), (Str.ofString "mycmp", .free)] := by kernel_rfl
theorem kScope_kind : kScope.kind = .class := by kernel_rfl
theorem p_prep : typeLookup (.type "type") "__prepare__" = pure (some (.builtin "type.__prepare__")) := by kernel_rfl
section
set_option maxHeartbeats 0 in
theorem tga_x {w : World} {h : Heap} {g : Array GenState} {d : Drawn} {t : Nat} {os : OsState} {t0 : Tok}
    (KX : (Kc w.params).In h) :
    wpAny (model PP w) AA (call (.builtin "type.__getattribute__") [.type "type", .str (Str.ofString "__prepare__") t0]) (fun v s' => ∃ x, v = .ref x ∧ s'.heap.get? x = some (Obj.mk (.type "builtin_function_or_method") none (.fields #[.builtin "type.__prepare__", .type "type"]) #[]) ∧ (∀ b o, h.get? b = some o → s'.heap.get? b = some o) ∧ Rest ⟨h, g, d, t, os⟩ s') (fun _ _ => False) ⟨h, g, d, t, os⟩ := by
  x_run
set_option maxHeartbeats 0 in
theorem prep_x {w : World} {h : Heap} {g : Array GenState} {d : Drawn} {t : Nat} {os : OsState} {x bT : Addr} {t0 : Tok}
    (KX : (Kc w.params).In h) (hx : h.get? x = some (Obj.mk (.type "builtin_function_or_method") none (.fields #[.builtin "type.__prepare__", .type "type"]) #[])) :
    wpAny (model PP w) AA (call (.ref x) [.str (Str.ofString "K") t0, .ref bT]) (fun v s' => ∃ x, v = .ref x ∧ s'.heap.get? x = some (Obj.mk (.type "dict") none (.dict #[] 0) #[]) ∧ h.get? x = none ∧ (∀ b o, h.get? b = some o → s'.heap.get? b = some o) ∧ Rest ⟨h, g, d, t, os⟩ s') (fun _ _ => False) ⟨h, g, d, t, os⟩ := by
  x_run
end
theorem p_tga : typeLookup (.type "type") "__getattribute__" = pure (some (.builtin "type.__getattribute__")) := by kernel_rfl
theorem p_bga (v : Value) : bindSpecial (.builtin "type.__getattribute__") v = pure (.builtin "type.__getattribute__", [v]) := by kernel_rfl
theorem p_tt : typeOf (.type "type") = pure (.type "type") := by kernel_rfl
theorem prep_attr {w : World} {A : Around} {h : Heap} {g : Array GenState} {d : Drawn} {t : Nat} {os : OsState} {n : Nat} {Q : Option Value → Shared → Prop} {E : Value → Shared → Prop}
    (hA : Low A n) (KX : (Kc w.params).In h)
    (k : ∀ x h' t', Keep h h' → h'.get? x = some (Obj.mk (.type "builtin_function_or_method") none (.fields #[.builtin "type.__prepare__", .type "type"]) #[]) → Q (some (.ref x)) ⟨h', g, d, t', os⟩) :
    wpAny (model PP w) A (getAttr? (.type "type") (Str.ofString "__prepare__")) Q E ⟨h, g, d, t, os⟩ := by
  unfold getAttr? getAttrBy? getAttrBy
  refine wpAny_bind (wpAny_mkText (wpAny_bind (wpAny_attempt (wpAny_holding (wpAny_bind (wpAny_of_eq p_tt (wpAny_bind (wpAny_of_eq p_tga ?_))))))))
  show wpAny _ _ (getAttrByItsOwn (.type "type") (.str (Str.ofString "__prepare__") t) (.type "type") (.builtin "type.__getattribute__") false false) _ _ _
  unfold getAttrByItsOwn hookBefore callGetattribute boundAndCalled
  refine wpAny_bind (wpAny_of_eq (show (if onTheHeap (.type "type") then typeLookup (.type "type") "__getattr__" else pure none) = pure none from rfl) ?_)
  refine wpAny_bind (wpAny_attempt (wpAny_holding ?_))
  show wpAny _ _ (bindSpecial (.builtin "type.__getattribute__") (.type "type") >>= _) _ _ _
  refine wpAny_bind (wpAny_of_eq (p_bga _) ?_)
  refine noE (hA.run (wpAny_mono (tga_x KX) ?_ (fun _ _ x => x.elim)))
  rintro _ ⟨h2, g2, d2, t2, o2⟩ ⟨x, rfl, hx, k2, rfl, rfl, rfl⟩
  exact wpAny_pure (wpAny_pure (k x h2 t2 k2 hx))
end Mine
end
section
open PySem PySem.W PySem.W.X PyProof.Rows PySem.Spec PySem.Calls
set_option Elab.async false
set_option maxRecDepth 100000
set_option linter.unusedVariables false
set_option pp.maxSteps 300
namespace Mine
section
variable {M : Model} {A : Around} {E : Value → Shared → Prop} {s : Shared}
theorem classCode_c {env : Env} {c P : Addr} {ps : Array Value} {pos : Pos} {firstLine : Nat} {name qual : Str} {scope : Scope} {Q : Value → Shared → Prop} (hc : env.code = .ref c) (C : CodeHd s.heap c P) (hP : s.heap.get? P = some (tabObj ps)) (ht : TriplesOk ps.toList) (hnf : codeAmong pos ps.toList = none)
    (k : ∀ c' P' h' tk, Heap.ExtBut P s.heap h' → s.heap.get? c' = none → s.heap.get? P' = none → CodeHd h' c' P' → h'.get? P' = some (tabObj #[]) → (∃ vs, h'.get? P = some (tabObj vs)) → Q (.ref c') { s with heap := h', toks := tk }) :
    wpAny M A (classCode env pos firstLine name qual scope) Q E s := by
  have hok := C.code hP ht
  obtain ⟨o, vs, file, tf, flags, tg, inF, text, tt, op, ho, hd, h11, h2, h7, h9, h10, hop, hpd, htr, hne⟩ := hok
  have e1 : op = tabObj ps := Option.some.inj (hop.symm.trans hP)
  subst e1
  unfold classCode codeAt
  rw [hc, if_neg (show ¬ ((Value.ref c == Value.none) = true) from Bool.false_ne_true)]
  refine wpAny_bind (wpAny_fieldsOf ho hd ?_)
  rw [h11]
  refine wpAny_bind (wpAny_fieldsOf hop hpd ?_)
  rw [hnf, h2, h7, h9, h10]
  refine wpAny_bind (wpAny_newCodeX fun c' P' h' tk hk hc' hP' hcode' htab' hrec' => ?_)
  have hop' := hk _ _ hop
  refine wpAny_bind (wpAny_updateFieldsOfTheText hop' hpd ?_)
  have hm : Obj.mapFields (fun vs => if (codeAmong pos vs.toList).isSome = true then vs else vs ++ #[rawInt pos.line, rawInt pos.col, .ref c']) (tabObj ps) = tabObj (ps ++ #[rawInt pos.line, rawInt pos.col, .ref c']) := by
    simp only [Obj.mapFields, hnf]; rfl
  have hget := Heap.get?_update_self (h := h') (fun o => Obj.mapFields (fun vs => if (codeAmong pos vs.toList).isSome = true then vs else vs ++ #[rawInt pos.line, rawInt pos.col, .ref c']) o) hop' (by rw [hm]; rfl)
  refine wpAny_bind (wpAny_fieldsOf hget (by rw [hm]) ?_)
  have hl : (ps ++ #[rawInt pos.line, rawInt pos.col, Value.ref c']).toList = ps.toList ++ [rawInt pos.line, rawInt pos.col, .ref c'] := by simp
  rw [hl, codeAmong_snoc _ ht hnf]
  have lP := Heap.lt_size hop
  have hcP : c' ≠ P := Nat.ne_of_gt (Nat.lt_of_lt_of_le lP hc')
  have hPP : P' ≠ P := Nat.ne_of_gt (Nat.lt_of_lt_of_le lP hP')
  refine wpAny_pure (k c' P' _ _ (fun b o' hb e => ((Heap.SameBut.update ..).extBut b o' hb (hk b o' e))) (Heap.get?_none_of_le hc') (Heap.get?_none_of_le hP') ?_ ?_ ⟨_, hget.trans (congrArg some hm)⟩)
  · exact CodeHd.of (hcode'.extBut (Heap.SameBut.update ..).extBut hcP hPP) (htab'.extBut (Heap.SameBut.update ..).extBut hcP hPP)
  · exact (Heap.SameBut.update ..).extBut _ _ hPP htab'.2
/-- a name of the class's own that no scope bears -/
theorem cls_store0 {env : Env} {name : Str} {v : Value} {es : Array DictEntry} {n n' : Nat} {f : Int → Tok → Array DictEntry} {Q : Unit → Shared → Prop} (hk : env.kindOf name = none) (hc : env.scope.kind = .class) (hbk : (env.blockKind == .function) = false) (hcn : compilersOwnNames.contains name = true) (hn : s.heap.get? env.locals = some (nsR es n)) (hr : aRefKeyMayBeTheName name es = false)
    (he : ∀ hh tk, Obj.putName name hh (.str name tk) v (nsR es n) = nsR (f hh tk) n')
    (k : ∀ hh tk h' t', Heap.SameBut env.locals s.heap h' → h'.get? env.locals = some (nsR (f hh tk) n') → Q () { s with heap := h', toks := t' }) : wpAny M A (storeName env name v) Q E s := by
  unfold storeName
  rw [hk]
  rw [if_neg (by simp)]
  simp only [hc, hbk, hcn]
  show wpAny M A (localSet env name v) Q E s
  unfold localSet
  refine wpAny_bind (wpAny_load hn ?_)
  refine wpAny_ite_true rfl ?_
  unfold nsSet strHash
  refine wpAny_bind (wpAny_bind (wpAny_askSetting (wpAny_pure ?_)))
  refine wpAny_bind (wpAny_mkText ?_)
  refine wpAny_bind (wpAny_loadPart hn ?_)
  show wpAny M A (if aRefKeyMayBeTheName name es = true then _ else _) Q E _
  rw [hr, if_neg (by decide)]
  refine wpAny_updatePart hn ?_
  generalize (if name.cps.isEmpty = true then 0 else reduceHash ((⟨M.prog, M.w.params⟩ : Setting).params.strHash name.cps)) = hh
  have q := Heap.get?_update_self (Obj.putName name hh (.str name s.toks) v) hn (by rw [he]; rfl)
  rw [he] at q
  exact k hh s.toks (s.heap.update env.locals (Obj.putName name hh (.str name s.toks) v)) (s.toks + 1) (Heap.SameBut.update ..) q
end
end Mine
end
section
open PySem PySem.W PySem.W.X PyProof.Rows PySem.Spec PySem.Calls
set_option Elab.async false
set_option maxRecDepth 100000
set_option linter.unusedVariables false
set_option pp.maxSteps 300
namespace Mine
noncomputable def cenv (c N fr cell : Addr) : Env := { scope := kScope, locals := N, globals := mainGlobals, cells := [(Str.ofString "mycmp", cell)], qual := Str.ofString "cmp_to_key.<locals>.K.", code := .ref c, frame := some fr, builtins := builtinsNs }
theorem ce_kind (c N fr cell : Addr) : (cenv c N fr cell).scope.kind = .class := by kernel_rfl
theorem ce_bk (c N fr cell : Addr) : (cenv c N fr cell).blockKind = .class := by kernel_rfl
theorem ce_name (c N fr cell : Addr) : (cenv c N fr cell).kindOf (Str.ofString "__name__") = none := by kernel_rfl
theorem ce_qn (c N fr cell : Addr) : (cenv c N fr cell).kindOf (Str.ofString "__qualname__") = none := by kernel_rfl
theorem ce_fl (c N fr cell : Addr) : (cenv c N fr cell).kindOf (Str.ofString "__firstlineno__") = none := by kernel_rfl
theorem ce_sa (c N fr cell : Addr) : (cenv c N fr cell).kindOf (Str.ofString "__static_attributes__") = none := by kernel_rfl
theorem own_name : compilersOwnNames.contains (Str.ofString "__name__") = true := by kernel_rfl
theorem own_qn : compilersOwnNames.contains (Str.ofString "__qualname__") = true := by kernel_rfl
theorem own_fl : compilersOwnNames.contains (Str.ofString "__firstlineno__") = true := by kernel_rfl
theorem own_sa : compilersOwnNames.contains (Str.ofString "__static_attributes__") = true := by kernel_rfl
section
variable {M : Model} {A : Around} {E : Value → Shared → Prop} {s : Shared}
theorem ln_c {c N fr cell : Addr} {es : Array DictEntry} {n : Nat} {mg : Str → Option Value} {v : Value} {Q : Value → Shared → Prop} (hN : s.heap.get? N = some (nsR es n)) (e : nsLook (Str.ofString "__name__") (nsR es n) = pure none) (G : s.heap.Ns mainGlobals mg) (hv : mg (Str.ofString "__name__") = some v) (hq : Q v s) :
    wpAny M A (loadName (cenv c N fr cell) (Str.ofString "__name__")) Q E s := by
  unfold loadName
  refine w_if_false (by kernel_rfl!) ?_
  rw [ce_bk, ce_name]
  dsimp only
  rw [own_name]
  rw [if_neg (by decide)]
  refine wpAny_bind ?_
  unfold localGet
  refine wpAny_bind (wpAny_load hN ?_)
  refine wpAny_ite_true rfl ?_
  refine wpAny_bind ?_
  refine wpAny_loadPart hN (wpAny_of_eq e ?_)
  unfold loadGlobal
  refine wpAny_bind (wpAny_nsGet G ?_)
  show wpAny M A (match mg (Str.ofString "__name__") with | some v => pure v | _ => _) Q E s
  rw [hv]
  exact wpAny_pure hq
end
theorem st_slots : ∃ t1 t2 p, kBody.getD 1 (.Pass default) = .Assign [.Name (Str.ofString "__slots__") t1] (.List [.Constant (.str (Str.ofString "obj")) 0 t2] p) (match kBody.getD 1 (.Pass default) with | .Assign _ _ q => q | _ => default) := ⟨_, _, _, rfl⟩
end Mine
end
section
open PySem PySem.W PySem.W.X PyProof.Rows PySem.Spec PySem.Calls
set_option Elab.async false
set_option maxRecDepth 100000
set_option linter.unusedVariables false
set_option pp.maxSteps 300
namespace Mine
noncomputable def stN (st : Stmt) : Str := match st with | .FunctionDef n _ _ _ _ _ _ _ _ _ => n | _ => default
noncomputable def stA (st : Stmt) : Arguments := match st with | .FunctionDef _ a _ _ _ _ _ _ _ _ => a | _ => default
noncomputable def stB (st : Stmt) : List Stmt := match st with | .FunctionDef _ _ b _ _ _ _ _ _ _ => b | _ => []
noncomputable def stS (st : Stmt) : Scope := match st with | .FunctionDef _ _ _ _ _ _ sc _ _ _ => sc | _ => default
noncomputable def stP (st : Stmt) : Pos := match st with | .FunctionDef _ _ _ _ _ _ _ _ _ p => p | _ => default
noncomputable def asP (st : Stmt) : Pos := match st with | .Assign _ _ p => p | _ => default
noncomputable def asT (st : Stmt) : Pos := match st with | .Assign [.Name _ p] _ _ => p | _ => default
noncomputable def asC (st : Stmt) : Pos := match st with | .Assign _ (.Constant _ _ p) _ => p | .Assign _ (.List _ p) _ => p | _ => default
noncomputable def asI (st : Stmt) : Pos := match st with | .Assign _ (.List [.Constant _ _ p] _) _ => p | _ => default
theorem kBody_eq : kBody = [kStmt 0, kStmt 1, kStmt 2, kStmt 3, kStmt 4, kStmt 5, kStmt 6, kStmt 7, kStmt 8] := by kernel_rfl
theorem st0 : kStmt 0 = .Assign [.Name (Str.ofString "__module__") (asT (kStmt 0))] (.Constant (.str (Str.ofString "cpy313.functools")) 0 (asC (kStmt 0))) (asP (kStmt 0)) := by kernel_rfl
theorem st1 : kStmt 1 = .Assign [.Name (Str.ofString "__slots__") (asT (kStmt 1))] (.List [.Constant (.str (Str.ofString "obj")) 0 (asI (kStmt 1))] (asC (kStmt 1))) (asP (kStmt 1)) := by kernel_rfl
theorem st8 : kStmt 8 = .Assign [.Name (Str.ofString "__hash__") (asT (kStmt 8))] (.Constant .none 0 (asC (kStmt 8))) (asP (kStmt 8)) := by kernel_rfl
theorem st2 : kStmt 2 = .FunctionDef (Str.ofString "__init__") (stA (kStmt 2)) (stB (kStmt 2)) [] none [] (stS (kStmt 2)) none (Str.ofString "__init__") (stP (kStmt 2)) := by kernel_rfl
theorem st3 : kStmt 3 = .FunctionDef (Str.ofString "__lt__") (stA (kStmt 3)) (stB (kStmt 3)) [] none [] (stS (kStmt 3)) none (Str.ofString "__lt__") (stP (kStmt 3)) := by kernel_rfl
theorem st4 : kStmt 4 = .FunctionDef (Str.ofString "__gt__") (stA (kStmt 4)) (stB (kStmt 4)) [] none [] (stS (kStmt 4)) none (Str.ofString "__gt__") (stP (kStmt 4)) := by kernel_rfl
theorem st5 : kStmt 5 = .FunctionDef (Str.ofString "__eq__") (stA (kStmt 5)) (stB (kStmt 5)) [] none [] (stS (kStmt 5)) none (Str.ofString "__eq__") (stP (kStmt 5)) := by kernel_rfl
theorem st6 : kStmt 6 = .FunctionDef (Str.ofString "__le__") (stA (kStmt 6)) (stB (kStmt 6)) [] none [] (stS (kStmt 6)) none (Str.ofString "__le__") (stP (kStmt 6)) := by kernel_rfl
theorem st7 : kStmt 7 = .FunctionDef (Str.ofString "__ge__") (stA (kStmt 7)) (stB (kStmt 7)) [] none [] (stS (kStmt 7)) none (Str.ofString "__ge__") (stP (kStmt 7)) := by kernel_rfl
theorem kBody_ann : hasAnns kBody = false := by kernel_rfl
theorem kBody_doc : docOf kBody = none := by kernel_rfl
theorem tri_app {ps : Array Value} {a b : Int} {v : Value} (h : TriplesOk ps.toList) : TriplesOk (ps ++ #[rawInt a, rawInt b, v]).toList := by
  rw [show (ps ++ #[rawInt a, rawInt b, v]).toList = ps.toList ++ [rawInt a, rawInt b, v] by simp]
  exact TriplesOk_snoc _ _ _ _ h
theorem swap_str (x : Str) (k : Nat) (p : Pos) (t : Option Expr) (l : Nat) (env : Env) : swapsWith (.Constant (.str x) k p) t l env = pure false := rfl
end Mine
end
section
open PySem PySem.W PySem.W.X PyProof.Rows PySem.Spec PySem.Calls
set_option Elab.async false
set_option maxRecDepth 100000
set_option linter.unusedVariables false
set_option pp.maxSteps 400
namespace Mine
theorem kn_init (c N fr cell : Addr) : (cenv c N fr cell).kindOf (Str.ofString "__init__") = some .local := by kernel_rfl
theorem kc_init (c N fr cell : Addr) : closureFor (stS (kStmt 2)) (cenv c N fr cell) = pure [] := by kernel_rfl
theorem kd_init : (stA (kStmt 2)).defaults = [] := by kernel_rfl
theorem kk_init : (stA (kStmt 2)).kw_defaults = [] := by kernel_rfl
theorem ka_init (env : Env) : annTrees (stA (kStmt 2)) none env = [] := by kernel_rfl
theorem ko_init : docOf (stB (kStmt 2)) = none := by kernel_rfl
theorem kq_init (c N fr cell : Addr) : qualnameIn (cenv c N fr cell) (Str.ofString "__init__") (Str.ofString "__init__") = Str.ofString "cmp_to_key.<locals>.K.__init__" := by kernel_rfl
theorem kn_lt (c N fr cell : Addr) : (cenv c N fr cell).kindOf (Str.ofString "__lt__") = some .local := by kernel_rfl
theorem kc_lt (c N fr cell : Addr) : closureFor (stS (kStmt 3)) (cenv c N fr cell) = pure [(Str.ofString "mycmp", cell)] := by kernel_rfl
theorem kd_lt : (stA (kStmt 3)).defaults = [] := by kernel_rfl
theorem kk_lt : (stA (kStmt 3)).kw_defaults = [] := by kernel_rfl
theorem ka_lt (env : Env) : annTrees (stA (kStmt 3)) none env = [] := by kernel_rfl
theorem ko_lt : docOf (stB (kStmt 3)) = none := by kernel_rfl
theorem kq_lt (c N fr cell : Addr) : qualnameIn (cenv c N fr cell) (Str.ofString "__lt__") (Str.ofString "__lt__") = Str.ofString "cmp_to_key.<locals>.K.__lt__" := by kernel_rfl
theorem kn_gt (c N fr cell : Addr) : (cenv c N fr cell).kindOf (Str.ofString "__gt__") = some .local := by kernel_rfl
theorem kc_gt (c N fr cell : Addr) : closureFor (stS (kStmt 4)) (cenv c N fr cell) = pure [(Str.ofString "mycmp", cell)] := by kernel_rfl
theorem kd_gt : (stA (kStmt 4)).defaults = [] := by kernel_rfl
theorem kk_gt : (stA (kStmt 4)).kw_defaults = [] := by kernel_rfl
theorem ka_gt (env : Env) : annTrees (stA (kStmt 4)) none env = [] := by kernel_rfl
theorem ko_gt : docOf (stB (kStmt 4)) = none := by kernel_rfl
theorem kq_gt (c N fr cell : Addr) : qualnameIn (cenv c N fr cell) (Str.ofString "__gt__") (Str.ofString "__gt__") = Str.ofString "cmp_to_key.<locals>.K.__gt__" := by kernel_rfl
theorem kn_eq (c N fr cell : Addr) : (cenv c N fr cell).kindOf (Str.ofString "__eq__") = some .local := by kernel_rfl
theorem kc_eq (c N fr cell : Addr) : closureFor (stS (kStmt 5)) (cenv c N fr cell) = pure [(Str.ofString "mycmp", cell)] := by kernel_rfl
theorem kd_eq : (stA (kStmt 5)).defaults = [] := by kernel_rfl
theorem kk_eq : (stA (kStmt 5)).kw_defaults = [] := by kernel_rfl
theorem ka_eq (env : Env) : annTrees (stA (kStmt 5)) none env = [] := by kernel_rfl
theorem ko_eq : docOf (stB (kStmt 5)) = none := by kernel_rfl
theorem kq_eq (c N fr cell : Addr) : qualnameIn (cenv c N fr cell) (Str.ofString "__eq__") (Str.ofString "__eq__") = Str.ofString "cmp_to_key.<locals>.K.__eq__" := by kernel_rfl
theorem kn_le (c N fr cell : Addr) : (cenv c N fr cell).kindOf (Str.ofString "__le__") = some .local := by kernel_rfl
theorem kc_le (c N fr cell : Addr) : closureFor (stS (kStmt 6)) (cenv c N fr cell) = pure [(Str.ofString "mycmp", cell)] := by kernel_rfl
theorem kd_le : (stA (kStmt 6)).defaults = [] := by kernel_rfl
theorem kk_le : (stA (kStmt 6)).kw_defaults = [] := by kernel_rfl
theorem ka_le (env : Env) : annTrees (stA (kStmt 6)) none env = [] := by kernel_rfl
theorem ko_le : docOf (stB (kStmt 6)) = none := by kernel_rfl
theorem kq_le (c N fr cell : Addr) : qualnameIn (cenv c N fr cell) (Str.ofString "__le__") (Str.ofString "__le__") = Str.ofString "cmp_to_key.<locals>.K.__le__" := by kernel_rfl
theorem kn_ge (c N fr cell : Addr) : (cenv c N fr cell).kindOf (Str.ofString "__ge__") = some .local := by kernel_rfl
theorem kc_ge (c N fr cell : Addr) : closureFor (stS (kStmt 7)) (cenv c N fr cell) = pure [(Str.ofString "mycmp", cell)] := by kernel_rfl
theorem kd_ge : (stA (kStmt 7)).defaults = [] := by kernel_rfl
theorem kk_ge : (stA (kStmt 7)).kw_defaults = [] := by kernel_rfl
theorem ka_ge (env : Env) : annTrees (stA (kStmt 7)) none env = [] := by kernel_rfl
theorem ko_ge : docOf (stB (kStmt 7)) = none := by kernel_rfl
theorem kq_ge (c N fr cell : Addr) : qualnameIn (cenv c N fr cell) (Str.ofString "__ge__") (Str.ofString "__ge__") = Str.ofString "cmp_to_key.<locals>.K.__ge__" := by kernel_rfl
theorem kn_module (c N fr cell : Addr) : (cenv c N fr cell).kindOf (Str.ofString "__module__") = some .local := by kernel_rfl
theorem kn_slots (c N fr cell : Addr) : (cenv c N fr cell).kindOf (Str.ofString "__slots__") = some .local := by kernel_rfl
theorem kn_hash (c N fr cell : Addr) : (cenv c N fr cell).kindOf (Str.ofString "__hash__") = some .local := by kernel_rfl
theorem execs_go {M : Model} {A : Around} {E : Value → Shared → Prop} {s : Shared} {st : Stmt} {rest : List Stmt} {env : Env} {Q : Flow → Shared → Prop} (h : wpAny M A (exec st env) (fun f s' => f = .next ∧ wpAny M A (execs rest env) Q E s') E s) : wpAny M A (execs (st :: rest) env) Q E s :=
  wpAny_execs_cons (wpAny_mono h (fun f s' x => by obtain ⟨rfl, x⟩ := x; exact x) fun _ _ x => x)
set_option maxHeartbeats 4000000 in
theorem body_c {w : World} {A : Around} {s : Shared} {g : Heap} {c P N fr cell : Addr} {fs : List (Addr × Obj)} {mg : Str → Option Value} {Q : Flow → Shared → Prop} {E : Value → Shared → Prop}
    {q0 q1 q2 : Int} {z0 z1 z2 yq : Tok} {v0 v2 : Value}
    (S : CB g c P N #[] #[de q0 "__module__" z0 v0, de q1 "__qualname__" z1 (.str kQual yq), de q2 "__firstlineno__" z2 v2] 3 fs s.heap) (hgn : g.Ns mainGlobals mg) (hb : g.BuiltinsAt mg P)
    (k : ∀ (ps' : Array Value) (tM : Tok) (aSl : Addr) (zs : Tok) (q3 q4 q5 q6 q7 q8 q9 q10 : Int) (z3 z4 z5 z6 z7 z8 z9 z10 : Tok) (fI fL fG fE fM fH cI cL cG cE cM cH : Addr) (tI tL tG tE tM' tH : Value) (oI oL oG oE oM oH : Option Addr) (nI nL nG nE nM nH : Value) (uI uL uG uE uM uH : Tok) (rI rL rG rE rM rH : List Value) (lI lL lG lE lM lH : Array (Option Value)) (h' : Heap) (t' : Nat),
      CB g c P N ps' #[de q0 "__module__" z0 (.str (Str.ofString "cpy313.functools") tM), de q1 "__qualname__" z1 (.str kQual yq), de q2 "__firstlineno__" z2 v2, de q3 "__slots__" z3 (.ref aSl), de q4 "__init__" z4 (.ref fI), de q5 "__lt__" z5 (.ref fL), de q6 "__gt__" z6 (.ref fG), de q7 "__eq__" z7 (.ref fE), de q8 "__le__" z8 (.ref fM), de q9 "__ge__" z9 (.ref fH), de q10 "__hash__" z10 .none] 11
        ((fH, fnMade (Str.ofString "__ge__") (Str.ofString "cmp_to_key.<locals>.K.__ge__") (stA (kStmt 7)) (stB (kStmt 7)) (stS (kStmt 7)) [(Str.ofString "mycmp", cell)] .none ((mg "__name__").getD .none) cH tH) :: (cH, codeO (Str.ofString "cmp_to_key.<locals>.K.__ge__") oH nH uH rH lH) :: (fM, fnMade (Str.ofString "__le__") (Str.ofString "cmp_to_key.<locals>.K.__le__") (stA (kStmt 6)) (stB (kStmt 6)) (stS (kStmt 6)) [(Str.ofString "mycmp", cell)] .none ((mg "__name__").getD .none) cM tM') :: (cM, codeO (Str.ofString "cmp_to_key.<locals>.K.__le__") oM nM uM rM lM) :: (fE, fnMade (Str.ofString "__eq__") (Str.ofString "cmp_to_key.<locals>.K.__eq__") (stA (kStmt 5)) (stB (kStmt 5)) (stS (kStmt 5)) [(Str.ofString "mycmp", cell)] .none ((mg "__name__").getD .none) cE tE) :: (cE, codeO (Str.ofString "cmp_to_key.<locals>.K.__eq__") oE nE uE rE lE) :: (fG, fnMade (Str.ofString "__gt__") (Str.ofString "cmp_to_key.<locals>.K.__gt__") (stA (kStmt 4)) (stB (kStmt 4)) (stS (kStmt 4)) [(Str.ofString "mycmp", cell)] .none ((mg "__name__").getD .none) cG tG) :: (cG, codeO (Str.ofString "cmp_to_key.<locals>.K.__gt__") oG nG uG rG lG) :: (fL, fnMade (Str.ofString "__lt__") (Str.ofString "cmp_to_key.<locals>.K.__lt__") (stA (kStmt 3)) (stB (kStmt 3)) (stS (kStmt 3)) [(Str.ofString "mycmp", cell)] .none ((mg "__name__").getD .none) cL tL) :: (cL, codeO (Str.ofString "cmp_to_key.<locals>.K.__lt__") oL nL uL rL lL) :: (fI, fnMade (Str.ofString "__init__") (Str.ofString "cmp_to_key.<locals>.K.__init__") (stA (kStmt 2)) (stB (kStmt 2)) (stS (kStmt 2)) [] .none ((mg "__name__").getD .none) cI tI) :: (cI, codeO (Str.ofString "cmp_to_key.<locals>.K.__init__") oI nI uI rI lI) :: (aSl, Obj.mk (.type "list") none (.seq #[.str (Str.ofString "obj") zs] 0) #[]) :: fs) h' → Q .next { s with heap := h', toks := t' }) :
    wpAny (model PP w) A (execs kBody (cenv c N fr cell)) Q E s := by
  have hgP : ∀ a o, g.get? a = some o → a ≠ P := fun a o e q => by rw [q, S.gP] at e; cases e
  rw [kBody_eq]
  refine execs_go ?_
  rw [st0]
  refine wpAny_Assign_Name ?_
  refine wpAny_Constant_str ?_
  generalize s.toks = tM
  refine cls_store (f := fun _ _ => #[de q0 "__module__" z0 (.str (Str.ofString "cpy313.functools") tM), de q1 "__qualname__" z1 (.str kQual yq), de q2 "__firstlineno__" z2 v2]) (n' := 3) (kn_module c N fr cell) (ce_kind c N fr cell) S.hN (by kernel_rfl!) (fun _ _ => by kernel_rfl!) ?_
  intro _ _ h1 t1 x1 e1
  refine ⟨rfl, ?_⟩
  have S1 := S.store x1 e1
  clear x1 e1
  refine execs_go ?_
  rw [st1]
  refine wpAny_Assign_Name ?_
  refine List_ ?_
  refine args_cons ?_
  refine wpAny_Constant_str ?_
  generalize ({ s with heap := h1, toks := t1 } : Shared).toks = zs
  refine args_nil ?_
  refine wpAny_newList ?_
  dsimp only
  have kl : Keep h1 (h1.push (Obj.mk (.type "list") none (.seq #[.str (Str.ofString "obj") zs] 0) #[])) := fun b o e => Heap.get?_push_of_some _ e
  have hl : (h1.push (Obj.mk (.type "list") none (.seq #[.str (Str.ofString "obj") zs] 0) #[])).get? h1.objs.size = some (Obj.mk (.type "list") none (.seq #[.str (Str.ofString "obj") zs] 0) #[]) := Heap.get?_push_size _ rfl
  have nl : h1.get? h1.objs.size = none := Heap.get?_none_of_le (Nat.le_refl _)
  generalize h1.push (Obj.mk (.type "list") none (.seq #[.str (Str.ofString "obj") zs] 0) #[]) = h2 at kl hl ⊢
  generalize h1.objs.size = aSl at hl nl ⊢
  have S2 := (S1.keep kl).add hl (fun q => by have e := S1.hP; rw [← q, nl] at e; cases e) (fun q => by have e := S1.hN; rw [← q, nl] at e; cases e)
  refine cls_store (f := fun hh tk => #[de q0 "__module__" z0 (.str (Str.ofString "cpy313.functools") tM), de q1 "__qualname__" z1 (.str kQual yq), de q2 "__firstlineno__" z2 v2, de hh "__slots__" tk (.ref aSl)]) (n' := 4) (kn_slots c N fr cell) (ce_kind c N fr cell) S2.hN (by kernel_rfl!) (fun _ _ => by kernel_rfl!) ?_
  intro q3 z3 h3 t3 x3 e3
  refine ⟨rfl, ?_⟩
  have S3 := S2.store x3 e3
  refine execs_go ?_
  rw [st2]
  refine cdef_c S3 hgn hb rfl rfl rfl (ce_kind c N fr cell) (kn_init c N fr cell) (kc_init c N fr cell) kd_init kk_init (ka_init _) ko_init True.intro (by kernel_rfl!) (by kernel_rfl!) (fun _ _ _ => by kernel_rfl!) ?_
  intro fI cI tI oI nI uI rI lI q4 z4 h4 t4 S4
  rw [kq_init] at S4
  refine ⟨rfl, ?_⟩
  refine execs_go ?_
  rw [st3]
  refine cdef_c S4 hgn hb rfl rfl rfl (ce_kind c N fr cell) (kn_lt c N fr cell) (kc_lt c N fr cell) kd_lt kk_lt (ka_lt _) ko_lt (tri_app True.intro) (by kernel_rfl!) (by kernel_rfl!) (fun _ _ _ => by kernel_rfl!) ?_
  intro fL cL tL oL nL uL rL lL q5 z5 h5 t5 S5
  rw [kq_lt] at S5
  refine ⟨rfl, ?_⟩
  refine execs_go ?_
  rw [st4]
  refine cdef_c S5 hgn hb rfl rfl rfl (ce_kind c N fr cell) (kn_gt c N fr cell) (kc_gt c N fr cell) kd_gt kk_gt (ka_gt _) ko_gt (tri_app (tri_app True.intro)) (by kernel_rfl!) (by kernel_rfl!) (fun _ _ _ => by kernel_rfl!) ?_
  intro fG cG tG oG nG uG rG lG q6 z6 h6 t6 S6
  rw [kq_gt] at S6
  refine ⟨rfl, ?_⟩
  refine execs_go ?_
  rw [st5]
  refine cdef_c S6 hgn hb rfl rfl rfl (ce_kind c N fr cell) (kn_eq c N fr cell) (kc_eq c N fr cell) kd_eq kk_eq (ka_eq _) ko_eq (tri_app (tri_app (tri_app True.intro))) (by kernel_rfl!) (by kernel_rfl!) (fun _ _ _ => by kernel_rfl!) ?_
  intro fE cE tE oE nE uE rE lE q7 z7 h7 t7 S7
  rw [kq_eq] at S7
  refine ⟨rfl, ?_⟩
  refine execs_go ?_
  rw [st6]
  refine cdef_c S7 hgn hb rfl rfl rfl (ce_kind c N fr cell) (kn_le c N fr cell) (kc_le c N fr cell) kd_le kk_le (ka_le _) ko_le (tri_app (tri_app (tri_app (tri_app True.intro)))) (by kernel_rfl!) (by kernel_rfl!) (fun _ _ _ => by kernel_rfl!) ?_
  intro fM cM tM' oM nM uM rM lM q8 z8 h8 t8 S8
  rw [kq_le] at S8
  refine ⟨rfl, ?_⟩
  refine execs_go ?_
  rw [st7]
  refine cdef_c S8 hgn hb rfl rfl rfl (ce_kind c N fr cell) (kn_ge c N fr cell) (kc_ge c N fr cell) kd_ge kk_ge (ka_ge _) ko_ge (tri_app (tri_app (tri_app (tri_app (tri_app True.intro))))) (by kernel_rfl!) (by kernel_rfl!) (fun _ _ _ => by kernel_rfl!) ?_
  intro fH cH tH oH nH uH rH lH q9 z9 h9 t9 S9
  rw [kq_ge] at S9
  refine ⟨rfl, ?_⟩
  refine execs_go ?_
  rw [st8]
  refine wpAny_Assign_Name ?_
  refine wpAny_Constant_none ?_
  refine cls_store (f := fun hh tk => #[de q0 "__module__" z0 (.str (Str.ofString "cpy313.functools") tM), de q1 "__qualname__" z1 (.str kQual yq), de q2 "__firstlineno__" z2 v2, de q3 "__slots__" z3 (.ref aSl), de q4 "__init__" z4 (.ref fI), de q5 "__lt__" z5 (.ref fL), de q6 "__gt__" z6 (.ref fG), de q7 "__eq__" z7 (.ref fE), de q8 "__le__" z8 (.ref fM), de q9 "__ge__" z9 (.ref fH), de hh "__hash__" tk .none]) (n' := 11) (kn_hash c N fr cell) (ce_kind c N fr cell) S9.hN (by kernel_rfl!) (fun _ _ => by kernel_rfl!) ?_
  intro q10 z10 h10 t10 x10 e10
  refine ⟨rfl, ?_⟩
  refine wpAny_execs_nil ?_
  exact k _ tM aSl zs q3 q4 q5 q6 q7 q8 q9 q10 z3 z4 z5 z6 z7 z8 z9 z10 fI fL fG fE fM fH cI cL cG cE cM cH tI tL tG tE tM' tH oI oL oG oE oM oH nI nL nG nE nM nH uI uL uG uE uM uH rI rL rG rE rM rH lI lL lG lE lM lH h10 t10 (S9.store x10 e10)
end Mine
end
section
open PySem PySem.W PySem.W.X PyProof.Rows PySem.Spec PySem.Calls
set_option Elab.async false
set_option maxRecDepth 100000
set_option linter.unusedVariables false
set_option pp.maxSteps 300
namespace Mine
/-- the class that cmp_to_key makes of _law_later: its parts, each known so far as it is used -/
noncomputable def KCls (aK aN : Addr) (o : Obj) : Prop := ∃ bT t0 yq, o = clsR aK aN bT t0 yq
inductive KNs (aD aLt aIn : Addr) (o : Obj) : Prop
  | mk (q0 q2 q3 q4 q5 q6 q7 q8 q9 q10 q11 qo qd : Int) (z0 z2 z3 z4 z5 z6 z7 z8 z9 z10 z11 zo zd : Tok) (v0 v2 : Value) (aSl aGt aEq aLe aGe aSt : Addr) (e : o = nsR (entriesQ q0 q2 q3 q4 q5 q6 q7 q8 q9 q10 q11 z0 z2 z3 z4 z5 z6 z7 z8 z9 z10 z11 v0 v2 aSl aIn aLt aGt aEq aLe aGe aSt ++ #[de qo "obj" zo (.ref aD), de qd "__doc__" zd .none]) 3) : KNs aD aLt aIn o
noncomputable def KDes (aK : Addr) (o : Obj) : Prop := ∃ td, o = desO aK td
noncomputable def KFn (i : Nat) (nm qual : Str) (cl : List (Str × Addr)) (aC : Addr) (o : Obj) : Prop := ∃ pm ct, o = fnMade nm qual (stA (kStmt i)) (stB (kStmt i)) (stS (kStmt i)) cl .none pm aC ct
noncomputable def KCo (qual : Str) (o : Obj) : Prop := ∃ oL cL0 uL rL lL, o = codeO qual oL cL0 uL rL lL
structure KB1 (h : Heap) (aK aN aD aLt aCell aCd aIn aCe : Addr) (oK oN oD oL oC oI oE : Obj) : Prop where
  hK : h.get? aK = some oK
  iK : KCls aK aN oK
  hN : h.get? aN = some oN
  iN : KNs aD aLt aIn oN
  hD : h.get? aD = some oD
  iD : KDes aK oD
  hLt : h.get? aLt = some oL
  iLt : KFn 3 (Str.ofString "__lt__") (Str.ofString "cmp_to_key.<locals>.K.__lt__") [(Str.ofString "mycmp", aCell)] aCd oL
  hCell : h.get? aCell = some (Obj.mk (.type "cell") none (.cell (some (.ref 121))) #[])
  hCd : h.get? aCd = some oC
  iCd : KCo (Str.ofString "cmp_to_key.<locals>.K.__lt__") oC
  hIn : h.get? aIn = some oI
  iIn : KFn 2 (Str.ofString "__init__") (Str.ofString "cmp_to_key.<locals>.K.__init__") [] aCe oI
  hCe : h.get? aCe = some oE
  iCe : KCo (Str.ofString "cmp_to_key.<locals>.K.__init__") oE
inductive KB (h : Heap) (aK : Addr) : Prop
  | mk (aN aD aLt aCell aCd aIn aCe : Addr) (oK oN oD oL oC oI oE : Obj) (x : KB1 h aK aN aD aLt aCell aCd aIn aCe oK oN oD oL oC oI oE) : KB h aK
/-- what tells the class's parts from a frame, a list, a cell of another thing -/
noncomputable def KSort (o : Obj) : Prop := (o.cls ≠ .type "frame" ∧ o.cls ≠ .type "list" ∧ o.cls ≠ .none) ∧ (∀ es ep, o.data = .dict es ep → nsFind es (Str.ofString "__module__") ≠ none) ∧ (∀ v, o.data = .cell v → v = some (.ref 121))
theorem KCls.sort {aK aN : Addr} {o : Obj} (x : KCls aK aN o) : KSort o := by
  obtain ⟨bT, t0, yq, rfl⟩ := x
  exact ⟨⟨by simp [clsR], by simp [clsR], by simp [clsR]⟩, (fun _ _ e => by cases e), (fun _ e => by cases e)⟩
theorem KNs.sort {aD aLt aIn : Addr} {o : Obj} (x : KNs aD aLt aIn o) : KSort o := by
  obtain ⟨q0, q2, q3, q4, q5, q6, q7, q8, q9, q10, q11, qo, qd, z0, z2, z3, z4, z5, z6, z7, z8, z9, z10, z11, zo, zd, v0, v2, aSl, aGt, aEq, aLe, aGe, aSt, rfl⟩ := x
  exact ⟨⟨by simp [nsR], by simp [nsR], by simp [nsR]⟩, (fun es ep e => by cases e; exact fun q => Option.some_ne_none v0 ((show nsFind _ (Str.ofString "__module__") = some v0 from by kernel_rfl!).symm.trans q)), (fun _ e => by cases e)⟩
theorem KDes.sort {aK : Addr} {o : Obj} (x : KDes aK o) : KSort o := by
  obtain ⟨td, rfl⟩ := x
  exact ⟨⟨by simp [desO], by simp [desO], by simp [desO]⟩, (fun _ _ e => by cases e), (fun _ e => by cases e)⟩
theorem KFn.sort {i : Nat} {nm qual : Str} {cl : List (Str × Addr)} {aC : Addr} {o : Obj} (x : KFn i nm qual cl aC o) : KSort o := by
  obtain ⟨pm, ct, rfl⟩ := x
  exact ⟨⟨by simp, by simp, by simp⟩, (fun _ _ e => by cases e), (fun _ e => by cases e)⟩
theorem KCo.sort {qual : Str} {o : Obj} (x : KCo qual o) : KSort o := by
  obtain ⟨oL, cL0, uL, rL, lL, rfl⟩ := x
  exact ⟨⟨by simp, by simp, by simp⟩, (fun _ _ e => by cases e), (fun _ e => by cases e)⟩
theorem cell_sort : KSort (Obj.mk (.type "cell") none (.cell (some (.ref 121))) #[]) := ⟨⟨by simp, by simp, by simp⟩, (fun _ _ e => by cases e), (fun _ e => by cases e; rfl)⟩
theorem KB.move {h h' : Heap} {aK : Addr} (b : KB h aK) (go : ∀ a o, h.get? a = some o → KSort o → h'.get? a = some o) : KB h' aK := by
  obtain ⟨aN, aD, aLt, aCell, aCd, aIn, aCe, oK, oN, oD, oL, oC, oI, oE, x⟩ := b
  exact ⟨aN, aD, aLt, aCell, aCd, aIn, aCe, oK, oN, oD, oL, oC, oI, oE, ⟨go _ _ x.hK x.iK.sort, x.iK, go _ _ x.hN x.iN.sort, x.iN, go _ _ x.hD x.iD.sort, x.iD, go _ _ x.hLt x.iLt.sort, x.iLt, go _ _ x.hCell cell_sort, go _ _ x.hCd x.iCd.sort, x.iCd, go _ _ x.hIn x.iIn.sort, x.iIn, go _ _ x.hCe x.iCe.sort, x.iCe⟩⟩
theorem KB.keep {h h' : Heap} {aK : Addr} (b : KB h aK) (k : Keep h h') : KB h' aK := b.move fun a o e _ => k a o e
theorem KB.cls {h : Heap} {aK : Addr} (b : KB h aK) : ∃ aN sl0 sl1 sl2 sl3 sl4 sl5, h.get? aK = some (Obj.mk (.type "type") none (.cls (clsD aK aN)) #[sl0, sl1, sl2, sl3, sl4, sl5]) := by
  obtain ⟨aN, aD, aLt, aCell, aCd, aIn, aCe, oK, oN, oD, oL, oC, oI, oE, x⟩ := b
  obtain ⟨bT, t0, yq, e⟩ := x.iK
  exact ⟨_, _, _, _, _, _, _, e ▸ x.hK⟩
theorem p_isType2 : isType (.type "type") = pure true := by kernel_rfl
theorem p_dgi : typeLookup (.type "dict") "__getitem__" = pure (some (.builtin "dict.__getitem__")) := by kernel_rfl
theorem kScope_c : kScope.names.lookup ("__class__" : Str) = none := by kernel_rfl
theorem kScope_d : kScope.names.lookup ("__classdict__" : Str) = none := by kernel_rfl
theorem p_clo (L cell : Addr) : closureFor kScope (env56 L cell) = pure [(Str.ofString "mycmp", cell)] := by kernel_rfl
set_option maxHeartbeats 4000000 in
theorem bc_c {w : World} {A : Around} {h : Heap} {g : Array GenState} {d : Drawn} {t : Nat} {os : OsState} {L cell : Addr} {Q : Value → Shared → Prop} {E : Value → Shared → Prop}
    (hA : Low A 12) (B : Amb w (h.hide 51)) (h51 : h.get? 51 = some (tabObj #[])) (hL : h.get? L = some (Obj.mk (.type "frame") none (.dict #[] 0) #[])) (hcell : h.get? cell = some (Obj.mk (.type "cell") none (.cell (some (.ref 121))) #[]))
    (k : ∀ aK h' t', Keep (h.hide 51) h' → KB h' aK → (∃ vs, h'.get? 51 = some (tabObj vs)) → Q (.ref aK) ⟨h', g, d, t', os⟩) :
    wpAny (model PP w) A (buildClass (Str.ofString "K") (Str.ofString "cmp_to_key.<locals>.K") [.type "object"] [] kBody kScope [Str.ofString "obj"] 47 (env56 L cell) kPos none) Q E ⟨h, g, d, t, os⟩ := by
  have D := Mem.start h
  have KX : (Kc w.params).In h := Frag.In.keeps B.X (fun b o e => Heap.of_hide e)
  unfold buildClass
  repeat (first | (with_reducible first | refine wpAny_pure ?_ | refine wpAny_bind ?_ | refine wpAny_holding ?_ | refine wpAny_standAt ?_ | refine wpAny_point ?_ | refine wpAny_rule ?_ | refine wpAny_fresh' ?_ | refine w_if_false (by assumption) ?_ | refine w_forIn_nil ?_ | refine w_forIn_cons ?_) | ((with_reducible apply wpAny_load'); focus ((first | assumption | exact Mem.at (by assumption) 0 _ _ rfl | exact Mem.at (by assumption) 1 _ _ rfl | exact Mem.at (by assumption) 2 _ _ rfl | exact Mem.at (by assumption) 3 _ _ rfl | exact Mem.at (by assumption) 4 _ _ rfl | exact Mem.old (by assumption) _ _ (by assumption) rfl | exact mem_old0 (by assumption) (by assumption)); done)) | ((with_reducible apply wpAny_loadPart'); focus ((first | assumption | exact Mem.at (by assumption) 0 _ _ rfl | exact Mem.at (by assumption) 1 _ _ rfl | exact Mem.at (by assumption) 2 _ _ rfl | exact Mem.at (by assumption) 3 _ _ rfl | exact Mem.at (by assumption) 4 _ _ rfl | exact Mem.old (by assumption) _ _ (by assumption) rfl | exact mem_old0 (by assumption) (by assumption)); done)) | ((with_reducible apply wpAny_ite_false); focus ((first | with_reducible rfl | kernel_rfl!); done)) | ((with_reducible apply wpAny_ite_true); focus ((first | with_reducible rfl | kernel_rfl!); done)) | ((with_reducible show wpAny _ _ (forIn _ _ _) _ _ _); first | refine w_forIn_nil ?_ | refine w_forIn_cons ?_ | refine w_forInA ?_) | ((with_reducible show wpAny _ _ (newObj _ _ _) _ _ _); refine m_newObj (by assumption) (by kernel_rfl!) (by size_fits) ?_; intro _ _ _) | ((with_reducible show wpAny _ _ (alloc _) _ _ _); refine m_alloc (by assumption) (by kernel_rfl!) ?_; intro _ _ _) | ((with_reducible show wpAny _ _ (updatePart _ _ _) _ _ _); (first | refine m_updatePart (by assumption) 0 rfl (by kernel_rfl!) ?_ | refine m_updatePart (by assumption) 1 rfl (by kernel_rfl!) ?_ | refine m_updatePart (by assumption) 2 rfl (by kernel_rfl!) ?_); intro _ _) | ((with_reducible show wpAny _ _ (update _ _) _ _ _); (first | refine m_update (by assumption) 0 rfl (by kernel_rfl!) ?_ | refine m_update (by assumption) 1 rfl (by kernel_rfl!) ?_ | refine m_update (by assumption) 2 rfl (by kernel_rfl!) ?_); intro _ _) | ((with_reducible show wpAny _ _ (isType (Value.type _)) _ _ _); first | refine wpAny_of_eq p_isType ?_ | refine wpAny_of_eq p_isType2 ?_) | ((with_reducible show wpAny _ _ (typeOf (Value.type _)) _ _ _); first | refine wpAny_of_eq p_typeOf ?_ | refine wpAny_of_eq p_tt ?_) | ((with_reducible show wpAny _ _ (isSubtype _ _) _ _ _); first | refine wpAny_of_eq p_sub3 ?_) | ((with_reducible show wpAny _ _ (specialOf _ "__getitem__") _ _ _); refine wpAny_specialOf (show Shared.TypeIs _ _ "dict" from ⟨_, by (first | assumption | exact Mem.at (by assumption) 0 _ _ rfl | exact Mem.at (by assumption) 1 _ _ rfl | exact Mem.at (by assumption) 2 _ _ rfl | exact Mem.at (by assumption) 3 _ _ rfl | exact Mem.at (by assumption) 4 _ _ rfl | exact Mem.old (by assumption) _ _ (by assumption) rfl | exact mem_old0 (by assumption) (by assumption)), rfl⟩) p_dgi ?_) | ((with_reducible show wpAny _ _ (getAttr? _ _) _ _ _); refine prep_attr (by assumption) (Frag.In.keeps (by assumption) (memKeep (by assumption))) ?_) | ((with_reducible show wpAny _ _ (classCode _ _ _ _ _ _) _ _ _); refine classCode_c (c := 55) (P := 51) (ps := #[]) rfl ?_ ?_ True.intro rfl ?_) | wp_delta)
  rename_i bT hx D1
  intro x h2 t2 k2 hx2
  have KX2 : (Kc w.params).In h2 := Frag.In.keeps KX (fun b o e => k2 _ _ (mem_old0 D1 e))
  have hb2 := k2 _ _ (Mem.at D1 0 _ _ rfl)
  have hk2 : Keep h h2 := fun b o e => k2 _ _ (mem_old0 D1 e)
  have k2' : ∀ b o, h.get? b = some o → h2.get? b = some o := hk2
  clear D1 D
  refine wpAny_bind ?_
  refine noE (hA.run (wpAny_mono (prep_x KX2 hx2) ?_ (fun _ _ x => x.elim)))
  rintro _ ⟨h3, g3, d3, t3, o3⟩ ⟨N, rfl, hN, nN, k3, rfl, rfl, rfl⟩
  have hne : (N == sysModules) = false := by
    have e : ∃ o, h2.get? sysModules = some o := ⟨_, KX2 sysModules _ rfl⟩
    obtain ⟨o, e⟩ := e
    have : N ≠ sysModules := fun q => by rw [q] at nN; rw [nN] at e; cases e
    simpa using this
  have hk3 : Keep h h3 := fun b o e => k3 _ _ (hk2 b o e)
  repeat (first | (with_reducible first | refine wpAny_pure ?_ | refine wpAny_bind ?_ | refine wpAny_holding ?_ | refine wpAny_standAt ?_ | refine wpAny_point ?_ | refine wpAny_rule ?_ | refine wpAny_fresh' ?_ | refine w_if_false (by assumption) ?_ | refine w_forIn_nil ?_ | refine w_forIn_cons ?_) | ((with_reducible apply wpAny_load'); focus ((first | assumption | exact Mem.at (by assumption) 0 _ _ rfl | exact Mem.at (by assumption) 1 _ _ rfl | exact Mem.at (by assumption) 2 _ _ rfl | exact Mem.at (by assumption) 3 _ _ rfl | exact Mem.at (by assumption) 4 _ _ rfl | exact Mem.old (by assumption) _ _ (by assumption) rfl | exact mem_old0 (by assumption) (by assumption)); done)) | ((with_reducible apply wpAny_loadPart'); focus ((first | assumption | exact Mem.at (by assumption) 0 _ _ rfl | exact Mem.at (by assumption) 1 _ _ rfl | exact Mem.at (by assumption) 2 _ _ rfl | exact Mem.at (by assumption) 3 _ _ rfl | exact Mem.at (by assumption) 4 _ _ rfl | exact Mem.old (by assumption) _ _ (by assumption) rfl | exact mem_old0 (by assumption) (by assumption)); done)) | ((with_reducible apply wpAny_ite_false); focus ((first | with_reducible rfl | kernel_rfl!); done)) | ((with_reducible apply wpAny_ite_true); focus ((first | with_reducible rfl | kernel_rfl!); done)) | ((with_reducible show wpAny _ _ (forIn _ _ _) _ _ _); first | refine w_forIn_nil ?_ | refine w_forIn_cons ?_ | refine w_forInA ?_) | ((with_reducible show wpAny _ _ (newObj _ _ _) _ _ _); refine m_newObj (by assumption) (by kernel_rfl!) (by size_fits) ?_; intro _ _ _) | ((with_reducible show wpAny _ _ (alloc _) _ _ _); refine m_alloc (by assumption) (by kernel_rfl!) ?_; intro _ _ _) | ((with_reducible show wpAny _ _ (updatePart _ _ _) _ _ _); (first | refine m_updatePart (by assumption) 0 rfl (by kernel_rfl!) ?_ | refine m_updatePart (by assumption) 1 rfl (by kernel_rfl!) ?_ | refine m_updatePart (by assumption) 2 rfl (by kernel_rfl!) ?_); intro _ _) | ((with_reducible show wpAny _ _ (update _ _) _ _ _); (first | refine m_update (by assumption) 0 rfl (by kernel_rfl!) ?_ | refine m_update (by assumption) 1 rfl (by kernel_rfl!) ?_ | refine m_update (by assumption) 2 rfl (by kernel_rfl!) ?_); intro _ _) | ((with_reducible show wpAny _ _ (isType (Value.type _)) _ _ _); first | refine wpAny_of_eq p_isType ?_ | refine wpAny_of_eq p_isType2 ?_) | ((with_reducible show wpAny _ _ (typeOf (Value.type _)) _ _ _); first | refine wpAny_of_eq p_typeOf ?_ | refine wpAny_of_eq p_tt ?_) | ((with_reducible show wpAny _ _ (isSubtype _ _) _ _ _); first | refine wpAny_of_eq p_sub3 ?_) | ((with_reducible show wpAny _ _ (specialOf _ "__getitem__") _ _ _); refine wpAny_specialOf (show Shared.TypeIs _ _ "dict" from ⟨_, by (first | assumption | exact Mem.at (by assumption) 0 _ _ rfl | exact Mem.at (by assumption) 1 _ _ rfl | exact Mem.at (by assumption) 2 _ _ rfl | exact Mem.at (by assumption) 3 _ _ rfl | exact Mem.at (by assumption) 4 _ _ rfl | exact Mem.old (by assumption) _ _ (by assumption) rfl | exact mem_old0 (by assumption) (by assumption)), rfl⟩) p_dgi ?_) | ((with_reducible show wpAny _ _ (getAttr? _ _) _ _ _); refine prep_attr (by assumption) (Frag.In.keeps (by assumption) (memKeep (by assumption))) ?_) | ((with_reducible show wpAny _ _ (classCode _ _ _ _ _ _) _ _ _); refine classCode_c (c := 55) (P := 51) (ps := #[]) rfl ?_ ?_ True.intro rfl ?_) | wp_delta)
  · exact ⟨_, _, _, _, _, _, _, _, _, Frag.In.keeps KX hk3 55 _ rfl, rfl, rfl, rfl, rfl, rfl, rfl, rfl, rfl, by decide⟩
  · exact hk3 _ _ h51
  rintro c P h4 t4 x4 nc nP C4 hP4 ⟨v51, e51⟩
  have n51 : (h.hide 51).get? 51 = none := Heap.hide_self _ _
  have ne51 : ∀ b o, (h.hide 51).get? b = some o → b ≠ 51 := fun b o e q => by rw [q, n51] at e; cases e
  have g4 : Keep (h.hide 51) h4 := fun b o e => x4 b o (ne51 b o e) (hk3 _ _ (Heap.of_hide e))
  have hk34 : ∀ b o, h3.get? b = some o → b ≠ 51 → h4.get? b = some o := fun b o e ne => x4 b o ne e
  have ne3 : ∀ (b : Addr) (o : Obj), h3.get? b = some o → o.cls ≠ .none → b ≠ 51 := fun b o e ne q => by rw [q, hk3 _ _ h51] at e; cases e; exact ne rfl
  have hN4 := hk34 _ _ hN (ne3 _ _ hN (by decide))
  have hb4 := hk34 _ _ (k3 _ _ hb2) (ne3 _ _ (k3 _ _ hb2) (by simp))
  have hc4 := hk34 _ _ (hk3 _ _ hcell) (ne3 _ _ (hk3 _ _ hcell) (by simp))
  obtain ⟨mg, G⟩ := B.G
  have eb : mg (Str.ofString "__builtins__") = some (.ref 4) := mg_of B.X G rfl
  refine wpAny_bind ?_
  refine wpAny_builtinsFor (G.keeps g4) eb (by decide) (Frag.In.keeps B.X g4 4 _ rfl) rfl rfl rfl ?_
  refine wpAny_bind ?_
  unfold newBodyFrame
  refine wpAny_bind (wpAny_nsGet (G.keeps g4) ?_)
  refine wpAny_alloc ?_
  have hk45 : Keep h4 (h4.push { cls := .type "frame", slots := #[some (Value.ref c), some (.ref (env56 L cell).globals), some (.ref N), none, some ((mg (Str.ofString "__name__")).getD .none), none, some (.ref builtinsNs)] }) := fun b o e => Heap.get?_push_of_some _ e
  generalize h4.push { cls := .type "frame", slots := #[some (Value.ref c), some (.ref (env56 L cell).globals), some (.ref N), none, some ((mg (Str.ofString "__name__")).getD .none), none, some (.ref builtinsNs)] } = h5 at hk45
  generalize h4.objs.size = fr
  have neN : ∀ {a : Addr} {o : Obj}, (h.hide 51).get? a = some o → a ≠ N := fun e q => by
    have e2 := k2' _ _ (Heap.of_hide e)
    rw [q, nN] at e2; cases e2
  have gN : (h.hide 51).get? N = none := by
    cases e : (h.hide 51).get? N with
    | none => rfl
    | some o => exact absurd rfl (neN e)
  have gP : (h.hide 51).get? P = none := by
    cases e : (h.hide 51).get? P with
    | none => rfl
    | some o => have := hk3 _ _ (Heap.of_hide e); rw [nP] at this; cases this
  have S0 : CB (h.hide 51) c P N #[] #[] 0 [(bT, Obj.mk (.type "tuple") none (.seq #[.type "object"] 0) #[]), (cell, Obj.mk (.type "cell") none (.cell (some (.ref 121))) #[]), (51, tabObj v51)] h4 := {
    old := g4
    gP := gP
    gN := gN
    hc := C4
    hP := hP4
    hN := hN4
    fs := by
      have apart : ∀ (a : Addr) (o : Obj), h3.get? a = some o → a ≠ P := fun a o e q => by rw [q, nP] at e; cases e
      intro p hp
      simp only [List.mem_cons, List.not_mem_nil, or_false] at hp
      rcases hp with rfl | rfl | rfl
      · exact ⟨hb4, apart _ _ (k3 _ _ hb2), fun q => by have e := hb4; dsimp only at q; rw [q, hN4] at e; simp at e⟩
      · exact ⟨hc4, apart _ _ (hk3 _ _ hcell), fun q => by have e := hc4; dsimp only at q; rw [q, hN4] at e; simp at e⟩
      · exact ⟨e51, apart _ _ (hk3 _ _ h51), fun q => by have e := hk2 _ _ h51; dsimp only at q; rw [q, nN] at e; cases e⟩ }
  have S1 := S0.keep hk45
  refine wpAny_bind ?_
  refine wpAny_of_eq (p_clo L cell) ?_
  refine wpAny_holding ?_
  refine wpAny_bind ?_
  have hroom : A.depth < recursionLimit := Low.room hA
  refine wpAny_enterFrame (nolimit_of (Frag.In.keeps B.X S1.old)) hroom ?_
  have hce : ({ scope := kScope, locals := N, globals := (env56 L cell).globals,
                    cells :=
                      (Option.map (fun x => (Str.ofString "__class__", x)) (none : Option Addr)).toList ++
                          (Option.map (fun x => (Str.ofString "__classdict__", x)) (none : Option Addr)).toList ++
                        [(Str.ofString "mycmp", cell)],
                    qual := Str.ofString "cmp_to_key.<locals>.K" ++ Str.ofString ".", code := Value.ref c,
                    frame := some fr, builtins := builtinsNs } : Env) = cenv c N fr cell := by kernel_rfl!
  rw [hce]
  refine wpAny_bind (wpAny_onRaise ?_)
  have hn0 : ∃ v, mg (Str.ofString "__name__") = some v := ⟨_, mg_of B.X G rfl⟩
  obtain ⟨vn, hn0⟩ := hn0
  refine wpAny_bind ?_
  refine ln_c S1.hN (by kernel_rfl!) (G.keeps S1.old) hn0 ?_
  refine wpAny_bind ?_
  refine cls_store (f := fun hh tk => #[de hh "__module__" tk vn]) (n' := 1) (kn_module c N fr cell) (ce_kind c N fr cell) S1.hN (by kernel_rfl!) (fun _ _ => by kernel_rfl!) ?_
  intro q0 z0 h6 t6 x6 e6
  have S2 := S1.store x6 e6
  refine wpAny_bind (wpAny_mkText ?_)
  refine wpAny_bind ?_
  refine cls_store0 (f := fun hh tk => #[de q0 "__module__" z0 vn, de hh "__qualname__" tk (.str kQual t6)]) (n' := 2) (ce_qn c N fr cell) (ce_kind c N fr cell) (by rw [ce_bk]; decide) own_qn S2.hN (by kernel_rfl!) (fun _ _ => by kernel_rfl!) ?_
  intro q1 z1 h7 t7 x7 e7
  have S3 := S2.store x7 e7
  refine wpAny_bind (wpAny_mkInt' ?_)
  refine wpAny_bind ?_
  refine cls_store0 (f := fun hh tk => #[de q0 "__module__" z0 vn, de q1 "__qualname__" z1 (.str kQual t6), de hh "__firstlineno__" tk (.int 47 t7)]) (n' := 3) (ce_fl c N fr cell) (ce_kind c N fr cell) (by rw [ce_bk]; decide) own_fl S3.hN (by kernel_rfl!) (fun _ _ => by kernel_rfl!) ?_
  intro q2 z2 h8 t8 x8 e8
  have S4 := S3.store x8 e8
  refine wpAny_pure ?_
  dsimp only
  refine wpAny_bind (wpAny_run (codeAny_body kBody_ann kBody_doc ?_))
  refine body_c S4 G ⟨4, _, eb, by decide, by decide, (fun q => by have e := Frag.In.keeps KX hk3 4 _ rfl; rw [q, nP] at e; cases e), Frag.In.keeps B.X (fun _ _ e => e) 4 _ rfl, rfl, rfl, rfl⟩ ?_
  intro ps' tM aSl zs q3 q4 q5 q6 q7 q8 q9 q10 z3 z4 z5 z6 z7 z8 z9 z10 fI fL fG fE fM fH cI cL cG cE cM cH tI tL tG tE tM' tH oI oL oG oE oM oH nI nL nG nE nM nH uI uL uG uE uM uH rI rL rG rE rM rH lI lL lG lE lM lH h9 t9 S5
  dsimp only
  refine wpAny_bind (wpAny_onRaise ?_)
  refine wpAny_bind (wpAny_mkStrs fun vs => ?_)
  refine wpAny_bind (wpAny_newTextTuple ?_)
  have kl : Keep h9 (h9.push (Obj.mk (.type "tuple") none (.seq vs.toArray 0) #[])) := fun b o e => Heap.get?_push_of_some _ e
  have hl : (h9.push (Obj.mk (.type "tuple") none (.seq vs.toArray 0) #[])).get? h9.objs.size = some (Obj.mk (.type "tuple") none (.seq vs.toArray 0) #[]) := Heap.get?_push_size _ rfl
  have nl : h9.get? h9.objs.size = none := Heap.get?_none_of_le (Nat.le_refl _)
  dsimp only
  generalize h9.push (Obj.mk (.type "tuple") none (.seq vs.toArray 0) #[]) = ha at kl hl ⊢
  generalize h9.objs.size = aSt at hl nl ⊢
  have S6 := (S5.keep kl).add hl (fun q => by have e := S5.hP; rw [← q, nl] at e; cases e) (fun q => by have e := S5.hN; rw [← q, nl] at e; cases e)
  refine wpAny_bind ?_
  refine cls_store0 (f := fun hh tk => entriesK q0 q1 q2 q3 q4 q5 q6 q7 q8 q9 q10 hh z0 z1 z2 z3 z4 z5 z6 z7 z8 z9 z10 tk t6 (.str (Str.ofString "cpy313.functools") tM) (.int 47 t7) aSl fI fL fG fE fM fH aSt) (n' := 12) (ce_sa c N fr cell) (ce_kind c N fr cell) (by rw [ce_bk]; decide) own_sa S6.hN (by kernel_rfl!) (fun _ _ => by kernel_rfl!) ?_
  intro q11 z11 hb' tb xb eb'
  have S7 := S6.store xb eb'
  refine wpAny_pure ?_
  refine wpAny_ite_false rfl ?_
  refine wpAny_bind ?_
  have F := S7.fs
  simp only [List.forall_mem_cons] at F
  obtain ⟨⟨fSt, _⟩, ⟨ffH, _⟩, ⟨fcH, _⟩, ⟨ffM, _⟩, ⟨fcM, _⟩, ⟨ffE, _⟩, ⟨fcE, _⟩, ⟨ffG, _⟩, ⟨fcG, _⟩, ⟨ffL, _⟩, ⟨fcL, _⟩, ⟨ffI, _⟩, ⟨fcI, _⟩, ⟨fSl, _⟩, ⟨fbT, _⟩, ⟨fcell, _⟩, ⟨f51, _⟩, _⟩ := F
  have KXb : (Kc w.params).In hb' := Frag.In.keeps B.X S7.old
  refine ctype_c (P := fun aK h' => (Kc w.params).In h' ∧ Keep (h.hide 51) h' ∧ KB h' aK ∧ h'.get? 51 = some (tabObj v51)) (fun A Q E hA4 kk => tnew KXb fbT S7.hN ffI rfl ffL rfl ffG rfl ffE rfl ffM rfl ffH rfl fSt rfl hne fSl hA4 ?_) (hA.less (by decide)) ?_ ?_
  · intro aK aN aD td ho to hd tD h' t' kp e1 e2 e3
    refine kk aK h' t' ⟨Frag.In.keeps KXb kp, fun b o e => kp _ _ (S7.old _ _ e), ?_, kp _ _ f51⟩
    exact ⟨aN, aD, fL, cell, cL, fI, cI, _, _, _, _, _, _, _, ⟨e1, ⟨_, _, _, rfl⟩, e3, ⟨_, _, _, _, _, _, _, _, _, _, _, _, _, _, _, _, _, _, _, _, _, _, _, _, _, _, _, _, _, _, _, _, _, _, rfl⟩, e2, ⟨_, rfl⟩, kp _ _ ffL, ⟨_, _, rfl⟩, kp _ _ fcell, kp _ _ fcL, ⟨_, _, _, _, _, rfl⟩, kp _ _ ffI, ⟨_, _, rfl⟩, kp _ _ fcI, ⟨_, _, _, _, _, rfl⟩⟩⟩
  · rintro aK h' ⟨e1, _, e3, _⟩
    exact ⟨e1, e3.cls⟩
  · rintro aK h' h'' t' ⟨e1, e2, e3, e4⟩ kp
    exact wpAny_pure (k aK h'' t' (fun b o e => kp _ _ (e2 b o e)) (e3.keep kp) ⟨_, kp _ _ e4⟩)
end Mine
end
section
open PySem PySem.W PySem.W.X PyProof.Rows PySem.Spec PySem.Calls
set_option Elab.async false
set_option maxRecDepth 100000
set_option linter.unusedVariables false
set_option pp.maxSteps 300
namespace Mine
section
variable {M : Model} {A : Around} {E : Value → Shared → Prop} {s : Shared}
theorem ea_c {f : Value} {args : List (Bool × Sem Value)} {Q : Args → Shared → Prop} (h : wpAny M A (spliced args) (fun vs s' => Q ⟨vs, []⟩ s') E s) : wpAny M A (evalArgs f false args []) Q E s := by
  unfold evalArgs
  show wpAny M A (spliced args >>= _) Q E s
  refine wpAny_bind (wpAny_mono h (fun vs s' h' => ?_) fun _ _ x => x)
  refine wpAny_bind (wpAny_pure ?_)
  refine wpAny_holding ?_
  exact wpAny_bind (wpAny_pure (wpAny_bind (wpAny_pure (wpAny_pure h'))))
end
theorem KB.ext {h h' : Heap} {aK L : Addr} (b : KB h aK) (k : Heap.SameBut L h h') (hL : h.get? L = some (Obj.mk (.type "frame") none (.dict #[] 0) #[])) : KB h' aK :=
  b.move fun a o e s => k.extBut a o (fun q => by rw [q, hL] at e; cases e; exact s.1.1 rfl) e
theorem kq56 (L cell : Addr) : qualnameIn (env56 L cell) (Str.ofString "K") (Str.ofString "K") = Str.ofString "cmp_to_key.<locals>.K" := by kernel_rfl
theorem kf56 : firstLineOf [] kPos = 47 := by kernel_rfl
theorem kk56 (L cell : Addr) : (env56 L cell).kindOf (Str.ofString "K") = some .local := by kernel_rfl
theorem ko56 (L cell : Addr) : (env56 L cell).kindOf (Str.ofString "object") = some .globalImplicit := by kernel_rfl
theorem kf (L cell : Addr) : (env56 L cell).scope.kind = .function := by kernel_rfl
theorem q56' : (Str.ofString "cmp_to_key" ++ ".<locals>." : Str) = Str.ofString "cmp_to_key.<locals>." := by kernel_rfl
set_option maxHeartbeats 2000000 in
theorem cmpkey_c {w : World} {A : Around} {h : Heap} {g : Array GenState} {d : Drawn} {t : Nat} {os : OsState} {Q : Value → Shared → Prop}
    (hA : Low A 20) (B : Amb w (h.hide 51)) (h51 : h.get? 51 = some (tabObj #[]))
    (k : ∀ aK h' t', Keep (h.hide 51) h' → KB h' aK → (∃ vs, h'.get? 51 = some (tabObj vs)) → Q (.ref aK) ⟨h', g, d, t', os⟩) :
    wpAny (model PP w) A (call (.ref 56) [.ref 121]) Q (fun _ _ => False) ⟨h, g, d, t, os⟩ := by
  have X : (Kc w.params).In h := Frag.In.keeps B.X (fun b o e => Heap.of_hide e)
  refine wpAny_call (codeAny_call_function (fd := fd56 w.params) (body := cBody) hA.room (X _ _ (l56 w.params)) (d56 w.params) (by rw [s56]; kernel_rfl!) (by rw [s56]; kernel_rfl!) (b56 w.params) (by rw [k56, q56]; exact codeRec_of X (h56 _)) ?_)
  refine wpAny_of_eq (ba56 w.params) ?_
  rw [s56, g56, c56, q56, k56, u56, q56']
  refine env_c ?_
  intro L cell h1 t1 D
  have k1 : Keep h h1 := fun b o e => mem_old0 D e
  have X1 := Frag.In.keeps X k1
  refine ⟨nolimit_of X1, codeAny_func ?_⟩
  have hA1 : Low (A.deeper (env56 L cell)) 19 := hA.deeper _
  have hL := Mem.at D 1 _ _ rfl
  have hcell := Mem.at D 0 _ _ rfl
  have n51L : L ≠ 51 := fun q => by have e := (Mem.nw D _ (List.Mem.tail _ (List.Mem.head _))).2; dsimp only at e; rw [q, h51] at e; cases e
  rw [cBody_eq]
  refine wpAny_execs_cons ?_
  rw [clsSt_eq, arm_exec_ClassDef]
  refine wpAny_bind (wpAny_pure ?_)
  refine wpAny_bind (wpAny_standAt ?_)
  refine wpAny_bind ?_
  unfold buildClassGuard
  have k1' : Keep (h.hide 51) (h1.hide 51) := fun b o e => by
    have ne : b ≠ 51 := fun q => by rw [q, Heap.hide_self] at e; cases e
    exact (Heap.hide_ne h1 ne).trans (k1 b o (Heap.of_hide e))
  have B1 : Amb w (h1.hide 51) := B.keep k1'
  obtain ⟨mb, Bn, Bb⟩ := B.B
  have Bn1 : h1.Ns builtinsNs mb := Bn.keeps (fun b o e => k1 _ _ (Heap.of_hide e))
  refine wpAny_bind (wpAny_nsGet Bn1 ?_)
  rw [(Bb _ (by decide)).trans (show bootBuiltins (Str.ofString "__build_class__") = some (.builtin "__build_class__") from by kernel_rfl)]
  refine wpAny_pure ?_
  refine wpAny_bind (wpAny_holding ?_)
  rw [kBases_eq]
  refine wpAny_bind (ea_c ?_)
  refine args_cons ?_
  refine nm_built B1 (fun b o e => Heap.of_hide e) rfl (show bootBuiltins (Str.ofString "object") = some (.type "object") from by kernel_rfl) ?_ (by decide) (kf L cell) (ko56 L cell)
  refine args_nil ?_
  refine wpAny_bind (wpAny_standAt ?_)
  refine wpAny_holding ?_
  rw [kq56, kf56]
  refine bc_c (hA1.less (by decide)) B1 (k1 _ _ h51) hL hcell ?_
  rintro aK h2 t2 kp kb ⟨v51, e51⟩
  have hL2 : h2.get? L = some (Obj.mk (.type "frame") none (.dict #[] 0) #[]) := kp _ _ ((Heap.hide_ne h1 n51L).trans hL)
  have Ns2 : h2.Ns L (fun _ => none) := ⟨_, #[], 0, hL2, rfl, (fun e he => by simp at he), fun _ => rfl⟩
  refine wpAny_bind (wpAny_pure ?_)
  refine wpAny_bind (wpAny_standAt ?_)
  refine wpAny_bind (wpAny_bindName ?_)
  refine wpAny_storeName_local (kk56 L cell) Ns2 (fun h3 hn3 hs3 => ?_) (by rw [kf]; rfl)
  refine wpAny_pure ?_
  dsimp only
  refine wpAny_execs_cons ?_
  rw [retSt_eq]
  refine wpAny_Return_some ?_
  refine wpAny_Name (wpAny_loadName_local (kf L cell) (kk56 L cell) hn3 (if_pos rfl) ?_) (by decide)
  dsimp only
  have nL : h.get? L = none := (Mem.nw D _ (List.Mem.tail _ (List.Mem.head _))).2
  refine k aK h3 _ (fun b o e => hs3.extBut b o (fun q => by rw [q] at e; have e' := Heap.of_hide e; rw [nL] at e'; cases e') (kp _ _ (k1' _ _ e))) ?_ ?_
  · exact kb.ext hs3 hL2
  · exact ⟨v51, hs3.extBut _ _ (Ne.symm n51L) e51⟩
end Mine
end
section
open PySem PySem.W PySem.W.X PyProof.Rows PySem.Spec PySem.Calls
set_option Elab.async false
set_option maxRecDepth 100000
set_option linter.unusedVariables false
set_option pp.maxSteps 300
namespace Mine
/-- what the class K says, as the library's heap fragments are asked -/
structure KX (fr : Frag) (aK aD aIn : Addr) : Prop where
  get : plainGet fr aK (Str.ofString "obj") = true
  cls : isClsIn fr aK = true
  obj : findIn fr (.ref aK) (Str.ofString "obj") = some (some (.ref aD))
  dg : specialIn fr (.ref aD) "__get__" = some (some (.builtin "member_descriptor.__get__"))
  ds : takesIn fr (.ref aD) = some true
  slot : slotIn fr aD aK = some 0
  seta : findIn fr (.ref aK) "__setattr__" = some (some (.builtin "object.__setattr__"))
  over : plainOver fr aK = true
  tD : typeIn fr (.ref aD) = some (.type "member_descriptor")
  makes : makesIn fr aK = true
  init : findIn fr (.ref aK) "__init__" = some (some (.ref aIn))
  tIn : typeIn fr (.ref aIn) = some (.type "function")
theorem KX.taker {fr : Frag} {aK aD aIn : Addr} (x : KX fr aK aD aIn) : takerIn fr aK (Str.ofString "obj") = some (some (.ref aD)) := by
  unfold takerIn
  rw [x.obj, Option.bind_some]
  dsimp only
  rw [x.ds]
  rfl
section
variable {fr : Frag} {aK aN aD aIn bT : Addr} {t0 yq td : Tok} {es : Array DictEntry} {oI : Obj}
theorem kx_own (L1 : fr.lookup aK = some (clsR aK aN bT t0 yq)) (L2 : fr.lookup aN = some (nsR es 3)) (nm : Str) {r : Option (Option Value)}
    (e : (match (match es.toList.find? (·.key.isStr nm) with | some e => some (some e.val) | none => if es.toList.any (·.refKey) then none else some none) with
      | some (some v) => some (some v)
      | some none => alongIn fr nm [.type "object"]
      | none => none) = r) : findIn fr (.ref aK) nm = r := by
  unfold findIn
  dsimp only
  rw [L1]
  show alongIn fr nm [.ref aK, .type "object"] = r
  rw [alongIn, ownIn, L1]
  show (match nsIn fr aN nm with | some (some v) => some (some v) | some none => alongIn fr nm [.type "object"] | none => none) = r
  rw [nsIn, L2]
  exact e
theorem kx_cls (L1 : fr.lookup aK = some (clsR aK aN bT t0 yq)) : clsIn fr aK = some (clsD aK aN) := by
  unfold clsIn
  rw [L1]
  rfl
end
theorem in_nil {h : Heap} : Frag.In [] h := fun a o e => by cases e
theorem in_cons {K : Frag} {h : Heap} {a : Addr} {o : Obj} (ha : h.get? a = some o) (x : Frag.In K h) : Frag.In ((a, o) :: K) h := by
  intro b p e
  rw [List.lookup_cons] at e
  split at e
  · rename_i q
    cases e
    rw [beq_iff_eq.mp q]; exact ha
  · exact x _ _ e
theorem lk_ne {K : Frag} {a b : Addr} {o : Obj} (n : a ≠ b) : ((b, o) :: K : Frag).lookup a = K.lookup a := by
  rw [List.lookup_cons, beq_false_of_ne n]
theorem lk_self {K : Frag} {a : Addr} {o : Obj} : ((a, o) :: K : Frag).lookup a = some o := List.lookup_cons_self
theorem KB1.kx {h : Heap} {aK aN aD aLt aCell aCd aIn aCe : Addr} {oK oN oD oL oC oI oE : Obj} (b : KB1 h aK aN aD aLt aCell aCd aIn aCe oK oN oD oL oC oI oE) : ∃ fr : Frag, fr.In h ∧ KX fr aK aD aIn := by
  have go : ∀ {a a' : Addr} {o o' : Obj}, h.get? a = some o → h.get? a' = some o' → o.cls ≠ o'.cls → a ≠ a' := fun e e' n q => n (by rw [q, e'] at e; cases e; rfl)
  obtain ⟨bT, t0, yq, eK⟩ := b.iK
  obtain ⟨q0, q2, q3, q4, q5, q6, q7, q8, q9, q10, q11, qo, qd, z0, z2, z3, z4, z5, z6, z7, z8, z9, z10, z11, zo, zd, v0, v2, aSl, aGt, aEq, aLe, aGe, aSt, eN⟩ := b.iN
  obtain ⟨td, eD⟩ := b.iD
  obtain ⟨pm, ct, eI⟩ := b.iIn
  have cK : oK.cls = .type "type" := by rw [eK]; rfl
  have cN : oN.cls = .type "dict" := by rw [eN]; rfl
  have cD : oD.cls = .type "member_descriptor" := by rw [eD]; rfl
  have cI : oI.cls = .type "function" := by rw [eI]
  have L1 : ([(aK, oK), (aN, oN), (aD, oD), (aIn, oI)] : Frag).lookup aK = some oK := lk_self
  have L2 : ([(aK, oK), (aN, oN), (aD, oD), (aIn, oI)] : Frag).lookup aN = some oN := by
    exact (lk_ne (go b.hN b.hK (by rw [cN, cK]; decide))).trans lk_self
  have L3 : ([(aK, oK), (aN, oN), (aD, oD), (aIn, oI)] : Frag).lookup aD = some oD := by
    exact (lk_ne (go b.hD b.hK (by rw [cD, cK]; decide))).trans ((lk_ne (go b.hD b.hN (by rw [cD, cN]; decide))).trans lk_self)
  have L4 : ([(aK, oK), (aN, oN), (aD, oD), (aIn, oI)] : Frag).lookup aIn = some oI := by
    exact (lk_ne (go b.hIn b.hK (by rw [cI, cK]; decide))).trans ((lk_ne (go b.hIn b.hN (by rw [cI, cN]; decide))).trans ((lk_ne (go b.hIn b.hD (by rw [cI, cD]; decide))).trans lk_self))
  refine ⟨_, in_cons b.hK (in_cons b.hN (in_cons b.hD (in_cons b.hIn in_nil))), ?_⟩
  generalize ([(aK, oK), (aN, oN), (aD, oD), (aIn, oI)] : Frag) = fr at L1 L2 L3 L4
  clear go cK cN cD b
  subst eK eN eD
  have T3 : typeIn fr (.ref aD) = some (.type "member_descriptor") := by show (fr.lookup aD).map (·.cls) = _; rw [L3]; rfl
  have T1 : typeIn fr (.ref aK) = some (.type "type") := by show (fr.lookup aK).map (·.cls) = _; rw [L1]; rfl
  have C := kx_cls L1
  have gb : (Value.ref aK == Value.ref aK) = true := beq_self_eq_true _
  refine ⟨?_, ?_, ?_, ?_, ?_, ?_, ?_, ?_, T3, ?_, ?_, ?_⟩
  · unfold plainGet
    rw [kx_own L1 L2 "__getattribute__" (r := some (some (.builtin "object.__getattribute__"))) (by kernel_rfl!), kx_own L1 L2 "__getattr__" (r := some none) (by kernel_rfl!)]
    decide
  · unfold isClsIn; rw [C]; rfl
  · exact kx_own L1 L2 _ (by kernel_rfl!)
  · unfold specialIn; rw [T3, Option.bind_some]; kernel_rfl!
  · unfold takesIn specialIn; rw [T3, Option.bind_some]; kernel_rfl!
  · unfold slotIn recIn
    rw [L3, C]
    show (if ("proto.slot" == "proto.slot" && "proto.slot#set" == "proto.slot#set" && !([Value.ref aK, .type "object"]).isEmpty && ([Value.ref aK, .type "object"]).contains (.ref aK) && decide ((0 : Int).toNat < 1)) = true then some 0 else none) = some 0
    rw [List.contains_cons, gb]
    rfl
  · exact kx_own L1 L2 _ (by kernel_rfl!)
  · unfold plainOver
    rw [C]
    kernel_rfl!
  · unfold makesIn
    rw [L1]
    unfold specialIn instIn
    rw [T1, Option.bind_some, Option.bind_some]
    show (!false && !false && ((#[some (Value.ref bT), none, some (.str (Str.ofString "K") t0), some (.str kQual yq), some (.builtin "object.__new__"), some (.bool false)] : Array (Option Value)).toList[4]?).join == some (.builtin "object.__new__") && !([Value.ref aK, .type "object"]).isEmpty && ([Value.ref aK, .type "object"]).contains (.ref aK) && ([Value.ref aK, .type "object"]).contains (.type "object") && _ && _) = true
    rw [List.contains_cons, gb]
    kernel_rfl!
  · exact kx_own L1 L2 _ (by kernel_rfl!)
  · show (fr.lookup aIn).map (·.cls) = _; rw [L4, Option.map_some, cI]
section
variable {w : World} {A : Around} {s : Shared} {g : Heap} {m : Str → Option Value} {env : Env} {E : Value → Shared → Prop}
theorem ky_name {x : Str} {pos : Pos} {v : Value} {Q : Value → Shared → Prop} (F : Fr g env.locals s.heap m) (hv : m x = some v) (h : Q v s)
    (hk : env.scope.kind = .function := by rfl) (hx : env.kindOf x = some .local := by rfl) (hb : (x == ("__debug__" : Str)) = false := by decide) :
    wpAny (model PP w) A (eval (.Name x pos) env) Q E s := wpAny_Name (wpAny_loadName_local hk hx F.ns hv h) hb
theorem ky_item {x : Str} {p1 p2 p3 : Pos} {i : Int} {ki : Nat} {l : Addr} {vs : Array Value} {v : Value} {Q : Value → Shared → Prop} (F : Fr g env.locals s.heap m) (hv : m x = some (.ref l)) (hl : s.heap.IsList l vs)
    (he : vs[i.toNat]? = some v) (h : ∀ t', Q v { s with toks := t' }) (h0 : 0 ≤ i := by decide) (hf : i < 2 ^ 63 := by decide)
    (hk : env.scope.kind = .function := by rfl) (hx : env.kindOf x = some .local := by rfl) (hb : (x == ("__debug__" : Str)) = false := by decide) :
    wpAny (model PP w) A (eval (.Subscript (.Name x p1) (.Constant (.int i) ki p2) p3) env) Q E s := by
  refine Subscript_ (ky_name F hv ?_ hk hx hb)
  refine wpAny_Constant_int ?_
  exact item_list hl h0 hf he (h _)
end
theorem mul_ok {a b : Int} (h1 : 0 ≤ a) (h2 : a < 4096) : IntMulOk a b := .of_left (PySem.intBits_le_64 (by omega) (by omega))
theorem later_c {w : World} {A : Around} {s : Shared} {l1 l2 : Addr} {n1 a1 b1 k1 n2 a2 b2 k2 : Int} {t1 t2 t3 t4 u1 u2 u3 u4 : Tok} {e1 e2 : Nat} {Q : Value → Shared → Prop}
    (hA : Low A 1) (X : (Kc w.params).In s.heap)
    (h1 : s.heap.get? l1 = some (listOf #[.int n1 t1, .int a1 t2, .int b1 t3, .int k1 t4] e1)) (h2 : s.heap.get? l2 = some (listOf #[.int n2 u1, .int a2 u2, .int b2 u3, .int k2 u4] e2))
    (o1 : 0 ≤ n1) (o2 : n1 < 4096) (r1 : 0 ≤ n2) (r2 : n2 < 4096) (p1 : 0 ≤ n1 * a1) (p2 : n1 * a1 < 4096) (p3 : 0 ≤ n2 * a2) (p4 : n2 * a2 < 4096)
    (k : ∀ h' t' t'', Keep s.heap h' → Q (.int (laterI n1 a1 b1 k1 n2 a2 b2 k2) t'') { s with heap := h', toks := t' }) :
    wpAny (model PP w) A (call (.ref 121) [.ref l1, .ref l2]) Q (fun _ _ => False) s := by
  refine call_static (n := 0) (a := 121) (binds := [(Str.ofString "one", .ref l1), (Str.ofString "two", .ref l2)]) hA X rfl rfl rfl rfl (.of_eq rfl) (by decide) (locs rfl) ?_
  intro A' h₀ L hA' F
  have q1 := PySem.IsL.isList (F.keep _ _ h1)
  have q2 := PySem.IsL.isList (F.keep _ _ h2)
  refine wpAny_execs_cons ?_
  refine wpAny_Assign_Name ?_
  refine wpAny_BinOp ?_
  refine wpAny_BinOp ?_
  refine wpAny_BinOp ?_
  refine ky_item (by exact F) (by rfl) q1 (by rfl) fun _ => ?_
  refine ky_item (by exact F) (by rfl) q1 (by rfl) fun _ => ?_
  refine mul_int ?_ (mul_ok o1 o2)
  refine ky_item (by exact F) (by rfl) q2 (by rfl) fun _ => ?_
  refine mul_int ?_ (mul_ok p1 p2)
  refine wpAny_BinOp ?_
  refine wpAny_BinOp ?_
  refine ky_item (by exact F) (by rfl) q2 (by rfl) fun _ => ?_
  refine ky_item (by exact F) (by rfl) q2 (by rfl) fun _ => ?_
  refine mul_int ?_ (mul_ok r1 r2)
  refine ky_item (by exact F) (by rfl) q1 (by rfl) fun _ => ?_
  refine mul_int ?_ (mul_ok p3 p4)
  refine sub_int ?_
  refine wpAny_storeName_local rfl F.ns (fun h3 hn hs => ?_)
  have q1 := PySem.IsL.isList (h := h3) (hs.extBut _ _ (Nat.ne_of_lt (Nat.lt_of_lt_of_le (Heap.lt_size h1) F.above)) (F.keep _ _ h1))
  have q2 := PySem.IsL.isList (h := h3) (hs.extBut _ _ (Nat.ne_of_lt (Nat.lt_of_lt_of_le (Heap.lt_size h2) F.above)) (F.keep _ _ h2))
  have F := F.set hn hs
  have kp : Keep s.heap h3 := F.keep
  dsimp only
  refine wpAny_execs_cons ?_
  refine wpAny_Return_some ?_
  refine wpAny_IfExp ?_
  refine wpAny_isTrue_Compare1 ?_
  refine ky_name (by exact F) (by exact if_pos rfl) ?_
  refine wpAny_Constant_int ?_
  refine ne_int ?_
  refine wpAny_truthy_bool ?_
  by_cases z : n1 * a1 * b2 - n2 * a2 * b1 = 0
  · rw [show ((n1 * a1 * b2 - n2 * a2 * b1) != 0) = false by rw [z]; decide, if_neg (by decide)]
    refine wpAny_BinOp ?_
    refine ky_item (by exact F) (by exact (if_neg (by decide)).trans rfl) q1 (by rfl) fun _ => ?_
    refine ky_item (by exact F) (by exact (if_neg (by decide)).trans rfl) q2 (by rfl) fun _ => ?_
    refine sub_int ?_
    have e : laterI n1 a1 b1 k1 n2 a2 b2 k2 = k1 - k2 := if_pos z
    rw [e] at k
    exact k _ _ _ kp
  · rw [show ((n1 * a1 * b2 - n2 * a2 * b1) != 0) = true from bne_iff_ne.mpr z, if_pos rfl]
    refine ky_name (by exact F) (by exact if_pos rfl) ?_
    have e : laterI n1 a1 b1 k1 n2 a2 b2 k2 = n1 * a1 * b2 - n2 * a2 * b1 := if_neg z
    rw [e] at k
    exact k _ _ _ kp
noncomputable abbrev keyO (aK dx l : Addr) : Obj := Obj.mk (.ref aK) (some dx) .plain #[some (.ref l)]
theorem getobj_c {w : World} {A : Around} {s : Shared} {E : Value → Shared → Prop} {Q : Value → Shared → Prop} {fr : Frag} {aK aD aIn x dx l L : Addr} {h₀ : Heap} {m : Str → Option Value} {e : Bool}
    (F : Fr h₀ L s.heap m) (fX : fr.In h₀) (kx : KX fr aK aD aIn) (hx : h₀.get? x = some (keyO aK dx l)) (hd : h₀.get? dx = some emptyDict) (h : ∀ t', Q (.ref l) { s with toks := t' }) :
    wpAny (model PP w) A (getAttr (.ref x) (Str.ofString "obj") e) Q E s :=
  get_slot F fX (ox := keyO aK dx l) ⟨F.keep _ _ hx, rfl, rfl, F.keep _ _ hd⟩ kx.get kx.cls kx.obj kx.dg kx.ds kx.slot rfl rfl (h _)
theorem cw_s {w : World} {A : Around} {s : Shared} {E : Value → Shared → Prop} {env : Env} {h₀ : Heap} {pos : Pos} {f : Addr} {o : Obj} {fd : FuncData} {e : Expr} {rest : List Expr} {Q : Value → Shared → Prop} (X : (Kc w.params).In h₀) (hl : (Kc w.params).lookup f = some o) (hdat : o.data = .func fd)
    (h : wpAny (model PP w) A (spliced (backTo pos (starEach (e :: rest) env))) (fun vs s₁ => Keep h₀ s₁.heap ∧ wpAny (model PP w) A (call (.ref f) vs) Q E s₁) E s)
    (he : starEach (e :: rest) env = (false, eval e env) :: starEach rest env := by rfl) :
    wpAny (model PP w) A (callWith pos (.ref f) [] (backTo pos (starEach (e :: rest) env)) []) Q E s :=
  callWith_def hdat (wpAny_mono h (fun _ _ x => ⟨x.1 _ _ (X _ _ hl), x.2⟩) fun _ _ x => x) he
theorem bindlt (a b : Value) (nm ql : Str) (bd : List Stmt) (sc : Scope) (cl : List (Str × Addr)) (pm cd ct : Value) : bindArgs (fnX nm ql (stA (kStmt 3)) bd sc cl .none .none .none pm none cd ct) ⟨[a, b], []⟩ = pure [(Str.ofString "self", a), (Str.ofString "other", b)] := by kernel_rfl
theorem sc3n : (stS (kStmt 3)).names = [(Str.ofString "self", .local), (Str.ofString "other", .local), (Str.ofString "mycmp", .free)] := by kernel_rfl
set_option maxHeartbeats 1000000 in
theorem klt_c {w : World} {A : Around} {s : Shared} {aK aN aD aLt aCell aCd aIn aCe : Addr} {oK oN oD oL oC oI oE : Obj} {x y dx dy l1 l2 : Addr} {n1 a1 b1 k1 n2 a2 b2 k2 : Int} {t1 t2 t3 t4 u1 u2 u3 u4 : Tok} {e1 e2 : Nat} {Q : Value → Shared → Prop}
    (hA : Low A 3) (X : (Kc w.params).In s.heap) (b : KB1 s.heap aK aN aD aLt aCell aCd aIn aCe oK oN oD oL oC oI oE)
    (hx : s.heap.get? x = some (keyO aK dx l1)) (hdx : s.heap.get? dx = some emptyDict) (hy : s.heap.get? y = some (keyO aK dy l2)) (hdy : s.heap.get? dy = some emptyDict)
    (h1 : s.heap.get? l1 = some (listOf #[.int n1 t1, .int a1 t2, .int b1 t3, .int k1 t4] e1)) (h2 : s.heap.get? l2 = some (listOf #[.int n2 u1, .int a2 u2, .int b2 u3, .int k2 u4] e2))
    (o1 : 0 ≤ n1) (o2 : n1 < 4096) (r1 : 0 ≤ n2) (r2 : n2 < 4096) (p1 : 0 ≤ n1 * a1) (p2 : n1 * a1 < 4096) (p3 : 0 ≤ n2 * a2) (p4 : n2 * a2 < 4096)
    (k : ∀ h' t', Keep s.heap h' → Q (.bool (decide (laterI n1 a1 b1 k1 n2 a2 b2 k2 < 0))) { s with heap := h', toks := t' }) :
    wpAny (model PP w) A (call (.ref aLt) [.ref x, .ref y]) Q (fun _ _ => False) s := by
  obtain ⟨fr, fX, kx⟩ := b.kx
  obtain ⟨pm, ct, rfl⟩ := b.iLt
  obtain ⟨od, c0, u, r, l, rfl⟩ := b.iCd
  refine wpAny_call (codeAny_call_def (binds := [(Str.ofString "self", .ref x), (Str.ofString "other", .ref y)]) (body := stB (kStmt 3)) hA.room b.hLt rfl (nolimit_of X) ⟨_, _, _, _, rfl, b.hCd, rfl, rfl⟩ rfl (.of_eq (bindlt _ _ _ _ _ _ _ _ _ _)) ?hcell ?hloc (fun h₀ hns hk₀ => noE ?_) (by kernel_rfl) (by kernel_rfl) (by kernel_rfl))
  case hcell => exact fun x hx => (show ∀ x ∈ (stS (kStmt 3)).names, x.2 ≠ .cell by rw [sc3n]; decide) x hx
  case hloc => exact locs (by rw [show (fnX (Str.ofString "__lt__") (Str.ofString "cmp_to_key.<locals>.K.__lt__") (stA (kStmt 3)) (stB (kStmt 3)) (stS (kStmt 3)) [(Str.ofString "mycmp", aCell)] .none .none .none pm none (.ref aCd) ct).scope.names = _ from sc3n]; rfl)
  have F : Fr s.heap s.heap.objs.size h₀ _ := ⟨hns, hk₀, Nat.le_refl _⟩
  have hA2 : ∀ env, Low (A.deeper env) 2 := hA.deeper
  refine wpAny_execs_cons ?_
  refine wpAny_Return_some ?_
  refine wpAny_Compare1 ?_
  refine Call_ ?_
  refine wpAny_Name (wpAny_loadName_free (by kernel_rfl) (by kernel_rfl) rfl ⟨_, F.keep _ _ b.hCell, rfl⟩ ?_) (by decide)
  refine cw_s (f := 121) X rfl rfl ?_
  refine args_cons ?_
  refine Attribute_name (ky_name (by exact F) (by rfl) ?_ (by kernel_rfl) (by kernel_rfl) (by decide))
  refine getobj_c F fX kx hx hdx (fun _ => ?_)
  refine args_cons ?_
  refine Attribute_name (ky_name (by exact F) (by rfl) ?_ (by kernel_rfl) (by kernel_rfl) (by decide))
  refine getobj_c F fX kx hy hdy (fun _ => ?_)
  refine args_nil ⟨F.keep, ?_⟩
  refine noE (later_c ((hA2 _).less (by decide)) (Frag.In.keeps X F.keep) (F.keep _ _ h1) (F.keep _ _ h2) o1 o2 r1 r2 p1 p2 p3 p4 (fun h' t' t'' kp => ?_))
  refine wpAny_Constant_int ?_
  refine lt_int ?_
  exact k h' _ fun c o e => kp _ _ (F.keep _ _ e)
theorem bindin (a b : Value) (nm ql : Str) (bd : List Stmt) (sc : Scope) (cl : List (Str × Addr)) (pm cd ct : Value) : bindArgs (fnX nm ql (stA (kStmt 2)) bd sc cl .none .none .none pm none cd ct) ⟨[a, b], []⟩ = pure [(Str.ofString "self", a), (Str.ofString "obj", b)] := by kernel_rfl
theorem sc2n : (stS (kStmt 2)).names = [(Str.ofString "self", .local), (Str.ofString "obj", .local)] := by kernel_rfl
set_option maxHeartbeats 1000000 in
theorem kmake_b {w : World} {A : Around} {s : Shared} {aK aN aD aLt aCell aCd aIn aCe : Addr} {oK oN oD oL oC oI oE : Obj} {l : Addr} {Q : Value → Shared → Prop}
    (hA : Low A 4) (X : (Kc w.params).In s.heap) (b : KB1 s.heap aK aN aD aLt aCell aCd aIn aCe oK oN oD oL oC oI oE)
    (k : ∀ x h' t' dx, Keep s.heap h' → s.heap.get? x = none → s.heap.get? dx = none → h'.get? x = some (keyO aK dx l) → h'.get? dx = some emptyDict → Q (.ref x) { s with heap := h', toks := t' }) :
    wpAny (model PP w) A (call (.ref aK) [.ref l]) Q (fun _ _ => False) s := by
  obtain ⟨fr, fX, kx⟩ := b.kx
  obtain ⟨pm, ct, rfl⟩ := b.iIn
  obtain ⟨od, c0, u, r, ll, rfl⟩ := b.iCe
  obtain ⟨hh, gg, dd, tt, oo⟩ := s
  refine wpAny_call ?_
  refine make_core (makes_of fX kx.makes) (looks_findIn fX kx.init) (fun self => bind_fn fX self kx.tIn) (.inl rfl) ?_
  have hA2 : Low (A.under (.builtin "type.__call__" ⟨.ref aK :: [.ref l], []⟩)) 2 := ⟨hA.hd, by have := hA.dp; show A.depth + 1 + 2 ≤ 600; omega, by have := hA.un; rw [show (A.under (.builtin "type.__call__" ⟨.ref aK :: [.ref l], []⟩)).units = A.units + 1 by kernel_rfl]; omega⟩
  have k2 : Keep hh ((hh.push emptyDict).push (instObj aK hh.objs.size)) := fun b o e => Heap.get?_push_of_some _ (Heap.get?_push_of_some _ e)
  have hx : ((hh.push emptyDict).push (instObj aK hh.objs.size)).get? (hh.objs.size + 1) = some (instObj aK hh.objs.size) := by heap_get
  have hd : ((hh.push emptyDict).push (instObj aK hh.objs.size)).get? hh.objs.size = some emptyDict := Heap.get?_push_of_some _ (Heap.get?_push_size _ rfl)
  have nd : hh.get? hh.objs.size = none := Heap.get?_none_of_le (Nat.le_refl _)
  have nx : hh.get? (hh.objs.size + 1) = none := Heap.get?_none_of_le (Nat.le_succ _)
  have ne : hh.objs.size ≠ hh.objs.size + 1 := by omega
  have sz : hh.objs.size ≤ ((hh.push emptyDict).push (instObj aK hh.objs.size)).objs.size := by rw [Heap.size_push, Heap.size_push]; omega
  generalize ((hh.push emptyDict).push (instObj aK hh.objs.size)) = h2 at k2 hx hd sz ⊢
  generalize hh.objs.size + 1 = x at hx nx ne ⊢
  generalize hh.objs.size = dx at hx hd nd ne ⊢
  have X2 := Frag.In.keeps X k2
  refine codeAny_call_def (binds := [(Str.ofString "self", .ref x), (Str.ofString "obj", .ref l)]) (body := stB (kStmt 2)) hA2.room (k2 _ _ b.hIn) rfl (nolimit_of X2) ⟨_, _, _, _, rfl, k2 _ _ b.hCe, rfl, rfl⟩ rfl (.of_eq (bindin _ _ _ _ _ _ _ _ _ _)) ?hcell ?hloc (fun h₀ hns hk₀ => noE ?_) (by kernel_rfl) (by kernel_rfl) (by kernel_rfl)
  case hcell => exact fun x hx => (show ∀ x ∈ (stS (kStmt 2)).names, x.2 ≠ .cell by rw [sc2n]; decide) x hx
  case hloc => exact locs (by rw [show (fnX (Str.ofString "__init__") (Str.ofString "cmp_to_key.<locals>.K.__init__") (stA (kStmt 2)) (stB (kStmt 2)) (stS (kStmt 2)) [] .none .none .none pm none (.ref aCe) ct).scope.names = _ from sc2n]; rfl)
  have fX2 := Frag.In.keeps fX k2
  have F : Fr hh h2.objs.size h₀ _ := ⟨hns, fun b o e => hk₀ _ _ (k2 _ _ e), sz⟩
  have nL : ∀ {a o}, h2.get? a = some o → a ≠ h2.objs.size := fun e => Nat.ne_of_lt (Heap.lt_size e)
  have N : News hh h2.objs.size h₀ ((x, instObj aK dx) :: [(dx, emptyDict)]) := by
    intro p hp
    rcases List.mem_cons.mp hp with rfl | hp
    · exact ⟨hk₀ _ _ hx, nL hx, nx⟩
    · cases List.mem_singleton.mp hp
      exact ⟨hk₀ _ _ hd, nL hd, nd⟩
  refine wpAny_execs_cons ?_
  refine plainObj_wpAny_Assign_Attribute ?_
  refine ky_name (by exact F) (by rfl) ?_ (by kernel_rfl) (by kernel_rfl) (by decide)
  refine ky_name (by exact F) (by rfl) ?_ (by kernel_rfl) (by kernel_rfl) (by decide)
  refine set_slot F fX N (ox := instObj aK dx) (ox' := keyO aK dx l) (news' := [(x, keyO aK dx l), (dx, emptyDict)]) ⟨hk₀ _ _ hx, rfl, rfl, hk₀ _ _ hd⟩ kx.seta kx.over kx.taker kx.tD kx.slot (by decide) rfl rfl ?_ ?_
  · exact .head (fun p hp => by cases List.mem_singleton.mp hp; exact ne)
  intro h3 F3 N3
  refine wpAny_execs_nil ?_
  refine ⟨rfl, ?_⟩
  exact k x h3 _ dx F3.keep nx nd (N3.get (List.mem_cons_self ..)) (N3.get (List.mem_cons_of_mem _ (List.mem_cons_self ..)))
noncomputable def strKeyB (e : DictEntry) : Bool := match e.key with | .str _ _ => true | _ => false
theorem strKeys_all {es : Array DictEntry} (h : es.toList.all strKeyB = true) : StrKeys es := by
  intro e he
  have q := List.all_eq_true.mp h e (Array.mem_toList_iff.mpr he)
  unfold strKeyB at q
  split at q
  · rename_i x t e'; exact ⟨_, _, e'⟩
  · cases q
theorem KB1.lt {h : Heap} {aK aN aD aLt aCell aCd aIn aCe : Addr} {oK oN oD oL oC oI oE : Obj} (b : KB1 h aK aN aD aLt aCell aCd aIn aCe oK oN oD oL oC oI oE) : ∃ m, h.Ns aN m ∧ m (Str.ofString "__lt__") = some (.ref aLt) := by
  obtain ⟨q0, q2, q3, q4, q5, q6, q7, q8, q9, q10, q11, qo, qd, z0, z2, z3, z4, z5, z6, z7, z8, z9, z10, z11, zo, zd, v0, v2, aSl, aGt, aEq, aLe, aGe, aSt, eN⟩ := b.iN
  have hN := b.hN
  clear b
  subst eN
  exact ⟨_, ⟨_, _, _, hN, rfl, strKeys_all (by kernel_rfl), fun _ => rfl⟩, by kernel_rfl!⟩
end Mine
end
section
open PySem PySem.W PySem.W.X PyProof.Rows
set_option Elab.async false
set_option maxRecDepth 100000
set_option linter.unusedVariables false
set_option pp.maxSteps 300
namespace Mine
/-- a time: its number, its speed's two parts, its hand -/
structure Tm where
  n : Int
  a : Int
  b : Int
  k : Int
noncomputable def Tm.Ok (t : Tm) : Prop := 0 ≤ t.n ∧ t.n < 9 ∧ 0 < t.a ∧ t.a < 6 ∧ 0 < t.b ∧ t.b < 5 ∧ 0 ≤ t.k ∧ t.k < 5
noncomputable def Tm.rank (t : Tm) : Int := t.n * t.a * (576 / t.b) * 5 + t.k
theorem cb {b : Int} (h1 : 0 < b) (h2 : b < 5) : b * (576 / b) = 576 ∧ 0 < 576 / b := by
  have e : b = 1 ∨ b = 2 ∨ b = 3 ∨ b = 4 := by omega
  rcases e with rfl | rfl | rfl | rfl <;> decide
theorem rank_sign {p q b1 b2 k1 k2 : Int} (hb : 0 < b1) (hb' : b1 < 5) (gb : 0 < b2) (gb' : b2 < 5) (hk : 0 ≤ k1) (hk' : k1 < 5) (gk : 0 ≤ k2) (gk' : k2 < 5) :
    (if p * b2 - q * b1 = 0 then k1 - k2 else p * b2 - q * b1) < 0 ↔ p * (576 / b1) * 5 + k1 < q * (576 / b2) * 5 + k2 := by
  obtain ⟨e1, c1⟩ := cb hb hb'
  obtain ⟨e2, c2⟩ := cb gb gb'
  generalize 576 / b1 = c at *
  generalize 576 / b2 = d at *
  have key : (p * b2 - q * b1) * (c * d) = 576 * (p * c - q * d) := by
    have h1 : p * b2 * (c * d) = p * c * (b2 * d) := by ac_rfl
    have h2 : q * b1 * (c * d) = q * d * (b1 * c) := by ac_rfl
    rw [Int.sub_mul, h1, h2, e1, e2, Int.mul_sub, Int.mul_comm 576, Int.mul_comm 576]
  have pos : 0 < c * d := Int.mul_pos c1 c2
  generalize p * b2 - q * b1 = D at *
  generalize p * c = P at *
  generalize q * d = R at *
  clear e1 e2 c1 c2 hb hb' gb gb'
  rcases Int.lt_trichotomy D 0 with h | h | h
  · have z := Int.mul_neg_of_neg_of_pos h pos
    rw [key] at z
    clear key pos
    rw [if_neg (Int.ne_of_lt h)]
    omega
  · subst h
    rw [Int.zero_mul] at key
    rw [if_pos rfl]
    clear pos
    omega
  · have z := Int.mul_pos h pos
    rw [key] at z
    clear key pos
    rw [if_neg (Int.ne_of_gt h)]
    omega
theorem later_rank {s t : Tm} (hs : s.Ok) (ht : t.Ok) : laterI s.n s.a s.b s.k t.n t.a t.b t.k < 0 ↔ s.rank < t.rank :=
  rank_sign hs.2.2.2.2.1 hs.2.2.2.2.2.1 ht.2.2.2.2.1 ht.2.2.2.2.2.1 hs.2.2.2.2.2.2.1 hs.2.2.2.2.2.2.2 ht.2.2.2.2.2.2.1 ht.2.2.2.2.2.2.2
inductive IsKey (h : Heap) (aK x : Addr) (m : Tm) : Prop
  | mk (l dx : Addr) (t1 t2 t3 t4 : Tok) (e : Nat) (hx : h.get? x = some (keyO aK dx l)) (hd : h.get? dx = some emptyDict) (hl : h.get? l = some (listOf #[.int m.n t1, .int m.a t2, .int m.b t3, .int m.k t4] e)) : IsKey h aK x m
theorem IsKey.keep {h h' : Heap} {aK x : Addr} {m : Tm} (i : IsKey h aK x m) (k : Keep h h') : IsKey h' aK x m := by
  obtain ⟨l, dx, t1, t2, t3, t4, e, a, d, b⟩ := i
  exact ⟨l, dx, t1, t2, t3, t4, e, k _ _ a, k _ _ d, k _ _ b⟩
noncomputable def slotRef (o : Obj) : Addr := match o.slots.toList with | [some (.ref l)] => l | _ => 0
noncomputable def tmOf (o : Obj) : Tm := match o.data with | .seq vs _ => (match vs.toList with | [.int n _, .int a _, .int b _, .int k _] => ⟨n, a, b, k⟩ | _ => ⟨0, 0, 0, 0⟩) | _ => ⟨0, 0, 0, 0⟩
theorem IsKey.one {h : Heap} {aK x : Addr} {m m' : Tm} (i : IsKey h aK x m) (j : IsKey h aK x m') : m = m' := by
  obtain ⟨l, dx, t1, t2, t3, t4, e, a, d, b⟩ := i
  obtain ⟨l', dx', t1', t2', t3', t4', e', a', d', b'⟩ := j
  have el : l = l' := congrArg slotRef (Option.some.inj (a.symm.trans a'))
  subst el
  exact congrArg tmOf (Option.some.inj (b.symm.trans b'))
open Classical in
noncomputable def rankOf (h : Heap) (aK x : Addr) : Int := if q : ∃ m, IsKey h aK x m then (Classical.choose q).rank else 0
theorem rankOf_eq {h : Heap} {aK x : Addr} {m : Tm} (i : IsKey h aK x m) : rankOf h aK x = m.rank := by
  have q : ∃ m, IsKey h aK x m := ⟨m, i⟩
  unfold rankOf
  rw [dif_pos q, (Classical.choose_spec q).one i]
noncomputable def KeyOk (h : Heap) (aK x : Addr) : Prop := ∃ m, IsKey h aK x m ∧ m.Ok
theorem small_mul {n a : Int} (h1 : 0 ≤ n) (h2 : n < 9) (h3 : 0 < a) (h4 : a < 6) : 0 ≤ n * a ∧ n * a < 4096 := by
  have e : a = 1 ∨ a = 2 ∨ a = 3 ∨ a = 4 ∨ a = 5 := by omega
  rcases e with rfl | rfl | rfl | rfl | rfl <;> omega
theorem lt_ok {w : World} {g : Heap} {aK : Addr} (X : (Kc w.params).In g) (KBg : KB g aK) : LtOk w g (rankOf g aK) (KeyOk g aK) := by
  intro A s x y Q hA kp ⟨m1, i1, ok1⟩ ⟨m2, i2, ok2⟩ hq
  rw [rankOf_eq i1, rankOf_eq i2] at hq
  obtain ⟨l1, dx, t1, t2, t3, t4, e1, hx, hdx, h1⟩ := i1.keep kp
  obtain ⟨l2, dy, u1, u2, u3, u4, e2, hy, hdy, h2⟩ := i2.keep kp
  obtain ⟨aN, aD, aLt, aCell, aCd, aIn, aCe, oK, oN, oD, oL, oC, oI, oE, b⟩ := KBg.keep kp
  obtain ⟨mN, hNs, hv⟩ := b.lt
  have p := small_mul ok1.1 ok1.2.1 ok1.2.2.1 ok1.2.2.2.1
  have p' := small_mul ok2.1 ok2.2.1 ok2.2.2.1 ok2.2.2.2.1
  obtain ⟨bT, t0, yq, eK⟩ := b.iK
  obtain ⟨pm, cL, eL⟩ := b.iLt
  refine lt_rich (aK := aK) (aF := aLt) (cd := clsD aK aN) (by have := hA.un; show A.units < 9900; omega) hx rfl hy rfl b.hK (by rw [eK]; rfl) rfl hNs hv b.hLt (by rw [eL]) ?_
  refine klt_c (hA.less (by decide)) (Frag.In.keeps X kp) b hx hdx hy hdy h1 h2 ok1.1 (Int.lt_trans ok1.2.1 (by decide)) ok2.1 (Int.lt_trans ok2.2.1 (by decide)) p.1 p.2 p'.1 p'.2 (fun h' t' k3 => ⟨⟨_, rfl⟩, ?_⟩)
  rw [decide_eq_decide.mpr (later_rank ok1 ok2)]
  exact hq h' t' k3
end Mine
end
section
open PySem PySem.W PySem.W.X PyProof.Rows
set_option Elab.async false
set_option maxRecDepth 100000
set_option linter.unusedVariables false
set_option pp.maxSteps 300
namespace Mine
theorem kmake_c {w : World} {A : Around} {s : Shared} {aK l : Addr} {m : Tm} {t1 t2 t3 t4 : Tok} {e n : Nat} {Q : Value → Shared → Prop} (hA : Low A n) (hn : 4 ≤ n) (X : (Kc w.params).In s.heap) (KBg : KB s.heap aK)
    (hl : s.heap.get? l = some (listOf #[.int m.n t1, .int m.a t2, .int m.b t3, .int m.k t4] e))
    (k : ∀ x h' t' dx, Keep s.heap h' → s.heap.get? x = none → s.heap.get? dx = none → h'.get? x = some (keyO aK dx l) → h'.get? dx = some emptyDict → Q (.ref x) { s with heap := h', toks := t' }) : wpAny (model PP w) A (call (.ref aK) [.ref l]) Q (fun _ _ => False) s := by
  obtain ⟨aN, aD, aLt, aCell, aCd, aIn, aCe, oK, oN, oD, oL, oC, oI, oE, b⟩ := KBg
  exact kmake_b (hA.less hn) X b k
end Mine
end
section
open PySem PySem.W PySem.W.X PyProof.Rows
set_option Elab.async false
set_option maxRecDepth 100000
set_option linter.unusedVariables false
set_option pp.maxSteps 400
namespace Mine
theorem Wc.ofCall {s s₁ : Shared} {env : Env} {m cm : Str → Option Value} (x : InCallC s env.locals m env.cells cm s₁) : Wc s.heap env m cm [] s₁.heap where
  ns := x.toInCall.ns
  old := x.toInCall.keep
  gL := Heap.get?_none_of_le x.toInCall.fresh
  cell := fun n c e => ⟨x.cell n c e, Nat.ne_of_gt (x.above n c (mem_of_lookup e)), Heap.get?_none_of_le (Nat.le_trans x.toInCall.fresh (Nat.le_of_lt (x.above n c (mem_of_lookup e))))⟩
  inj := fun n n' c e e' => name_of_addr x.apart (mem_of_lookup e) (mem_of_lookup e')
  fo := fun p hp => by cases hp
  nd := List.nodup_nil
noncomputable def fdW (P : Params) : FuncData := match (Kc P).lookup 126 with | some o => (match o.data with | .func f => f | _ => default) | none => default
noncomputable def objW (P : Params) : Obj := ((Kc P).lookup 126).getD default
theorem lW (P : Params) : (Kc P).lookup 126 = some (objW P) := by kernel_rfl
theorem dW (P : Params) : (objW P).data = .func (fdW P) := by kernel_rfl
noncomputable def wSt : Stmt := PP.main.body.getD 18 (.Pass default)
noncomputable def stBody (st : Stmt) : List Stmt := match st with | .FunctionDef _ _ b _ _ _ _ _ _ _ => b | _ => []
noncomputable def stScp (st : Stmt) : Scope := match st with | .FunctionDef _ _ _ _ _ _ sc _ _ _ => sc | _ => default
noncomputable def findDef (n : Str) : Stmt := (PP.main.body.find? fun | .FunctionDef m _ _ _ _ _ _ _ _ _ => m == n | _ => false).getD (.Pass default)
noncomputable def wBody : List Stmt := stBody (findDef (Str.ofString "_law_woven"))
noncomputable def wScp : Scope := stScp (findDef (Str.ofString "_law_woven"))
theorem bW (P : Params) : (fdW P).body = .stmts wBody := by kernel_rfl
theorem cW (P : Params) : (fdW P).closure = [] := by kernel_rfl
theorem gW (P : Params) : (fdW P).globals = mainGlobals := by kernel_rfl
theorem qW (P : Params) : (fdW P).qualname = Str.ofString "_law_woven" := by kernel_rfl
theorem uW (P : Params) : (fdW P).builtins = builtinsNs := by kernel_rfl
theorem sW (P : Params) : (fdW P).scope = wScp := by kernel_rfl
theorem codeW (P : Params) : codeIn (Kc P) (fdW P).code (fdW P).qualname = true := by kernel_rfl
theorem baW (P : Params) (a b : Value) : bindArgs (fdW P) ⟨[a, b], []⟩ = pure [(Str.ofString "writings", a), (Str.ofString "speeds", b)] := by kernel_rfl
theorem wLen : wBody.length = 6 := by kernel_rfl
end Mine
end
section
open PySem PySem.W PySem.W.X PyProof.Rows PySem.Calls
set_option Elab.async false
set_option maxRecDepth 100000
set_option linter.unusedVariables false
set_option pp.maxSteps 500
namespace Mine
noncomputable def fdL (P : Params) : FuncData := match (Kc P).lookup 138 with | some o => (match o.data with | .func f => f | _ => default) | none => default
noncomputable def objL (P : Params) : Obj := ((Kc P).lookup 138).getD default
theorem lL (P : Params) : (Kc P).lookup 138 = some (objL P) := by kernel_rfl
theorem dL (P : Params) : (objL P).data = .func (fdL P) := by kernel_rfl
noncomputable def lBd : List Stmt := stBody (PP.main.body.getD 22 (.Pass default))
noncomputable def lScp : Scope := stScp (PP.main.body.getD 22 (.Pass default))
theorem bL' (P : Params) : (fdL P).body = .stmts lBd := by kernel_rfl
theorem cL' (P : Params) : (fdL P).closure = [] := by kernel_rfl
theorem qL (P : Params) : (fdL P).qualname = Str.ofString "law" := by kernel_rfl
theorem sL (P : Params) : (fdL P).scope = lScp := by kernel_rfl
theorem codeL (P : Params) : codeIn (Kc P) (fdL P).code (fdL P).qualname = true := by kernel_rfl
theorem baL (P : Params) (a : Value) : bindArgs (fdL P) ⟨[a], []⟩ = pure [(Str.ofString "script", a)] := by kernel_rfl
theorem lLen : lBd.length = 10 := by kernel_rfl
/-- the law's frame -/
noncomputable def lEnv (P : Params) (L : Addr) : Env := callEnvC (fdL P) L 138
theorem le_loc (P : Params) (L : Addr) : (lEnv P L).locals = L := rfl
theorem le_kind (P : Params) (L : Addr) : (lEnv P L).scope.kind = .function := by kernel_rfl
theorem le_glob (P : Params) (L : Addr) : (lEnv P L).globals = mainGlobals := by kernel_rfl
theorem le_blt (P : Params) (L : Addr) : (lEnv P L).builtins = builtinsNs := by kernel_rfl
theorem le_code (P : Params) (L : Addr) : (lEnv P L).code = .ref 137 := by kernel_rfl
noncomputable def lNames : List (Str × NameKind) := lScp.names
theorem lk_g (P : Params) (L : Addr) (x : Str) (h : lScp.names.lookup x = some .globalImplicit) : (lEnv P L).kindOf x = some .globalImplicit := h
theorem lk_l (P : Params) (L : Addr) (x : Str) (h : lScp.names.lookup x = some .local) : (lEnv P L).kindOf x = some .local := h
theorem lk_c (P : Params) (L : Addr) (x : Str) (h : lScp.names.lookup x = some .cell) : (lEnv P L).kindOf x = some .cell := h
theorem le_cells (P : Params) (L : Addr) : (lEnv P L).cells = [(Str.ofString "speeds", L + 1 + 1), (Str.ofString "texts", L + 1)] := by kernel_rfl
end Mine
end
section
open PySem PySem.W PySem.W.X PyProof.Rows PySem.Calls
set_option Elab.async false
set_option maxRecDepth 100000
set_option linter.unusedVariables false
set_option pp.maxSteps 400
namespace Mine
theorem Wc.sub {g g' h : Heap} {env : Env} {m cm : Str → Option Value} {fs : List (Addr × Obj)} (c : Wc g env m cm fs h) (k : Keep g' g) : Wc g' env m cm fs h := by
  have none' : ∀ a, g.get? a = none → g'.get? a = none := fun a e => by
    cases q : g'.get? a with
    | none => rfl
    | some o => rw [k _ _ q] at e; cases e
  exact ⟨c.ns, fun b o e => c.old _ _ (k _ _ e), none' _ c.gL, fun n a e => ⟨(c.cell n a e).1, (c.cell n a e).2.1, none' _ (c.cell n a e).2.2⟩, c.inj, fun p hp => ⟨(c.fo p hp).1, none' _ (c.fo p hp).2.1, (c.fo p hp).2.2⟩, c.nd⟩
/-- behind calls that change one object that is none of the frame's -/
theorem Wc.but {g h h' : Heap} {env : Env} {m cm : Str → Option Value} {fs : List (Addr × Obj)} {a : Addr} (c : Wc g env m cm fs h) (k : Heap.ExtBut a h h') (ga : g.get? a = none) (nL : a ≠ env.locals) (nc : ∀ n, env.cells.lookup n ≠ some a) (nf : ∀ p ∈ fs, p.1 ≠ a) : Wc g env m cm fs h' :=
  ⟨c.ns.extBut k (Ne.symm nL), fun b o e => k b o (fun q => by rw [q, ga] at e; cases e) (c.old b o e), c.gL, fun n b e => ⟨by
    obtain ⟨x, ex, ed⟩ := (c.cell n b e).1
    exact ⟨x, k _ _ (fun q => nc n (q ▸ e)) ex, ed⟩, (c.cell n b e).2⟩, c.inj, fun p hp => ⟨k _ _ (nf p hp) (c.fo p hp).1, (c.fo p hp).2⟩, c.nd⟩
theorem Wc.addOld {g h : Heap} {env : Env} {m cm : Str → Option Value} {fs : List (Addr × Obj)} {a : Addr} {o : Obj} (c : Wc g env m cm fs h) (e : h.get? a = some o) (ga : g.get? a = none) (nL : a ≠ env.locals) (nc : ∀ n, env.cells.lookup n ≠ some a) (nf : ∀ p ∈ fs, p.1 ≠ a) : Wc g env m cm ((a, o) :: fs) h := by
  refine ⟨c.ns, c.old, c.gL, c.cell, c.inj, ?_, ?_⟩
  · intro p hp
    rcases List.mem_cons.mp hp with rfl | hp
    · exact ⟨e, ga, nL, nc⟩
    · exact c.fo p hp
  · rw [List.map_cons, List.nodup_cons]
    refine ⟨fun hm => ?_, c.nd⟩
    obtain ⟨p, hp, e⟩ := List.mem_map.mp hm
    exact nf p hp e
/-- the frame of _law_woven -/
noncomputable def wEnv (P : Params) (L : Addr) : Env := callEnvC (fdW P) L 126
theorem we_loc (P : Params) (L : Addr) : (wEnv P L).locals = L := rfl
theorem we_cells (P : Params) (L : Addr) : (wEnv P L).cells = [(Str.ofString "heap", L + 1 + 1 + 1 + 1), (Str.ofString "keys", L + 1 + 1 + 1), (Str.ofString "key", L + 1 + 1), (Str.ofString "speeds", L + 1)] := by kernel_rfl
theorem we_kind (P : Params) (L : Addr) : (wEnv P L).scope.kind = .function := by kernel_rfl
theorem we_glob (P : Params) (L : Addr) : (wEnv P L).globals = mainGlobals := by kernel_rfl
theorem we_blt (P : Params) (L : Addr) : (wEnv P L).builtins = builtinsNs := by kernel_rfl
noncomputable def wS1 : Stmt := wBody.getD 0 (.Pass default)
noncomputable def wT (i : Nat) : Stmt := wBody.getD i (.Pass default)
theorem wBody_eq : wBody = [wT 0, wT 1, wT 2, wT 3, wT 4, wT 5] := by kernel_rfl
noncomputable def wTargets : List Expr := match wT 0 with | .Assign [.Tuple e _ _] _ _ => e | _ => []
noncomputable def wVals : List Expr := match wT 0 with | .Assign _ (.Tuple e _ _) _ => e | _ => []
noncomputable def pA (st : Stmt) : Pos := match st with | .Assign _ _ p => p | _ => default
noncomputable def pT (st : Stmt) : Pos := match st with | .Assign [.Tuple _ _ p] _ _ => p | .Assign [.Name _ p] _ _ => p | _ => default
noncomputable def pV (st : Stmt) : Pos := match st with | .Assign _ (.Tuple _ _ p) _ => p | .Assign _ (.ListComp _ _ _ p) _ => p | .Assign _ (.Subscript _ _ p) _ => p | _ => default
theorem wT0 : wT 0 = .Assign [.Tuple wTargets 0 (pT (wT 0))] (.Tuple wVals 0 (pV (wT 0))) (pA (wT 0)) := by kernel_rfl
noncomputable def nmP (e : Expr) : Pos := match e with | .Name _ p => p | .Call _ _ _ p => p | .BinOp _ _ _ p => p | .List _ p => p | .Constant _ _ p => p | _ => default
theorem wTargets_eq : wTargets = [.Name (Str.ofString "key") (nmP (wTargets.getD 0 default)), .Name (Str.ofString "places") (nmP (wTargets.getD 1 default)), .Name (Str.ofString "counts") (nmP (wTargets.getD 2 default)), .Name (Str.ofString "told") (nmP (wTargets.getD 3 default))] := by kernel_rfl
noncomputable def cFn (e : Expr) : Expr := match e with | .Call f _ _ _ => f | _ => default
noncomputable def cArg (e : Expr) (i : Nat) : Expr := match e with | .Call _ a _ _ => a.getD i default | _ => default
noncomputable def bL (e : Expr) : Expr := match e with | .BinOp l _ _ _ => l | _ => default
noncomputable def bR (e : Expr) : Expr := match e with | .BinOp _ _ r _ => r | _ => default
noncomputable def lI (e : Expr) (i : Nat) : Expr := match e with | .List l _ => l.getD i default | _ => default
noncomputable abbrev wV (i : Nat) : Expr := wVals.getD i default
theorem wVals_eq : wVals = [.Call (.Name (Str.ofString "cmp_to_key") (nmP (cFn (wV 0)))) [.Name (Str.ofString "_law_later") (nmP (cArg (wV 0) 0))] [] (nmP (wV 0)),
    .BinOp (.List [.Constant (.int 0) 0 (nmP (lI (bL (wV 1)) 0))] (nmP (bL (wV 1)))) .Mult (.Constant (.int 5) 0 (nmP (bR (wV 1)))) (nmP (wV 1)),
    .BinOp (.List [.Constant (.int 0) 0 (nmP (lI (bL (wV 2)) 0))] (nmP (bL (wV 2)))) .Mult (.Constant (.int 5) 0 (nmP (bR (wV 2)))) (nmP (wV 2)), .List [] (nmP (wV 3))] := by kernel_rfl
section
set_option maxHeartbeats 0 in
theorem rmul_x {w : World} {h : Heap} {g : Array GenState} {d : Drawn} {t : Nat} {os : OsState} {l : Addr} {t0 u : Tok} (KX : (Kc w.params).In h) (hl : h.get? l = some (Obj.mk (.type "list") none (.seq #[.int 0 t0] 0) #[])) :
    wpAny (model PP w) AA (call (.builtin "int.__rmul__") [.int 5 u, .ref l]) (fun v s' => v = .notImplemented ∧ (∀ b o, h.get? b = some o → s'.heap.get? b = some o) ∧ Rest ⟨h, g, d, t, os⟩ s') (fun _ _ => False) ⟨h, g, d, t, os⟩ := by
  x_run
set_option maxHeartbeats 0 in
theorem lmul_x {w : World} {h : Heap} {g : Array GenState} {d : Drawn} {t : Nat} {os : OsState} {l : Addr} {t0 u : Tok} (KX : (Kc w.params).In h) (hl : h.get? l = some (Obj.mk (.type "list") none (.seq #[.int 0 t0] 0) #[])) :
    wpAny (model PP w) AA (call (.builtin "list.__mul__") [.ref l, .int 5 u]) (fun v s' => ∃ a, v = .ref a ∧ s'.heap.get? a = some (Obj.mk (.type "list") none (.seq #[.int 0 t0, .int 0 t0, .int 0 t0, .int 0 t0, .int 0 t0] 0) #[]) ∧ h.get? a = none ∧ (∀ b o, h.get? b = some o → s'.heap.get? b = some o) ∧ Rest ⟨h, g, d, t, os⟩ s') (fun _ _ => False) ⟨h, g, d, t, os⟩ := by
  x_run
end
/-- [0] * 5 -/
theorem zeros_c {w : World} {A : Around} {E : Value → Shared → Prop} {s : Shared} {env : Env} {p1 p2 p3 p4 : Pos} {n : Nat} {Q : Value → Shared → Prop} (hA : Low A n) (X : (Kc w.params).In s.heap)
    (h : ∀ a h' t' t0, Keep s.heap h' → s.heap.get? a = none → h'.get? a = some (Obj.mk (.type "list") none (.seq #[.int 0 t0, .int 0 t0, .int 0 t0, .int 0 t0, .int 0 t0] 0) #[]) → Q (.ref a) { s with heap := h', toks := t' }) :
    wpAny (model PP w) A (eval (.BinOp (.List [.Constant (.int 0) 0 p1] p2) .Mult (.Constant (.int 5) 0 p3) p4) env) Q E s := by
  refine wpAny_BinOp ?_
  refine List_ ?_
  refine args_cons ?_
  refine wpAny_Constant_int ?_
  refine args_nil ?_
  refine wpAny_newList ?_
  refine wpAny_Constant_int ?_
  dsimp only
  have hl : (s.heap.push (Obj.mk (.type "list") none (.seq #[.int 0 s.toks] 0) #[])).get? s.heap.objs.size = some (Obj.mk (.type "list") none (.seq #[.int 0 s.toks] 0) #[]) := Heap.get?_push_size _ rfl
  have k1 : Keep s.heap (s.heap.push (Obj.mk (.type "list") none (.seq #[.int 0 s.toks] 0) #[])) := fun b o e => Heap.get?_push_of_some _ e
  generalize (s.heap.push (Obj.mk (.type "list") none (.seq #[.int 0 s.toks] 0) #[])) = h1 at hl k1 ⊢
  generalize s.heap.objs.size = l at hl ⊢
  obtain ⟨hh, gg, dd, tt, oo⟩ := s
  dsimp only at *
  have X1 := Frag.In.keeps X k1
  refine wpAny_binaryOp_repeat_ref (T := "list") (U := "int") (by decide) (show Shared.TypeIs _ _ "list" from ⟨_, hl, rfl⟩) (fun s' => typeIs_int s' _ _) noFill_list_mul PySem.F.fills_int_mul PySem.F.slot_int_rmul repeat_list PySem.F.slot_int_index.lookup ?_
  refine noE (hA.run (wpAny_mono (rmul_x X1 hl) ?_ (fun _ _ x => x.elim)))
  rintro _ ⟨h2, g2, d2, t2, o2⟩ ⟨rfl, k2, rfl, rfl, rfl⟩
  refine ⟨rfl, show Shared.TypeIs _ _ "list" from ⟨_, k2 _ _ hl, rfl⟩, ?_⟩
  refine noE (hA.run (wpAny_mono (lmul_x (Frag.In.keeps X1 k2) (k2 _ _ hl)) ?_ (fun _ _ x => x.elim)))
  rintro _ ⟨h3, g3, d3, t3, o3⟩ ⟨a, rfl, ha, na, k3, rfl, rfl, rfl⟩
  refine h a h3 t3 _ (fun b o e => k3 _ _ (k2 _ _ (k1 _ _ e))) ?_ ha
  cases q : hh.get? a with
  | none => rfl
  | some o => rw [k2 _ _ (k1 _ _ q)] at na; cases na
end Mine
end
section
open PySem PySem.W PySem.W.X PyProof.Rows PySem.Calls
set_option Elab.async false
set_option maxRecDepth 100000
set_option linter.unusedVariables false
set_option pp.maxSteps 400
namespace Mine
theorem wk_g (P : Params) (L : Addr) (x : Str) (h : wScp.names.lookup x = some .globalImplicit) : (wEnv P L).kindOf x = some .globalImplicit := h
/-- the class stands in what becomes the base -/
theorem KB.inBase {g g' h : Heap} {env : Env} {m cm : Str → Option Value} {fs : List (Addr × Obj)} {aK : Addr} (c : Wc g env m cm fs h) (kb : KB h aK) (hm : m (Str.ofString "__module__") = none) (hcm : ∀ n, cm n ≠ some (.ref 121)) (hfs : ∀ p ∈ fs, p.2.cls = .type "list" ∨ p.2.cls = .none)
    (up : ∀ a o, h.get? a = some o → a ≠ env.locals → (∀ n, env.cells.lookup n ≠ some a) → (∀ p ∈ fs, p.1 ≠ a) → g'.get? a = some o) : KB g' aK := by
  refine kb.move fun a o e s => up a o e (fun q => ?_) (fun n q => ?_) (fun p hp q => ?_)
  · obtain ⟨o', es, ep, e', ed, _, hn⟩ := c.ns
    rw [← q, e] at e'; cases e'
    exact s.2.1 es ep ed ((hn _).trans hm)
  · obtain ⟨o', e', ed⟩ := (c.cell n a q).1
    rw [e] at e'; cases e'
    exact hcm n (s.2.2 _ ed)
  · have e' := (c.fo p hp).1
    rw [q, e] at e'; cases e'
    rcases hfs p hp with z | z
    · exact s.1.2.1 z
    · exact s.1.2.2 z
theorem we_cells_ok (P : Params) (L : Addr) : ∀ n a, (n, a) ∈ (wEnv P L).cells → ∃ n', (wEnv P L).cells.lookup n' = some a := by
  intro n a h
  rw [we_cells] at h ⊢
  simp only [List.mem_cons, Prod.mk.injEq, List.not_mem_nil, or_false] at h
  rcases h with ⟨rfl, rfl⟩ | ⟨rfl, rfl⟩ | ⟨rfl, rfl⟩ | ⟨rfl, rfl⟩
  · exact ⟨Str.ofString "heap", by kernel_rfl!⟩
  · exact ⟨Str.ofString "keys", by kernel_rfl!⟩
  · exact ⟨Str.ofString "key", by kernel_rfl!⟩
  · exact ⟨Str.ofString "speeds", by kernel_rfl!⟩
set_option maxHeartbeats 2000000 in
theorem w1_c {w : World} {A : Around} {s : Shared} {g : Heap} {L : Addr} {m cm : Str → Option Value} {fs : List (Addr × Obj)} {Q : Flow → Shared → Prop} {E : Value → Shared → Prop}
    (hA : Low A 21) (B : Amb w g) (c : Wc g (wEnv w.params L) m cm fs s.heap) (h51 : s.heap.get? 51 = some (tabObj #[])) (g51 : g.get? 51 = none) (f51 : ∀ p ∈ fs, p.1 ≠ 51)
    (hm : m (Str.ofString "__module__") = none) (hcm : ∀ n, cm n ≠ some (.ref 121)) (hfs : ∀ p ∈ fs, p.2.cls = .type "list" ∨ p.2.cls = .none)
    (k : ∀ g' aK lp lc lt vs h' t' t1 t2, Keep g g' → KB g' aK →
      Wc g' (wEnv w.params L) (fun y => if y = Str.ofString "told" then some (.ref lt) else if y = Str.ofString "counts" then some (.ref lc) else if y = Str.ofString "places" then some (.ref lp) else m y) (fun y => if y = Str.ofString "key" then some (.ref aK) else cm y)
        ((lt, Obj.mk (.type "list") none (.seq #[] 0) #[]) :: (lc, Obj.mk (.type "list") none (.seq #[.int 0 t2, .int 0 t2, .int 0 t2, .int 0 t2, .int 0 t2] 0) #[]) :: (lp, Obj.mk (.type "list") none (.seq #[.int 0 t1, .int 0 t1, .int 0 t1, .int 0 t1, .int 0 t1] 0) #[]) :: (51, tabObj vs) :: fs) h' → Q .next { s with heap := h', toks := t' }) :
    wpAny (model PP w) A (exec (wT 0) (wEnv w.params L)) Q E s := by
  have n51L : (51 : Addr) ≠ L := fun q => by
    obtain ⟨o, es, ep, e, ed, _⟩ := c.ns
    rw [we_loc, ← q, h51] at e; cases e; cases ed
  rw [wT0]
  refine Assign_Tuple ?_ (by kernel_rfl!) (by kernel_rfl!)
  refine Tuple_ ?_
  rw [wVals_eq]
  refine args_cons ?_
  refine Call_ ?_
  refine nm_glob B c.old (v := .ref 56) rfl ?_ (we_kind _ _) (wk_g _ _ _ (by kernel_rfl!)) (we_glob _ _)
  refine cw_static (f := 56) B rfl rfl ?_
  refine args_cons ?_
  refine nm_glob B c.old (v := .ref 121) rfl ?_ (we_kind _ _) (wk_g _ _ _ (by kernel_rfl!)) (we_glob _ _)
  refine args_nil ⟨c.old, ?_⟩
  obtain ⟨hh, gg, dd, tt, oo⟩ := s
  dsimp only at *
  have Bh : Amb w (hh.hide 51) := B.keep (fun b o e => (Heap.hide_ne hh (fun q => by rw [q, g51] at e; cases e)).trans (c.old b o e))
  refine noE (cmpkey_c (hA.less (by decide)) Bh h51 ?_)
  rintro aK h1 t1 k1 kb ⟨vs, e51⟩
  have x1 : Heap.ExtBut 51 hh h1 := fun b o ne e => k1 b o ((Heap.hide_ne hh ne).trans e)
  have c1 : Wc g (wEnv w.params L) m cm fs h1 := c.but x1 g51 (by rw [we_loc]; exact n51L) (fun n e => by
    obtain ⟨o, e', ed⟩ := (c.cell n 51 e).1
    rw [h51] at e'; cases e'; cases ed) f51
  have c1 := c1.addOld e51 g51 (by rw [we_loc]; exact n51L) (fun n e => by
    obtain ⟨o, e', ed⟩ := (c.cell n 51 e).1
    rw [h51] at e'; cases e'; cases ed) f51
  refine args_cons ?_
  refine zeros_c hA (Frag.In.keeps B.X c1.old) ?_
  intro lp h2 t2 z1 k2 np hp
  refine args_cons ?_
  have c2 := c1.keep k2
  refine zeros_c hA (Frag.In.keeps B.X c2.old) ?_
  intro lc h3 t3 z2 k3 nc hc
  have c3 := ((c1.add k2 np hp).keep k3)
  have c3 := ((c1.add k2 np hp).add k3 nc hc)
  refine args_cons ?_
  refine List_ ?_
  refine args_nil ?_
  refine wpAny_newList ?_
  dsimp only
  have hl : (h3.push (Obj.mk (.type "list") none (.seq #[] 0) #[])).get? h3.objs.size = some (Obj.mk (.type "list") none (.seq #[] 0) #[]) := Heap.get?_push_size _ rfl
  have k4 : Keep h3 (h3.push (Obj.mk (.type "list") none (.seq #[] 0) #[])) := fun b o e => Heap.get?_push_of_some _ e
  have nl : h3.get? h3.objs.size = none := Heap.get?_none_of_le (Nat.le_refl _)
  generalize (h3.push (Obj.mk (.type "list") none (.seq #[] 0) #[])) = h4 at hl k4 ⊢
  generalize h3.objs.size = lt at hl nl ⊢
  have c4 := c3.add k4 nl hl
  refine args_nil ?_
  refine wpAny_newTuple ?_
  dsimp only
  have ht : IsTup (h4.push { cls := .type "tuple", data := .seq [Value.ref aK, Value.ref lp, Value.ref lc, Value.ref lt].toArray }) h4.objs.size #[Value.ref aK, Value.ref lp, Value.ref lc, Value.ref lt] := ⟨_, Heap.get?_push_size _ rfl, rfl, _, rfl⟩
  have k5 : Keep h4 (h4.push { cls := .type "tuple", data := .seq [Value.ref aK, Value.ref lp, Value.ref lc, Value.ref lt].toArray }) := fun b o e => Heap.get?_push_of_some _ e
  generalize (h4.push { cls := .type "tuple", data := .seq [Value.ref aK, Value.ref lp, Value.ref lc, Value.ref lt].toArray }) = h5 at ht k5 ⊢
  generalize h4.objs.size = tp at ht ⊢
  refine assign_Tuple_tuple hA.hd ht (by kernel_rfl!) (by kernel_rfl!) ?_
  intro h6 x6
  have k6 : Keep h5 h6 := fun b o e => x6 b o (Nat.ne_of_lt (Heap.lt_size e)) e
  have c6 := (c4.keep k5).keep k6
  have hfs6 : ∀ p ∈ ((lt, Obj.mk (.type "list") none (.seq #[] 0) #[]) :: (lc, Obj.mk (.type "list") none (.seq #[.int 0 z2, .int 0 z2, .int 0 z2, .int 0 z2, .int 0 z2] 0) #[]) :: (lp, Obj.mk (.type "list") none (.seq #[.int 0 z1, .int 0 z1, .int 0 z1, .int 0 z1, .int 0 z1] 0) #[]) :: (51, tabObj vs) :: fs), p.2.cls = .type "list" ∨ p.2.cls = .none := by
    intro p hp
    rcases List.mem_cons.mp hp with rfl | hp
    · exact Or.inl rfl
    rcases List.mem_cons.mp hp with rfl | hp
    · exact Or.inl rfl
    rcases List.mem_cons.mp hp with rfl | hp
    · exact Or.inl rfl
    rcases List.mem_cons.mp hp with rfl | hp
    · exact Or.inr rfl
    exact hfs p hp
  have kb6 : KB h6 aK := kb.keep (fun b o e => k6 _ _ (k5 _ _ (k4 _ _ (k3 _ _ (k2 _ _ e)))))
  obtain ⟨g', kg, c6', up⟩ := c6.rebase (we_cells_ok _ _)
  have kbg : KB g' aK := kb6.inBase c6 hm hcm hfs6 up
  clear c6
  have c6 := c6'
  rw [wTargets_eq]
  show wpAny _ _ (assignInOrder [assign (.Name (Str.ofString "key") _) (wEnv w.params L), assign (.Name (Str.ofString "places") _) (wEnv w.params L), assign (.Name (Str.ofString "counts") _) (wEnv w.params L), assign (.Name (Str.ofString "told") _) (wEnv w.params L)] [Value.ref aK, Value.ref lp, Value.ref lc, Value.ref lt]) _ _ _
  refine wpAny_bind (wpAny_holding (assign_Name ?_))
  refine ws_c c6 (x := Str.ofString "key") (a := L + 1 + 1) (by rw [we_cells]; kernel_rfl!) ?_ (we_kind _ _) (by kernel_rfl!)
  intro h7 c7
  refine wpAny_bind (wpAny_holding (assign_Name ?_))
  refine ws_l c7 ?_ (we_kind _ _) (by kernel_rfl!)
  intro h8 c8
  refine wpAny_bind (wpAny_holding (assign_Name ?_))
  refine ws_l c8 ?_ (we_kind _ _) (by kernel_rfl!)
  intro h9 c9
  refine wpAny_bind (wpAny_holding (assign_Name ?_))
  refine ws_l c9 ?_ (we_kind _ _) (by kernel_rfl!)
  intro h10 c10
  refine wpAny_pure ?_
  dsimp only
  exact k g' aK lp lc lt vs h10 _ z1 z2 kg kbg c10
end Mine
end
section
open PySem PySem.W PyProof.Rows
set_option Elab.async false
set_option maxRecDepth 100000
set_option linter.unusedVariables false
set_option pp.maxSteps 400
namespace Mine
/-- a list comprehension of one clause without tests, by an invariant: D the list, C the names -/
theorem lcg {prog : Program} {w : World} {A : Around} {E : Value → Shared → Prop} {s : Shared} {env : Env} {elt target iter : Expr} {scope : Scope} {cl : List (Str × Addr)} {pos : Pos} {Q : Value → Shared → Prop}
    (hclos : closureFor scope env = pure cl) (hcell : ∀ y ∈ scope.names, y.2 ≠ .cell) (hkind : scope.kind = .function) (hnames : ∀ y ∈ scope.names, y.2 = .local → scope.names.lookup y.1 = some .local)
    (ht : ∀ it v, letOwnedTupleGo target it v = pure ())
    (h : wpAny (model prog w) A (eval iter env) (fun xv s₁ => wpAny (model prog w) A (pyIter xv) (fun it s₂ =>
      ∀ D C h₃ tk, Keep s₂.heap h₃ → s₂.heap.get? D = none → s₂.heap.get? C = none → D ≠ C → h₃.Ns C (fun _ => none) → h₃.get? D = some (listOf #[] 0) →
        ∃ (I : Nat → Shared → Prop) (n : Nat), I n { s₂ with heap := h₃, toks := tk } ∧
          (∀ s (Q' : Value → Shared → Prop) E', I n s → Q' it s → wpAny (model prog w) A (pyIter it) Q' E' s) ∧
          ∀ n s, I n s → wpAny (model prog w) A (pyNext it) (fun r s₃ => match r with
            | none => ∃ m, s₃.heap.Ns C m ∧ ∀ h', Heap.SameBut C s₃.heap h' → Q (.ref D) { s₃ with heap := h' }
            | some v => wpAny (model prog w) A (assign target (compEnvC scope cl C env) v) (fun _ s₄ => wpAny (model prog w) A (eval elt (compEnvC scope cl C env)) (fun y s₅ =>
                wpAny (model prog w) A (call (.builtin "list.append") [.ref D, y]) (fun _ s₆ => ∃ m, m < n ∧ I m s₆) (fun _ _ => False) s₅) (fun _ _ => False) s₄) (fun _ _ => False) s₃) (fun _ _ => False) s) E s₁) E s)
    (hs : ∀ x, foldedSetIterable iter env x = pure x := by intro _; rfl) :
    wpAny (model prog w) A (eval (.ListComp elt [⟨target, iter, [], 0⟩] scope pos) env) Q E s := by
  rw [eval_ListComp]
  refine wpAny_comprehension_free (use := none) rfl hs hclos hkind hnames (wpAny_mono h (fun xv s₁ h₁ => wpAny_mono h₁ (fun it s₂ h₂ => ?_) fun _ _ e => e) fun _ _ e => e)
  refine wpAny_newObj_type (wpAny_newFunctionEnv hcell (by intro y hy; simp at hy) (fun h₁ hns₁ hsb₁ => ?_) hkind)
  dsimp only at hns₁ hsb₁ ⊢
  have fresh : ∀ a, s₂.heap.objs.size ≤ a → s₂.heap.get? a = none := fun a ha => Heap.get?_none_of_le ha
  have hD : (s₂.heap.push { cls := .type "list", dict := none, data := .seq ([] : List Value).toArray }).get? s₂.heap.objs.size = some (listOf #[] 0) := Heap.get?_push_size _ rfl
  have k1 : Keep s₂.heap (s₂.heap.push { cls := .type "list", dict := none, data := .seq ([] : List Value).toArray }) := fun b o e => Heap.get?_push_of_some _ e
  have hz : (s₂.heap.push { cls := .type "list", dict := none, data := .seq ([] : List Value).toArray }).objs.size = s₂.heap.objs.size + 1 := Heap.size_push ..
  generalize (s₂.heap.push { cls := .type "list", dict := none, data := .seq ([] : List Value).toArray }) = H2 at *
  have ne : s₂.heap.objs.size ≠ H2.objs.size := by omega
  have le2 : s₂.heap.objs.size ≤ H2.objs.size := by omega
  have keep : Keep s₂.heap h₁ := by
    intro b o e
    have l := Heap.lt_size e
    have ne' : b ≠ H2.objs.size := Nat.ne_of_lt (Nat.lt_of_lt_of_le l le2)
    exact hsb₁.extBut b o ne' (Heap.get?_push_of_some _ (k1 _ _ e))
  obtain ⟨I, n, hI, hself, turn⟩ := h₂ s₂.heap.objs.size H2.objs.size h₁ (s₂.toks + ([] : List (Str × Value)).length) keep (fresh _ (Nat.le_refl _)) (fresh H2.objs.size le2) ne hns₁ (hsb₁.extBut _ _ ne (Heap.get?_push_of_some _ hD))
  have loop : ∀ s, I n s → codeAny (model prog w) A (.compLoop (.ListComp elt [⟨target, iter, [], 0⟩] scope pos) 0 it (.ref s₂.heap.objs.size) (compEnvC scope cl H2.objs.size env)) (compPost (model prog w) A E none Q (.ref s₂.heap.objs.size) H2.objs.size) s := by
    intro s hs
    refine codeAny_compLoop_list I (fun k s' hk => wpAny_mono (turn k s' hk) (fun r s₃ h₃ => ?_) fun _ _ x => x.elim) n hs (fun v => ht it v)
    cases r with
    | none => exact h₃
    | some v => exact wpAny_mono h₃ (fun _ s₄ h₄ => wpAny_mono h₄ (fun y s₅ h₅ => wpAny_mono h₅ (fun _ _ q => q) fun _ _ x => x.elim) fun _ _ x => x.elim) fun _ _ x => x.elim
  exact codeAny_compStart_list (loop _ hI) (hself _ _ _ hI (loop _ hI))
/-- a list comprehension of one clause with one test, by an invariant: D the list, C the names -/
theorem lcg1 {prog : Program} {w : World} {A : Around} {E : Value → Shared → Prop} {s : Shared} {env : Env} {elt target iter tst : Expr} {scope : Scope} {cl : List (Str × Addr)} {pos : Pos} {Q : Value → Shared → Prop}
    (hclos : closureFor scope env = pure cl) (hcell : ∀ y ∈ scope.names, y.2 ≠ .cell) (hkind : scope.kind = .function) (hnames : ∀ y ∈ scope.names, y.2 = .local → scope.names.lookup y.1 = some .local)
    (ht : ∀ it v, letOwnedTupleGo target it v = pure ())
    (h : wpAny (model prog w) A (eval iter env) (fun xv s₁ => wpAny (model prog w) A (pyIter xv) (fun it s₂ =>
      ∀ D C h₃ tk, Keep s₂.heap h₃ → s₂.heap.get? D = none → s₂.heap.get? C = none → D ≠ C → h₃.Ns C (fun _ => none) → h₃.get? D = some (listOf #[] 0) →
        ∃ (I : Nat → Shared → Prop) (n : Nat), I n { s₂ with heap := h₃, toks := tk } ∧
          (∀ s (Q' : Value → Shared → Prop) E', I n s → Q' it s → wpAny (model prog w) A (pyIter it) Q' E' s) ∧
          ∀ n s, I n s → wpAny (model prog w) A (pyNext it) (fun r s₃ => match r with
            | none => ∃ m, s₃.heap.Ns C m ∧ ∀ h', Heap.SameBut C s₃.heap h' → Q (.ref D) { s₃ with heap := h' }
            | some v => wpAny (model prog w) A (assign target (compEnvC scope cl C env) v) (fun _ s₄ => wpAny (model prog w) A (isTrue tst (compEnvC scope cl C env) (eval tst (compEnvC scope cl C env))) (fun ok s₅ => if ok = true then wpAny (model prog w) A (eval elt (compEnvC scope cl C env)) (fun y s₆ =>
                wpAny (model prog w) A (call (.builtin "list.append") [.ref D, y]) (fun _ s₇ => ∃ m, m < n ∧ I m s₇) (fun _ _ => False) s₆) (fun _ _ => False) s₅ else ∃ m, m < n ∧ I m s₅) (fun _ _ => False) s₄) (fun _ _ => False) s₃) (fun _ _ => False) s) E s₁) E s)
    (hs : ∀ x, foldedSetIterable iter env x = pure x := by intro _; rfl) :
    wpAny (model prog w) A (eval (.ListComp elt [⟨target, iter, [tst], 0⟩] scope pos) env) Q E s := by
  rw [eval_ListComp]
  refine wpAny_comprehension_free (use := none) rfl hs hclos hkind hnames (wpAny_mono h (fun xv s₁ h₁ => wpAny_mono h₁ (fun it s₂ h₂ => ?_) fun _ _ e => e) fun _ _ e => e)
  refine wpAny_newObj_type (wpAny_newFunctionEnv hcell (by intro y hy; simp at hy) (fun h₁ hns₁ hsb₁ => ?_) hkind)
  dsimp only at hns₁ hsb₁ ⊢
  have fresh : ∀ a, s₂.heap.objs.size ≤ a → s₂.heap.get? a = none := fun a ha => Heap.get?_none_of_le ha
  have hD : (s₂.heap.push { cls := .type "list", dict := none, data := .seq ([] : List Value).toArray }).get? s₂.heap.objs.size = some (listOf #[] 0) := Heap.get?_push_size _ rfl
  have k1 : Keep s₂.heap (s₂.heap.push { cls := .type "list", dict := none, data := .seq ([] : List Value).toArray }) := fun b o e => Heap.get?_push_of_some _ e
  have hz : (s₂.heap.push { cls := .type "list", dict := none, data := .seq ([] : List Value).toArray }).objs.size = s₂.heap.objs.size + 1 := Heap.size_push ..
  generalize (s₂.heap.push { cls := .type "list", dict := none, data := .seq ([] : List Value).toArray }) = H2 at *
  have ne : s₂.heap.objs.size ≠ H2.objs.size := by omega
  have le2 : s₂.heap.objs.size ≤ H2.objs.size := by omega
  have keep : Keep s₂.heap h₁ := by
    intro b o e
    have l := Heap.lt_size e
    have ne' : b ≠ H2.objs.size := Nat.ne_of_lt (Nat.lt_of_lt_of_le l le2)
    exact hsb₁.extBut b o ne' (Heap.get?_push_of_some _ (k1 _ _ e))
  obtain ⟨I, n, hI, hself, turn⟩ := h₂ s₂.heap.objs.size H2.objs.size h₁ (s₂.toks + ([] : List (Str × Value)).length) keep (fresh _ (Nat.le_refl _)) (fresh H2.objs.size le2) ne hns₁ (hsb₁.extBut _ _ ne (Heap.get?_push_of_some _ hD))
  have loop : ∀ s, I n s → codeAny (model prog w) A (.compLoop (.ListComp elt [⟨target, iter, [tst], 0⟩] scope pos) 0 it (.ref s₂.heap.objs.size) (compEnvC scope cl H2.objs.size env)) (compPost (model prog w) A E none Q (.ref s₂.heap.objs.size) H2.objs.size) s := by
    intro s hs
    refine codeAny_compLoop_tests I (fun k s' hk => wpAny_mono (turn k s' hk) (fun r s₃ h₃ => ?_) fun _ _ x => x.elim) n hs (fun v => ht it v)
    cases r with
    | none => exact h₃
    | some v =>
      refine wpAny_mono h₃ (fun _ s₄ h₄ => wpAny_tests_one (wpAny_mono h₄ (fun ok s₅ h₅ => ?_) fun _ _ x => x.elim)) fun _ _ x => x.elim
      cases ok with
      | false => exact h₅
      | true => exact wpAny_mono h₅ (fun y s₆ h₆ => wpAny_mono h₆ (fun _ _ q => q) fun _ _ x => x.elim) fun _ _ x => x.elim
  exact codeAny_compStart_list (loop _ hI) (hself _ _ _ hI (loop _ hI))
end Mine
end
section
open PySem PySem.W PySem.W.X PyProof.Rows PySem.Calls
set_option Elab.async false
set_option maxRecDepth 100000
set_option linter.unusedVariables false
set_option pp.maxSteps 400
namespace Mine
section
theorem range5_x {w : World} {h : Heap} {g : Array GenState} {d : Drawn} {t : Nat} {os : OsState} {u : Tok} (KX : (Kc w.params).In h) :
    wpAny (model PP w) AA (call (.type "range") [.int 5 u]) (fun v s' => ∃ a t1 t2, v = .ref a ∧ s'.heap.get? a = some ⟨.type "range", none, .fields #[.int 0 t1, .int 5 u, .int 1 t2], #[]⟩ ∧ (∀ b o, h.get? b = some o → s'.heap.get? b = some o) ∧ Rest ⟨h, g, d, t, os⟩ s') (fun _ _ => False) ⟨h, g, d, t, os⟩ := range_n
end
theorem p_tcall : typeLookup (.type "type") "__call__" = pure (some (.builtin "type.__call__")) := by kernel_rfl
/-- the class called -/
theorem cw_K {w : World} {A : Around} {E : Value → Shared → Prop} {s : Shared} {env : Env} {aK : Addr} {pos : Pos} {e : Expr} {rest : List Expr} {Q : Value → Shared → Prop}
    (h : wpAny (model PP w) A (spliced (backTo pos (starEach (e :: rest) env))) (fun vs s₁ => KB s₁.heap aK ∧ wpAny (model PP w) A (call (.ref aK) vs) Q E s₁) E s)
    (he : starEach (e :: rest) env = (false, eval e env) :: starEach rest env := by rfl) (hplain : (backTo pos (starEach rest env)).any (·.1) = false := by rfl) :
    wpAny (model PP w) A (callWith pos (.ref aK) [] (backTo pos (starEach (e :: rest) env)) []) Q E s := by
  rw [he] at h ⊢
  refine callWith_of (P := fun h => KB h aK) (by show ((false || (backTo pos (starEach rest env)).any (·.1)) || false) = false; rw [hplain]; rfl) (fun h X => ⟨.machine, .inr (.inl rfl), ?_⟩) (evalArgs_plain h)
  obtain ⟨aN, sl0, sl1, sl2, sl3, sl4, sl5, e⟩ := X.cls
  intro A Q E s kk q
  have e' := kk _ _ e
  unfold keeperOf
  refine wpAny_bind (wpAny_load e' ?_)
  dsimp only
  refine wpAny_bind ?_
  unfold specialOf
  refine wpAny_bind (typeOf_ref e' ?_)
  refine wpAny_of_eq p_tcall ?_
  exact wpAny_pure q
end Mine
end
section
open PySem PySem.W PySem.W.X PyProof.Rows PySem.Calls
set_option Elab.async false
set_option maxRecDepth 100000
set_option linter.unusedVariables false
set_option pp.maxSteps 400
namespace Mine
noncomputable def wBd : List Stmt := stBody (PP.main.body.getD 20 (.Pass default))
theorem wBd_eq : wBody = wBd := by kernel_rfl
theorem wT_eq (i : Nat) : wT i = wBd.getD i (.Pass default) := by unfold wT; rw [wBd_eq]
noncomputable def lcScp (st : Stmt) : Scope := match st with | .Assign _ (.ListComp _ _ sc _) _ => sc | .Assign _ (.Subscript (.ListComp _ _ sc _) _ _) _ => sc | _ => default
noncomputable def kScp : Scope := lcScp (wBd.getD 1 (.Pass default))
theorem wT1 : ∃ p1 p2 p3 p4 p5 p6 p7 p8 p9 p10 p11 p12 p13 p14 p15 p16 p17 p18 p19 p20, wBd.getD 1 (.Pass default) = .Assign [.Name (Str.ofString "keys") p1] (.ListComp
    (.Call (.Name (Str.ofString "key") p2) [.List [.Constant (.int 0) 0 p3, .Subscript (.Subscript (.Name (Str.ofString "speeds") p4) (.Name (Str.ofString "k") p5) p6) (.Constant (.int 0) 0 p7) p8,
      .Subscript (.Subscript (.Name (Str.ofString "speeds") p9) (.Name (Str.ofString "k") p10) p11) (.Constant (.int 1) 0 p12) p13, .Name (Str.ofString "k") p14] p15] [] p16)
    [⟨.Name (Str.ofString "k") p17, .Call (.Name (Str.ofString "range") p18) [.Constant (.int 5) 0 p19] [] p20, [], 0⟩] kScp (pV (wBd.getD 1 (.Pass default)))) (pA (wBd.getD 1 (.Pass default))) :=
  ⟨_, _, _, _, _, _, _, _, _, _, _, _, _, _, _, _, _, _, _, _, rfl⟩
theorem kScp_names : kScp.names = [(Str.ofString ".0", .local), (Str.ofString "k", .local), (Str.ofString "key", .free), (Str.ofString "speeds", .free)] := by kernel_rfl
theorem kScp_kind : kScp.kind = .function := by kernel_rfl
theorem kScp_cell : ∀ y ∈ kScp.names, y.2 ≠ .cell := by
  rw [kScp_names]; intro y hy
  simp only [List.mem_cons, List.not_mem_nil, or_false] at hy
  rcases hy with rfl | rfl | rfl | rfl <;> simp
theorem kScp_look : ∀ y ∈ kScp.names, y.2 = .local → kScp.names.lookup y.1 = some .local := by
  rw [kScp_names]; intro y hy
  simp only [List.mem_cons, List.not_mem_nil, or_false] at hy
  rcases hy with rfl | rfl | rfl | rfl
  · intro _; kernel_rfl!
  · intro _; kernel_rfl!
  · intro h; cases h
  · intro h; cases h
noncomputable abbrev kCl (L : Addr) : List (Str × Addr) := [(Str.ofString "speeds", L + 1), (Str.ofString "key", L + 1 + 1)]
theorem kClos (P : Params) (L : Addr) : closureFor kScp (wEnv P L) = pure (kCl L) := by kernel_rfl
/-- the comprehension's frame -/
noncomputable def kEnv (P : Params) (L C : Addr) : Env := compEnvC kScp (kCl L) C (wEnv P L)
theorem ke_kind (P : Params) (L C : Addr) : (kEnv P L C).scope.kind = .function := by kernel_rfl
theorem ke_k (P : Params) (L C : Addr) : (kEnv P L C).kindOf (Str.ofString "k") = some .local := by kernel_rfl
theorem ke_key (P : Params) (L C : Addr) : (kEnv P L C).kindOf (Str.ofString "key") = some .cell := by kernel_rfl
theorem ke_sp (P : Params) (L C : Addr) : (kEnv P L C).kindOf (Str.ofString "speeds") = some .cell := by kernel_rfl
theorem ke_ckey (P : Params) (L C : Addr) : (kEnv P L C).cells.lookup (Str.ofString "key") = some (L + 1 + 1) := by kernel_rfl
theorem ke_csp (P : Params) (L C : Addr) : (kEnv P L C).cells.lookup (Str.ofString "speeds") = some (L + 1) := by kernel_rfl
end Mine
end
section
open PySem PySem.W PySem.W.X PyProof.Rows PySem.Calls
set_option Elab.async false
set_option maxRecDepth 100000
set_option linter.unusedVariables false
set_option pp.maxSteps 500
namespace Mine
theorem Wc.notIn {g h : Heap} {env : Env} {m cm : Str → Option Value} {fs : List (Addr × Obj)} {a : Addr} (c : Wc g env m cm fs h) (na : h.get? a = none) : a ≠ env.locals ∧ (∀ n, env.cells.lookup n ≠ some a) ∧ (∀ p ∈ fs, p.1 ≠ a) := by
  refine ⟨fun q => ?_, fun n e => ?_, fun p hp q => ?_⟩
  · obtain ⟨o', _, _, e, _⟩ := c.ns
    rw [← q, na] at e; cases e
  · obtain ⟨o', e', _⟩ := (c.cell n a e).1
    rw [na] at e'; cases e'
  · have := (c.fo p hp).1
    rw [q, na] at this; cases this
theorem Wc.sublist {g h : Heap} {env : Env} {m cm : Str → Option Value} {fs fs' : List (Addr × Obj)} (c : Wc g env m cm fs h) (k : fs'.Sublist fs) : Wc g env m cm fs' h :=
  ⟨c.ns, c.old, c.gL, c.cell, c.inj, fun p hp => c.fo p (k.subset hp), (k.map _).nodup c.nd⟩
theorem Wc.addAt {g h : Heap} {env : Env} {m cm mC : Str → Option Value} {fs : List (Addr × Obj)} {D C : Addr} {oD oC : Obj} (c : Wc g env m cm ((D, oD) :: fs) h) (ns : h.Ns C mC) (hC : h.get? C = some oC) (nf : C ≠ env.locals ∧ (∀ n, env.cells.lookup n ≠ some C) ∧ (∀ p ∈ fs, p.1 ≠ C)) (ng : g.get? C = none) (DC : C ≠ D) : Wc g env m cm ((C, oC) :: (D, oD) :: fs) h := by
  refine ⟨c.ns, c.old, c.gL, c.cell, c.inj, ?_, ?_⟩
  · intro p hp
    rcases List.mem_cons.mp hp with rfl | hp
    · exact ⟨hC, ng, nf.1, nf.2.1⟩
    · exact c.fo p hp
  · rw [List.map_cons, List.nodup_cons]
    refine ⟨fun hm => ?_, c.nd⟩
    obtain ⟨p, hp, e⟩ := List.mem_map.mp hm
    rcases List.mem_cons.mp hp with rfl | hp
    · exact DC e.symm
    · exact nf.2.2 p hp e
/-- list.append -/
theorem append_c {w : World} {A : Around} {E : Value → Shared → Prop} {s : Shared} {l : Addr} {items : Array Value} {n : Nat} {v : Value} {Q : Value → Shared → Prop} (hl : s.heap.get? l = some (listOf items n)) (hz : items.size ≤ 100)
    (h : ∀ h' n', Heap.SameBut l s.heap h' → h'.get? l = some (listOf (items.push v) n') → Q .none { s with heap := h' }) : wpAny (model PP w) A (call (.builtin "list.append") [.ref l, v]) Q E s := by
  have il : s.heap.IsList l items := PySem.IsL.isList hl
  refine wpAny_call_entry PySem.slot_list_append il.typeIs PySem.entry_list_append ?_ (PySem.args_list_append _ _)
  show wpAny _ _ (updateSeq l (·.push v) >>= fun _ => ret .none) _ _ s
  refine wpAny_bind ?_
  refine wpAny_updateSeq hl rfl (wpAny_pure ⟨.none, rfl, ?_⟩) ?_
  · exact h _ _ (Heap.SameBut.update ..) (PySem.IsL.update hl (·.push v))
  · rw [sizeLine_eq]; omega
/-- the speeds -/
noncomputable def SpAt (g : Heap) (ls : Addr) (a b : Nat → Int) : Prop := ∃ (ps : List Addr) (n : Nat), g.get? ls = some (listOf (ps.map Value.ref).toArray n) ∧ ps.length = 5 ∧
  ∀ k p, ps[k]? = some p → ∃ t1 t2 e, g.get? p = some (Obj.mk (.type "list") none (.seq #[.int (a k) t1, .int (b k) t2] e) #[])
theorem SpAt.keep {g g' : Heap} {ls : Addr} {a b : Nat → Int} (x : SpAt g ls a b) (k : Keep g g') : SpAt g' ls a b :=
  let ⟨ps, n, e, l, f⟩ := x; ⟨ps, n, k _ _ e, l, fun j p q => let ⟨t1, t2, e, z⟩ := f j p q; ⟨t1, t2, e, k _ _ z⟩⟩
/-- speeds[k][j] -/
theorem sp_c {w : World} {A : Around} {E : Value → Shared → Prop} {s : Shared} {env : Env} {ls cS : Addr} {a b : Nat → Int} {mC : Str → Option Value} {k : Nat} {tk : Tok} {p1 p2 p3 p4 p5 : Pos} {Q : Value → Shared → Prop} {j : Nat}
    (sp : SpAt s.heap ls a b) (hk : env.scope.kind = .function) (hs : env.kindOf (Str.ofString "speeds") = some .cell) (hc : env.cells.lookup (Str.ofString "speeds") = some cS) (hi : s.heap.IsCell cS (some (.ref ls)))
    (hkk : env.kindOf (Str.ofString "k") = some .local) (hn : s.heap.Ns env.locals mC) (hm : mC (Str.ofString "k") = some (.int (k : Int) tk)) (k5 : k < 5) (hj : j < 2)
    (h : ∀ t' t0, Q (.int (if j = 0 then a k else b k) t0) { s with toks := t' }) :
    wpAny (model PP w) A (eval (.Subscript (.Subscript (.Name (Str.ofString "speeds") p1) (.Name (Str.ofString "k") p2) p3) (.Constant (.int (j : Int)) 0 p4) p5) env) Q E s := by
  obtain ⟨ps, n, e, l, f⟩ := sp
  obtain ⟨p, hp⟩ : ∃ p, ps[k]? = some p := ⟨_, List.getElem?_eq_getElem (by omega)⟩
  obtain ⟨t1, t2, ep, ho⟩ := f k p hp
  refine Subscript_ ?_
  refine Subscript_ ?_
  refine wpAny_Name (wpAny_loadName_cell hk hs hc hi ?_) (by decide)
  refine wpAny_Name (wpAny_loadName_local hk hkk hn hm ?_) (by decide)
  refine item_list (PySem.IsL.isList e) (Int.natCast_nonneg _) (by omega) (x := .ref p) (by simp [hp]) ?_ (by with_unfolding_all rfl) (fun _ => by with_unfolding_all rfl)
  refine wpAny_Constant_int ?_
  have il : s.heap.IsList p #[.int (a k) t1, .int (b k) t2] := PySem.IsL.isList ho
  rcases (by omega : j = 0 ∨ j = 1) with rfl | rfl
  · refine kba_turn (value' := .Name (Str.ofString "_") ⟨0, 0, 0, 0⟩) (fun _ => rfl) ?_
    refine item_list il (by decide) (by decide) (x := .int (a k) t1) rfl ?_ (by with_unfolding_all rfl) (fun _ => rfl)
    exact h _ t1
  · refine kba_turn (value' := .Name (Str.ofString "_") ⟨0, 0, 0, 0⟩) (fun _ => rfl) ?_
    refine item_list il (by decide) (by decide) (x := .int (b k) t2) rfl ?_ (by with_unfolding_all rfl) (fun _ => rfl)
    exact h _ t2
end Mine
end
section
open PySem PySem.W PySem.W.X PyProof.Rows PySem.Calls
set_option Elab.async false
set_option maxRecDepth 100000
set_option linter.unusedVariables false
set_option pp.maxSteps 500
namespace Mine
noncomputable abbrev riO (x l : Int) : Obj := { cls := .type "range_iterator", dict := none, data := .fields #[rawInt x, rawInt l, rawInt 1], slots := #[] }
set_option maxHeartbeats 4000000 in
theorem w2_c {w : World} {A : Around} {s : Shared} {g : Heap} {L : Addr} {m cm : Str → Option Value} {fs : List (Addr × Obj)} {aK ls : Addr} {a b : Nat → Int} {Q : Flow → Shared → Prop} {E : Value → Shared → Prop}
    (hA : Low A 20) (B : Amb w g) (c : Wc g (wEnv w.params L) m cm fs s.heap) (kb : KB g aK) (sp : SpAt g ls a b) (hck : cm (Str.ofString "key") = some (.ref aK)) (hcs : cm (Str.ofString "speeds") = some (.ref ls))
    (k : ∀ (g' : Heap) (lk : Addr) (ks : List Addr) (n : Nat) (h' : Heap) (t' : Nat), Keep g g' → ks.length = 5 → (∀ (j : Nat) x, ks[j]? = some x → IsKey g' aK x ⟨0, a j, b j, j⟩) →
      Wc g' (wEnv w.params L) m (fun y => if y = Str.ofString "keys" then some (.ref lk) else cm y) ((lk, listOf (ks.map Value.ref).toArray n) :: fs) h' → Q .next { s with heap := h', toks := t' }) :
    wpAny (model PP w) A (exec (wT 1) (wEnv w.params L)) Q E s := by
  rw [wT_eq]
  obtain ⟨p1, p2, p3, p4, p5, p6, p7, p8, p9, p10, p11, p12, p13, p14, p15, p16, p17, p18, p19, p20, e⟩ := wT1
  rw [e]
  refine wpAny_Assign_Name ?_ (by kernel_rfl!)
  refine lcg (kClos _ _) kScp_cell kScp_kind kScp_look (fun _ _ => rfl) ?_
  refine Call_ ?_
  refine nm_built B c.old (by kernel_rfl) (v := .type "range") boot_range ?_ (by decide) (we_kind _ _) (wk_g _ _ _ (by kernel_rfl!)) (we_glob _ _) (we_blt _ _)
  refine PyProof.Rows.callWith_type1 ?_
  refine args_cons ?_
  refine wpAny_Constant_int ?_
  refine args_nil ?_
  obtain ⟨hh, gg, dd, tt, oo⟩ := s
  dsimp only at *
  refine noE (hA.run (wpAny_mono (range5_x (Frag.In.keeps B.X c.old)) ?_ (fun _ _ x => x.elim)))
  rintro _ ⟨h1, gA, dA, t1, oA⟩ ⟨ra, ta, tb, rfl, hra, k1, rfl, rfl, rfl⟩
  refine wpAny_pyIter_range hra (by decide) ?_
  dsimp only
  have hit : IsRangeIter (h1.push { cls := .type "range_iterator", data := .fields #[rawInt 0, rawInt (Builtin.Range.rangeSize 0 5 1), rawInt 1] }) h1.objs.size 0 5 1 := Heap.get?_push_size _ rfl
  have k2 : Keep h1 (h1.push { cls := .type "range_iterator", data := .fields #[rawInt 0, rawInt (Builtin.Range.rangeSize 0 5 1), rawInt 1] }) := fun b o e => Heap.get?_push_of_some _ e
  have nit : h1.get? h1.objs.size = none := Heap.get?_none_of_le (Nat.le_refl _)
  generalize h1.push { cls := .type "range_iterator", data := .fields #[rawInt 0, rawInt (Builtin.Range.rangeSize 0 5 1), rawInt 1] } = h2 at hit k2 ⊢
  generalize h1.objs.size = it at hit nit ⊢
  have c2 := (c.keep k1).add k2 nit hit
  intro D C h3 t3 k3 nD nC DC nsC hD
  have c3 := c2.add k3 nD hD
  obtain ⟨oC, esC, epC, hC, dC, rC⟩ := id nsC
  have c4 : Wc g (wEnv w.params L) m cm ((C, oC) :: (D, listOf #[] 0) :: (it, riO 0 5) :: fs) h3 := by
    have nf := c2.notIn nC
    have c3' := c2.keep k3
    refine ⟨c3.ns, c3.old, c3.gL, c3.cell, c3.inj, ?_, ?_⟩
    · intro p hp
      rcases List.mem_cons.mp hp with rfl | hp
      · refine ⟨hC, ?_, nf.1, nf.2.1⟩
        cases q : g.get? C with
        | none => rfl
        | some o => rw [c2.old _ _ q] at nC; cases nC
      · exact c3.fo p hp
    · rw [List.map_cons, List.nodup_cons]
      refine ⟨fun hm => ?_, c3.nd⟩
      obtain ⟨p, hp, e⟩ := List.mem_map.mp hm
      rcases List.mem_cons.mp hp with rfl | hp
      · exact DC e
      · exact nf.2.2 p hp e
  refine ⟨fun n s' => ∃ (j : Nat) (h t : _) (oC oI : Obj) (mC : Str → Option Value) (xs : List Addr) (nn : Nat) (g1 : Heap), n + j = 5 ∧ s' = ⟨h, gA, dA, t, oA⟩ ∧ Keep g g1 ∧ Wc g1 (wEnv w.params L) m cm ((C, oC) :: (D, listOf (xs.map Value.ref).toArray nn) :: (it, oI) :: fs) h ∧
      IsRangeIter h it (j : Int) ((5 - j : Nat) : Int) 1 ∧ h.Ns C mC ∧ xs.length = j ∧ ∀ (i : Nat) x, xs[i]? = some x → IsKey g1 aK x ⟨0, a i, b i, i⟩, 5, ?_, ?_, ?_⟩
  · exact ⟨0, h3, _, oC, _, _, [], 0, g, rfl, rfl, fun _ _ e => e, c4, c4.at 2 rfl, nsC, rfl, fun i x q => by simp at q⟩
  · rintro s' Q' E' ⟨j, h, t, oC, oI, mC, xs, nn, g1, hj, rfl, kg, cc, hi, hn, hl, hx⟩ hq
    exact wpAny_pyIter_rangeiter hi hq
  · clear c c2 c3 c4 hit hD nsC hC
    rintro n s' ⟨j, h, t, oC, oI, mC, xs, nn, g1, hj, rfl, kg, cc, hi, hn, hl, hx⟩
    rcases Nat.eq_zero_or_pos n with rfl | hn0
    · have j5 : j = 5 := by omega
      subst j5
      refine wpAny_pyNext_range_end hA.hd hi (by decide) ?_
      intro h' x'
      dsimp only
      have nCI : C ≠ it := fun q => by have z := cc.nd; simp [q] at z
      have nDI : D ≠ it := fun q => by have z := cc.nd; simp [q] at z
      have nDC : C ≠ D := fun q => by have z := cc.nd; simp [q] at z
      have fI := cc.fo (it, oI) (List.Mem.tail _ (List.Mem.tail _ (List.Mem.head _)))
      have fC := cc.fo (C, oC) (List.Mem.head _)
      have c5 : Wc g1 (wEnv w.params L) m cm ((C, oC) :: (D, listOf (xs.map Value.ref).toArray nn) :: fs) h' := (cc.sublist (fs' := (C, oC) :: (D, listOf (xs.map Value.ref).toArray nn) :: fs) (((List.sublist_cons_self _ _).cons₂ _).cons₂ _)).but x' fI.2.1 fI.2.2.1 fI.2.2.2 (fun p hp q => by
        have z := cc.nd
        simp only [List.map_cons, List.nodup_cons] at z
        rcases List.mem_cons.mp hp with rfl | hp
        · exact nCI q
        rcases List.mem_cons.mp hp with rfl | hp
        · exact nDI q
        · exact z.2.2.1 (q ▸ List.mem_map_of_mem hp))
      refine ⟨mC, hn.extBut x' nCI, fun h'' y' => ?_⟩
      have c6 : Wc g1 (wEnv w.params L) m cm ((D, listOf (xs.map Value.ref).toArray nn) :: fs) h'' := (c5.sublist (List.sublist_cons_self _ _)).but y'.extBut fC.2.1 fC.2.2.1 fC.2.2.2 (fun p hp q => by
        have z := c5.nd
        simp only [List.map_cons, List.nodup_cons] at z
        exact z.1 (q ▸ List.mem_map_of_mem hp))
      refine ws_c c6 (x := Str.ofString "keys") (a := L + 1 + 1 + 1) (by rw [we_cells]; kernel_rfl!) ?_ (we_kind _ _) (by kernel_rfl!)
      intro h7 c7
      exact k g1 D xs nn h7 t kg hl hx c7
    · refine wpAny_pyNext_range_item hi (by omega) ?_
      intro h' hi' x'
      dsimp only
      have nCI : C ≠ it := fun q => by have z := cc.nd; simp [q] at z
      have nDI : D ≠ it := fun q => by have z := cc.nd; simp [q] at z
      have nDC : C ≠ D := fun q => by have z := cc.nd; simp [q] at z
      have c5 := cc.ext 2 rfl x'.extBut hi'
      have hn5 := hn.sameBut x' nCI
      show wpAny _ _ (assign (.Name (Str.ofString "k") p17) (kEnv w.params L C) _) _ _ _
      refine wpAny_assign_Name (wpAny_storeName_local (ke_k _ _ _) hn5 (fun h6 hn6 x6 => ?_) (by rw [ke_kind]; rfl))
      obtain ⟨o6, es6, ep6, ho6, _⟩ := id hn6
      have c6 := c5.ext 0 rfl x6.extBut ho6
      have hi6 : IsRangeIter h6 it ((j : Int) + 1) (((5 - j : Nat) : Int) - 1) 1 := x6.extBut _ _ (Ne.symm nCI) hi'
      show wpAny _ _ (eval _ (kEnv w.params L C)) _ _ _
      have lkey : (wEnv w.params L).cells.lookup (Str.ofString "key") = some (L + 1 + 1) := by rw [we_cells]; kernel_rfl!
      have lsp : (wEnv w.params L).cells.lookup (Str.ofString "speeds") = some (L + 1) := by rw [we_cells]; kernel_rfl!
      refine Call_ ?_
      refine wpAny_Name (wpAny_loadName_cell (ke_kind _ _ _) (ke_key _ _ _) (ke_ckey _ _ _) (hck ▸ (c6.cell _ _ lkey).1) ?_) (by decide)
      refine cw_K ?_
      refine args_cons ?_
      refine List_ ?_
      refine args_cons ?_
      refine wpAny_Constant_int ?_
      refine args_cons ?_
      refine sp_c (j := 0) ((sp.keep kg).keep c6.old) (ke_kind _ _ _) (ke_sp _ _ _) (ke_csp _ _ _) (hcs ▸ (c6.cell _ _ lsp).1) (ke_k _ _ _) hn6 (if_pos rfl) (by omega) (by decide) ?_
      intro ta' sa
      refine args_cons ?_
      refine sp_c (j := 1) ((sp.keep kg).keep c6.old) (ke_kind _ _ _) (ke_sp _ _ _) (ke_csp _ _ _) (hcs ▸ (c6.cell _ _ lsp).1) (ke_k _ _ _) hn6 (if_pos rfl) (by omega) (by decide) ?_
      intro tb' sb
      refine args_cons ?_
      refine wpAny_Name (wpAny_loadName_local (ke_kind _ _ _) (ke_k _ _ _) hn6 (if_pos rfl) ?_) (by decide)
      refine args_nil ?_
      refine wpAny_newList ?_
      dsimp only
      have hl6 : (h6.push { cls := .type "list", data := .seq [Value.int 0 (t + 1 + 1), Value.int (if (0 : Nat) = 0 then a j else b j) sa, Value.int (if (1 : Nat) = 0 then a j else b j) sb, Value.int (j : Int) t].toArray }).get? h6.objs.size = some (Obj.mk (.type "list") none (.seq #[.int 0 (t + 1 + 1), .int (a j) sa, .int (b j) sb, .int (j : Int) t] 0) #[]) := Heap.get?_push_size _ rfl
      have k6 : Keep h6 (h6.push { cls := .type "list", data := .seq [Value.int 0 (t + 1 + 1), Value.int (if (0 : Nat) = 0 then a j else b j) sa, Value.int (if (1 : Nat) = 0 then a j else b j) sb, Value.int (j : Int) t].toArray }) := fun b o e => Heap.get?_push_of_some _ e
      have n6 : h6.get? h6.objs.size = none := Heap.get?_none_of_le (Nat.le_refl _)
      generalize (h6.push { cls := .type "list", data := .seq [Value.int 0 (t + 1 + 1), Value.int (if (0 : Nat) = 0 then a j else b j) sa, Value.int (if (1 : Nat) = 0 then a j else b j) sb, Value.int (j : Int) t].toArray }) = h7 at hl6 k6 ⊢
      generalize h6.objs.size = l at hl6 n6 ⊢
      have c7 := c6.keep k6
      refine args_nil ⟨(kb.keep kg).keep c7.old, ?_⟩
      refine kmake_c (m := ⟨0, a j, b j, j⟩) hA (by decide) (Frag.In.keeps (B.X) (fun b o e => c7.old _ _ (kg _ _ e))) ((kb.keep kg).keep c7.old) hl6 ?_
      intro x h8 t8 dx k8 nx ndx hk hkd
      have c8 := c7.keep k8
      refine append_c (c8.at 1 rfl) (by simp [hl]; omega) ?_
      intro h9 n9 x9 e9
      have nx6 : h6.get? x = none := by
        cases q : h6.get? x with
        | none => rfl
        | some o => rw [k6 _ _ q] at nx; cases nx
      obtain ⟨g2, kg2, c9, up⟩ := c8.rebase (we_cells_ok _ _)
      have key2 : IsKey g2 aK x ⟨0, a j, b j, j⟩ := by
        have nX := c7.notIn nx
        have nD := c7.notIn ndx
        have nLl := c6.notIn n6
        exact ⟨l, dx, _, _, _, _, _, up x _ hk nX.1 nX.2.1 nX.2.2, up dx _ hkd nD.1 nD.2.1 nD.2.2, up l _ (k8 _ _ hl6) nLl.1 nLl.2.1 nLl.2.2⟩
      have c10 := c9.ext 1 rfl x9.extBut e9
      refine ⟨n - 1, by omega, j + 1, h9, t8, o6, riO ((j : Int) + 1) (((5 - j : Nat) : Int) - 1), (fun y => if y = Str.ofString "k" then some (.int (j : Int) t) else mC y), xs ++ [x], n9, g2, by omega, rfl, fun b o e => kg2 _ _ (kg _ _ e), ?_, ?_, ?_, by simp [hl], ?_⟩
      · have e1 : ((xs ++ [x]).map Value.ref).toArray = ((xs.map Value.ref).toArray).push (.ref x) := by simp
        rw [e1]; exact c10
      · have hi8 := k8 _ _ (k6 _ _ hi6)
        have hi9 := x9.extBut _ _ (Ne.symm nDI) hi8
        have q1 : (((j + 1 : Nat)) : Int) = (j : Int) + 1 := by omega
        have q2 : ((5 - (j + 1) : Nat) : Int) = ((5 - j : Nat) : Int) - 1 := by omega
        rw [q1, q2]; exact hi9
      · exact ((hn6.keeps k6).keeps k8).extBut x9.extBut nDC
      · intro i y hy
        rcases Nat.lt_or_ge i xs.length with q | q
        · rw [List.getElem?_append_left q] at hy
          exact (hx i y hy).keep kg2
        · rw [List.getElem?_append_right q] at hy
          have q0 : i - xs.length = 0 := by
            rcases Nat.eq_zero_or_pos (i - xs.length) with z | z
            · exact z
            · rw [List.getElem?_eq_none (by simp; omega)] at hy; cases hy
          rw [q0] at hy
          simp at hy
          subst hy
          have : i = j := by omega
          subst this
          exact key2
end Mine
end
section
open PySem PySem.W PySem.W.X PyProof.Rows PySem.Calls
set_option Elab.async false
set_option maxRecDepth 100000
set_option linter.unusedVariables false
set_option pp.maxSteps 500
namespace Mine
theorem wT2 : ∃ p1 p2 p3 p4 p5 p6, wBd.getD 2 (.Pass default) = .Assign [.Name (Str.ofString "heap") p1] (.Subscript (.Name (Str.ofString "keys") p2) (.Slice none none (some (.UnaryOp .USub (.Constant (.int 1) 0 p3) p4)) p5) p6) (pA (wBd.getD 2 (.Pass default))) := ⟨_, _, _, _, _, _, rfl⟩
theorem wT3 : ∃ p1 p2 p3 p4, wBd.getD 3 (.Pass default) = .Expr (.Call (.Name (Str.ofString "heapify") p1) [.Name (Str.ofString "heap") p2] [] p3) p4 := ⟨_, _, _, _, rfl⟩
theorem w3_c {w : World} {A : Around} {s : Shared} {g : Heap} {L : Addr} {m cm : Str → Option Value} {fs : List (Addr × Obj)} {lk : Addr} {ks : List Addr} {n : Nat} {Q : Flow → Shared → Prop} {E : Value → Shared → Prop}
    (hA : Low A 20) (B : Amb w g) (c : Wc g (wEnv w.params L) m cm ((lk, listOf (ks.map Value.ref).toArray n) :: fs) s.heap) (hck : cm (Str.ofString "keys") = some (.ref lk)) (hz : ks.length = 5)
    (k : ∀ (lh : Addr) (h' : Heap) (t' : Nat), Wc g (wEnv w.params L) m (fun y => if y = Str.ofString "heap" then some (.ref lh) else cm y) ((lh, listOf (ks.reverse.map Value.ref).toArray 0) :: (lk, listOf (ks.map Value.ref).toArray n) :: fs) h' → Q .next { s with heap := h', toks := t' }) :
    wpAny (model PP w) A (exec (wT 2) (wEnv w.params L)) Q E s := by
  rw [wT_eq]
  obtain ⟨p1, p2, p3, p4, p5, p6, e⟩ := wT2
  rw [e]
  refine wpAny_Assign_Name ?_ (by kernel_rfl!)
  refine Subscript_ ?_
  refine wn_c c (a := L + 1 + 1 + 1) (by rw [we_cells]; kernel_rfl!) hck ?_ (we_kind _ _) (by kernel_rfl!)
  refine wpAny_Slice ?_
  refine wpAny_pure ?_
  refine wpAny_pure ?_
  show wpAny _ _ (eval (.UnaryOp .USub (.Constant (.int 1) 0 p3) p4) (wEnv w.params L)) _ _ _
  refine wpAny_UnaryOp ?_
  refine wpAny_Constant_int ?_
  refine PyProof.Rows.neg_int ?_
  dsimp only
  have hs : (s.heap.push { cls := .type "slice", data := .fields #[.none, .none, .int (-1) (s.toks + 1)] }).IsSliceOf s.heap.objs.size .none .none (.int (-1) (s.toks + 1)) := Heap.IsSliceOf.new ..
  have k1 : Keep s.heap (s.heap.push { cls := .type "slice", data := .fields #[.none, .none, .int (-1) (s.toks + 1)] }) := fun b o e => Heap.get?_push_of_some _ e
  generalize (s.heap.push { cls := .type "slice", data := .fields #[.none, .none, .int (-1) (s.toks + 1)] }) = h1 at hs k1 ⊢
  generalize s.heap.objs.size = sl at hs ⊢
  have c1 := c.keep k1
  have il : h1.IsList lk (ks.map Value.ref).toArray := PySem.IsL.isList (c1.at 0 rfl)
  refine subscriptTail_ops (T := "list") il.typeIs list_getitem_lookup (wpAny_getItem_list_slice il hs .none .none (.int (-1) _) (by decide) ?_ (by rw [sizeLine_eq]; simp; omega)) (by with_unfolding_all rfl) (fun _ => rfl)
  dsimp only
  rw [krv_pick]
  have e2 : (ks.map Value.ref).toArray.toList.reverse.toArray = (ks.reverse.map Value.ref).toArray := by simp
  rw [e2]
  have hl : (h1.push { cls := .type "list", data := .seq (ks.reverse.map Value.ref).toArray }).get? h1.objs.size = some (listOf (ks.reverse.map Value.ref).toArray 0) := Heap.get?_push_size _ rfl
  have k2 : Keep h1 (h1.push { cls := .type "list", data := .seq (ks.reverse.map Value.ref).toArray }) := fun b o e => Heap.get?_push_of_some _ e
  have nl : h1.get? h1.objs.size = none := Heap.get?_none_of_le (Nat.le_refl _)
  generalize (h1.push { cls := .type "list", data := .seq (ks.reverse.map Value.ref).toArray }) = h2 at hl k2 ⊢
  generalize h1.objs.size = lh at hl nl ⊢
  have c2 := c1.add k2 nl hl
  refine ws_c c2 (x := Str.ofString "heap") (a := L + 1 + 1 + 1 + 1) (by rw [we_cells]; kernel_rfl!) ?_ (we_kind _ _) (by kernel_rfl!)
  intro h3 c3
  exact k lh h3 _ c3
end Mine
end
section
open PySem PySem.W PySem.W.X PyProof.Rows PySem.Calls
set_option Elab.async false
set_option maxRecDepth 100000
set_option linter.unusedVariables false
set_option pp.maxSteps 500
namespace Mine
theorem w4_c {w : World} {A : Around} {s : Shared} {g : Heap} {L : Addr} {m cm : Str → Option Value} {fs : List (Addr × Obj)} {lh aK : Addr} {xs : List Addr} {n : Nat} {Q : Flow → Shared → Prop} {E : Value → Shared → Prop}
    (hA : Low A 20) (B : Amb w g) (kb : KB g aK) (c : Wc g (wEnv w.params L) m cm ((lh, listOf (xs.map Value.ref).toArray n) :: fs) s.heap) (hch : cm (Str.ofString "heap") = some (.ref lh)) (hz : xs.length = 5) (hS : ∀ y ∈ xs, KeyOk g aK y)
    (k : ∀ (h' : Heap) (t' n' : Nat), Wc g (wEnv w.params L) m cm ((lh, listOf ((hfGo (rankOf g aK) 2 xs).map Value.ref).toArray n') :: fs) h' → Q .next { s with heap := h', toks := t' }) :
    wpAny (model PP w) A (exec (wT 3) (wEnv w.params L)) Q E s := by
  rw [wT_eq]
  obtain ⟨p1, p2, p3, p4, e⟩ := wT3
  rw [e]
  refine wpAny_Expr ?_
  refine Call_ ?_
  refine nm_glob B c.old (v := .ref 35) (by kernel_rfl) ?_ (we_kind _ _) (wk_g _ _ _ (by kernel_rfl!)) (we_glob _ _)
  refine cw_static (f := 35) B rfl rfl ?_
  refine args_cons ?_
  refine wn_c c (a := L + 1 + 1 + 1 + 1) (by rw [we_cells]; kernel_rfl!) hch ?_ (we_kind _ _) (by kernel_rfl!)
  refine args_nil ⟨c.old, ?_⟩
  refine noE (heapify_c (g := g) (hA.less (by decide)) B c.old (c.fo _ (List.Mem.head _)).2.1 (lt_ok B.X kb) ⟨n, c.at 0 rfl⟩ hS hz ?_)
  rintro h' t' x' ⟨n', e'⟩
  exact k h' t' n' (c.ext 0 rfl x' e')
end Mine
end
section
open PySem PySem.W PySem.W.X PyProof.Rows PySem.Calls
set_option Elab.async false
set_option maxRecDepth 100000
set_option linter.unusedVariables false
set_option pp.maxSteps 500
namespace Mine
noncomputable def whB : List Stmt := match wBd.getD 4 (.Pass default) with | .While _ b _ _ => b | _ => []
noncomputable def wB (i : Nat) : Stmt := whB.getD i (.Pass default)
noncomputable def hScp : Scope := lcScp (wB 0)
theorem wB0 : ∃ p1 p2 p3 p4 p5 p6 p7 p8 p9 p10 p11 p12 p13 p14 p15 p16, wB 0 = .Assign [.Name (Str.ofString "hand") p1] (.Subscript (.ListComp (.Name (Str.ofString "k") p2)
    [⟨.Name (Str.ofString "k") p3, .Call (.Name (Str.ofString "range") p4) [.Constant (.int 5) 0 p5] [] p6, [.Compare (.Subscript (.Name (Str.ofString "keys") p7) (.Name (Str.ofString "k") p8) p9) [.Is] [.Subscript (.Name (Str.ofString "heap") p10) (.Constant (.int 0) 0 p11) p12] p13], 0⟩] hScp p14)
    (.Constant (.int 0) 0 p15) p16) (pA (wB 0)) := ⟨_, _, _, _, _, _, _, _, _, _, _, _, _, _, _, _, rfl⟩
theorem hScp_names : hScp.names = [(Str.ofString ".0", .local), (Str.ofString "k", .local), (Str.ofString "heap", .free), (Str.ofString "keys", .free)] := by kernel_rfl
theorem hScp_kind : hScp.kind = .function := by kernel_rfl
theorem hScp_cell : ∀ y ∈ hScp.names, y.2 ≠ .cell := by
  rw [hScp_names]; intro y hy
  simp only [List.mem_cons, List.not_mem_nil, or_false] at hy
  rcases hy with rfl | rfl | rfl | rfl <;> simp
theorem hScp_look : ∀ y ∈ hScp.names, y.2 = .local → hScp.names.lookup y.1 = some .local := by
  rw [hScp_names]; intro y hy
  simp only [List.mem_cons, List.not_mem_nil, or_false] at hy
  rcases hy with rfl | rfl | rfl | rfl
  · intro _; kernel_rfl!
  · intro _; kernel_rfl!
  · intro h; cases h
  · intro h; cases h
noncomputable abbrev hCl (L : Addr) : List (Str × Addr) := [(Str.ofString "keys", L + 1 + 1 + 1), (Str.ofString "heap", L + 1 + 1 + 1 + 1)]
theorem hClos (P : Params) (L : Addr) : closureFor hScp (wEnv P L) = pure (hCl L) := by kernel_rfl
noncomputable def hEnv (P : Params) (L C : Addr) : Env := compEnvC hScp (hCl L) C (wEnv P L)
theorem he_kind (P : Params) (L C : Addr) : (hEnv P L C).scope.kind = .function := by kernel_rfl
theorem he_k (P : Params) (L C : Addr) : (hEnv P L C).kindOf (Str.ofString "k") = some .local := by kernel_rfl
theorem he_keys (P : Params) (L C : Addr) : (hEnv P L C).kindOf (Str.ofString "keys") = some .cell := by kernel_rfl
theorem he_heap (P : Params) (L C : Addr) : (hEnv P L C).kindOf (Str.ofString "heap") = some .cell := by kernel_rfl
theorem he_ckeys (P : Params) (L C : Addr) : (hEnv P L C).cells.lookup (Str.ofString "keys") = some (L + 1 + 1 + 1) := by kernel_rfl
theorem he_cheap (P : Params) (L C : Addr) : (hEnv P L C).cells.lookup (Str.ofString "heap") = some (L + 1 + 1 + 1 + 1) := by kernel_rfl
theorem lkeys (P : Params) (L : Addr) : (wEnv P L).cells.lookup (Str.ofString "keys") = some (L + 1 + 1 + 1) := by rw [we_cells]; kernel_rfl!
theorem lheap (P : Params) (L : Addr) : (wEnv P L).cells.lookup (Str.ofString "heap") = some (L + 1 + 1 + 1 + 1) := by rw [we_cells]; kernel_rfl!
set_option maxHeartbeats 4000000 in
theorem b0_c {w : World} {A : Around} {s : Shared} {g : Heap} {L : Addr} {m cm : Str → Option Value} {fs : List (Addr × Obj)} {lk lh aK : Addr} {ks xs : List Addr} {x0 : Addr} {n1 n2 i : Nat} {Q : Flow → Shared → Prop} {E : Value → Shared → Prop}
    (hA : Low A 20) (B : Amb w g) (c : Wc g (wEnv w.params L) m cm ((lh, listOf ((x0 :: xs).map Value.ref).toArray n1) :: (lk, listOf (ks.map Value.ref).toArray n2) :: fs) s.heap)
    (hck : cm (Str.ofString "keys") = some (.ref lk)) (hch : cm (Str.ofString "heap") = some (.ref lh)) (h5 : ks.length = 5) (hi : ks[i]? = some x0) (hinj : ∀ j, ks[j]? = some x0 → j = i) (hKs : ∀ y ∈ ks, ∃ tm, IsKey g aK y tm)
    (k : ∀ (h' : Heap) (t' t0 : Nat), Wc g (wEnv w.params L) (fun y => if y = Str.ofString "hand" then some (.int (i : Int) t0) else m y) cm ((lh, listOf ((x0 :: xs).map Value.ref).toArray n1) :: (lk, listOf (ks.map Value.ref).toArray n2) :: fs) h' → Q .next { s with heap := h', toks := t' }) :
    wpAny (model PP w) A (exec (wB 0) (wEnv w.params L)) Q E s := by
  have i5 : i < 5 := by
    rcases Nat.lt_or_ge i ks.length with q | q
    · omega
    · rw [List.getElem?_eq_none q] at hi; cases hi
  obtain ⟨p1, p2, p3, p4, p5, p6, p7, p8, p9, p10, p11, p12, p13, p14, p15, p16, e⟩ := wB0
  rw [e]
  refine wpAny_Assign_Name ?_ (by kernel_rfl!)
  refine Subscript_ ?_
  refine lcg1 (hClos _ _) hScp_cell hScp_kind hScp_look (fun _ _ => rfl) ?_
  refine Call_ ?_
  refine nm_built B c.old (by kernel_rfl) (v := .type "range") boot_range ?_ (by decide) (we_kind _ _) (wk_g _ _ _ (by kernel_rfl!)) (we_glob _ _) (we_blt _ _)
  refine PyProof.Rows.callWith_type1 ?_
  refine args_cons ?_
  refine wpAny_Constant_int ?_
  refine args_nil ?_
  obtain ⟨hh, gg, dd, tt, oo⟩ := s
  dsimp only at *
  refine noE (hA.run (wpAny_mono (range5_x (Frag.In.keeps B.X c.old)) ?_ (fun _ _ x => x.elim)))
  rintro _ ⟨h1, gA, dA, t1, oA⟩ ⟨ra, ta, tb, rfl, hra, k1, rfl, rfl, rfl⟩
  refine wpAny_pyIter_range hra (by decide) ?_
  dsimp only
  have hit : IsRangeIter (h1.push { cls := .type "range_iterator", data := .fields #[rawInt 0, rawInt (Builtin.Range.rangeSize 0 5 1), rawInt 1] }) h1.objs.size 0 5 1 := Heap.get?_push_size _ rfl
  have k2 : Keep h1 (h1.push { cls := .type "range_iterator", data := .fields #[rawInt 0, rawInt (Builtin.Range.rangeSize 0 5 1), rawInt 1] }) := fun b o e => Heap.get?_push_of_some _ e
  have nit : h1.get? h1.objs.size = none := Heap.get?_none_of_le (Nat.le_refl _)
  generalize h1.push { cls := .type "range_iterator", data := .fields #[rawInt 0, rawInt (Builtin.Range.rangeSize 0 5 1), rawInt 1] } = h2 at hit k2 ⊢
  generalize h1.objs.size = it at hit nit ⊢
  have c2 := (c.keep k1).add k2 nit hit
  intro D C h3 t3 k3 nD nC DC nsC hD
  have c3 := c2.add k3 nD hD
  obtain ⟨oC, esC, epC, hC, dC, rC⟩ := id nsC
  have c4 := c3.addAt nsC hC (c2.notIn nC) (by
      cases q : g.get? C with
      | none => rfl
      | some o => rw [c2.old _ _ q] at nC; cases nC) (fun q => DC q.symm)
  refine ⟨fun n s' => ∃ (j : Nat) (h t : _) (oC oI : Obj) (mC : Str → Option Value) (nn : Nat) (ti : Tok), n + j = 5 ∧ s' = ⟨h, gA, dA, t, oA⟩ ∧ Wc g (wEnv w.params L) m cm ((C, oC) :: (D, listOf (if j ≤ i then #[] else #[.int (i : Int) ti]) nn) :: (it, oI) :: (lh, listOf ((x0 :: xs).map Value.ref).toArray n1) :: (lk, listOf (ks.map Value.ref).toArray n2) :: fs) h ∧
      IsRangeIter h it (j : Int) ((5 - j : Nat) : Int) 1 ∧ h.Ns C mC, 5, ?_, ?_, ?_⟩
  · exact ⟨0, h3, _, oC, _, _, 0, 0, rfl, rfl, by rw [if_pos (Nat.zero_le _)]; exact c4, c4.at 2 rfl, nsC⟩
  · rintro s' Q' E' ⟨j, h, t, oC, oI, mC, nn, ti, hj, rfl, cc, hi, hn⟩ hq
    exact wpAny_pyIter_rangeiter hi hq
  · clear c c2 c3 c4 hit hD nsC hC
    rintro n s' ⟨j, h, t, oC, oI, mC, nn, ti, hj, rfl, cc, hii, hn⟩
    have nCI : C ≠ it := fun q => by have z := cc.nd; simp [q] at z
    have nDI : D ≠ it := fun q => by have z := cc.nd; simp [q] at z
    have nDC : C ≠ D := fun q => by have z := cc.nd; simp [q] at z
    rcases Nat.eq_zero_or_pos n with rfl | hn0
    · have j5 : j = 5 := by omega
      subst j5
      refine wpAny_pyNext_range_end hA.hd hii (by decide) ?_
      intro h' x'
      dsimp only
      rw [if_neg (by omega)] at cc
      have fI := cc.fo (it, oI) (List.Mem.tail _ (List.Mem.tail _ (List.Mem.head _)))
      have fC := cc.fo (C, oC) (List.Mem.head _)
      have z := cc.nd
      simp only [List.map_cons, List.nodup_cons] at z
      have c5 := (cc.sublist (((List.sublist_cons_self (it, oI) _).cons₂ _).cons₂ _)).but x' fI.2.1 fI.2.2.1 fI.2.2.2 (fun p hp q => by
        rcases List.mem_cons.mp hp with rfl | hp
        · exact nCI q
        rcases List.mem_cons.mp hp with rfl | hp
        · exact nDI q
        · exact z.2.2.1 (q ▸ List.mem_map_of_mem hp))
      refine ⟨mC, hn.extBut x' nCI, fun h'' y' => ?_⟩
      have c6 := (c5.sublist (List.sublist_cons_self _ _)).but y'.extBut fC.2.1 fC.2.2.1 fC.2.2.2 (fun p hp q => by
        have z := c5.nd
        simp only [List.map_cons, List.nodup_cons] at z
        exact z.1 (q ▸ List.mem_map_of_mem hp))
      refine wpAny_Constant_int ?_
      refine kba_turn (value' := .Name (Str.ofString "_") ⟨0, 0, 0, 0⟩) (fun _ => rfl) ?_
      have il : h''.IsList D #[.int (i : Int) ti] := PySem.IsL.isList (c6.at 0 rfl)
      refine item_list il (by decide) (by decide) (x := .int (i : Int) ti) rfl ?_ (by with_unfolding_all rfl) (fun _ => rfl)
      have c7 := c6.sublist (List.sublist_cons_self _ _)
      refine ws_l c7 ?_ (we_kind _ _) (by kernel_rfl!)
      intro h8 c8
      exact k h8 _ ti c8
    · refine wpAny_pyNext_range_item hii (by omega) ?_
      intro h' hi' x'
      dsimp only
      have c5 := cc.ext 2 rfl x'.extBut hi'
      have hn5 := hn.sameBut x' nCI
      show wpAny _ _ (assign (.Name (Str.ofString "k") p3) (hEnv w.params L C) _) _ _ _
      refine wpAny_assign_Name (wpAny_storeName_local (he_k _ _ _) hn5 (fun h6 hn6 x6 => ?_) (by rw [he_kind]; rfl))
      obtain ⟨o6, es6, ep6, ho6, _⟩ := id hn6
      have c6 := c5.ext 0 rfl x6.extBut ho6
      have hi6 : IsRangeIter h6 it ((j : Int) + 1) (((5 - j : Nat) : Int) - 1) 1 := x6.extBut _ _ (Ne.symm nCI) hi'
      show wpAny _ _ (isTrue _ (hEnv w.params L C) (eval _ (hEnv w.params L C))) _ _ _
      obtain ⟨y, hy⟩ : ∃ y, ks[j]? = some y := ⟨_, List.getElem?_eq_getElem (by omega)⟩
      have ilk : h6.IsList lk (ks.map Value.ref).toArray := PySem.IsL.isList (c6.at 4 rfl)
      have ilh : h6.IsList lh ((x0 :: xs).map Value.ref).toArray := PySem.IsL.isList (c6.at 3 rfl)
      refine wpAny_isTrue_Compare1 ?_
      refine Subscript_ ?_
      refine wpAny_Name (wpAny_loadName_cell (he_kind _ _ _) (he_keys _ _ _) (he_ckeys _ _ _) (hck ▸ (c6.cell _ _ (lkeys _ _)).1) ?_) (by decide)
      refine wpAny_Name (wpAny_loadName_local (he_kind _ _ _) (he_k _ _ _) hn6 (if_pos rfl) ?_) (by decide)
      refine item_list ilk (Int.natCast_nonneg _) (by omega) (x := .ref y) (by simp [hy]) ?_ (by with_unfolding_all rfl) (fun _ => rfl)
      refine Subscript_ ?_
      refine wpAny_Name (wpAny_loadName_cell (he_kind _ _ _) (he_heap _ _ _) (he_cheap _ _ _) (hch ▸ (c6.cell _ _ (lheap _ _)).1) ?_) (by decide)
      refine wpAny_Constant_int ?_
      refine item_list ilh (by decide) (by decide) (x := .ref x0) (by simp) ?_ (by with_unfolding_all rfl) (fun _ => rfl)
      have q1 : (((j + 1 : Nat)) : Int) = (j : Int) + 1 := by omega
      have q2 : ((5 - (j + 1) : Nat) : Int) = ((5 - j : Nat) : Int) - 1 := by omega
      by_cases hyx : y = x0
      · subst hyx
        have ji := hinj j hy
        subst ji
        refine wpAny_is_ref_self ?_
        refine wpAny_truthy_bool ?_
        rw [if_pos rfl]
        show wpAny _ _ (eval _ (hEnv w.params L C)) _ _ _
        refine wpAny_Name (wpAny_loadName_local (he_kind _ _ _) (he_k _ _ _) hn6 (if_pos rfl) ?_) (by decide)
        rw [if_pos (Nat.le_refl _)] at c6
        refine append_c (c6.at 1 rfl) (by simp) ?_
        intro h9 n9 x9 e9
        have c10 := c6.ext 1 rfl x9.extBut e9
        refine ⟨n - 1, by omega, j + 1, h9, _, o6, riO ((j : Int) + 1) (((5 - j : Nat) : Int) - 1), _, n9, t, by omega, rfl, ?_, ?_, hn6.extBut x9.extBut nDC⟩
        · rw [if_neg (by omega)]; exact c10
        · rw [q1, q2]; exact x9.extBut _ _ (Ne.symm nDI) hi6
      · obtain ⟨tm, l', dx, u1, u2, u3, u4, ee, hy1, _⟩ := hKs y (List.mem_of_getElem? hy)
        obtain ⟨tm', l'', dx', v1, v2, v3, v4, ee', hx1, _⟩ := hKs x0 (List.mem_of_getElem? hi)
        refine wpAny_is_ref_other hyx (c6.old _ _ hy1) (c6.old _ _ hx1) (by simp) ?_
        refine wpAny_truthy_bool ?_
        rw [if_neg (by decide)]
        have ji : j ≠ i := fun q => by subst q; rw [hi] at hy; cases hy; exact hyx rfl
        refine ⟨n - 1, by omega, j + 1, h6, _, o6, riO ((j : Int) + 1) (((5 - j : Nat) : Int) - 1), _, nn, ti, by omega, rfl, ?_, by rw [q1, q2]; exact hi6, hn6⟩
        have e2 : (if j + 1 ≤ i then (#[] : Array Value) else #[.int (i : Int) ti]) = (if j ≤ i then #[] else #[.int (i : Int) ti]) := by
          by_cases q : j ≤ i
          · rw [if_pos q, if_pos (by omega)]
          · rw [if_neg q, if_neg (by omega)]
        rw [e2]
        exact c6
end Mine
end
section
open PySem PySem.W PySem.W.X PyProof.Rows PySem.Calls
set_option Elab.async false
set_option maxRecDepth 100000
set_option linter.unusedVariables false
set_option pp.maxSteps 500
namespace Mine
noncomputable abbrev nmE (s : String) (p : Pos) : Expr := .Name (Str.ofString s) p
theorem wB1 : ∃ p1 p2 p3 p4 p5 p6 p7 p8 p9 p10 p11 p12 p13 p14, wB 1 = .Assign [.Tuple [nmE "writing" p1, nmE "place" p2, nmE "first" p3] 0 p4]
    (.Tuple [.Subscript (nmE "writings" p5) (nmE "hand" p6) p7, .Subscript (nmE "places" p8) (nmE "hand" p9) p10, .Subscript (nmE "keys" p11) (nmE "hand" p12) p13] 0 p14) (pA (wB 1)) := ⟨_, _, _, _, _, _, _, _, _, _, _, _, _, _, rfl⟩
noncomputable def sgT (st : Stmt) : List Expr := match st with | .Assign t _ _ => t | _ => []
noncomputable def sgV (st : Stmt) : Expr := match st with | .Assign _ v _ => v | _ => default
theorem wB1_sw (P : Params) (L : Addr) (t v p) (e : wB 1 = .Assign t v p) : swappedStores t v (wEnv P L) = pure (some [Str.ofString "writing", Str.ofString "place", Str.ofString "first"]) := by
  have h : swappedStores (sgT (wB 1)) (sgV (wB 1)) (wEnv P L) = pure (some [Str.ofString "writing", Str.ofString "place", Str.ofString "first"]) := by kernel_rfl!
  rw [e] at h
  exact h
/-- a list of ints -/
noncomputable def IntL (vs : List Value) (f : Nat → Int) : Prop := vs.length = 5 ∧ ∀ i, i < 5 → ∃ t, vs[i]? = some (.int (f i) t)
theorem IntL.set {vs : List Value} {f : Nat → Int} (x : IntL vs f) {i : Nat} {v : Int} {t : Tok} : IntL (vs.set i (.int v t)) (fun j => if j = i then v else f j) := by
  refine ⟨by rw [List.length_set]; exact x.1, fun j hj => ?_⟩
  rw [List.getElem?_set]
  by_cases q : i = j
  · subst q
    rw [if_pos rfl, if_pos (by have := x.1; omega)]
    exact ⟨t, by simp⟩
  · rw [if_neg q]
    obtain ⟨t, e⟩ := x.2 j hj
    have q' : ¬ j = i := fun z => q z.symm
    exact ⟨t, by rw [e]; simp [q']⟩
/-- the writings -/
noncomputable def WrAt (g : Heap) (lw : Addr) (x : Nat → Str) : Prop := ∃ (vs : List Value) (n : Nat), g.get? lw = some (listOf vs.toArray n) ∧ vs.length = 5 ∧ ∀ i, i < 5 → ∃ t, vs[i]? = some (.str (x i) t)
theorem WrAt.keep {g g' : Heap} {lw : Addr} {x : Nat → Str} (z : WrAt g lw x) (k : Keep g g') : WrAt g' lw x := let ⟨vs, n, e, r⟩ := z; ⟨vs, n, k _ _ e, r⟩
set_option maxHeartbeats 400000 in
theorem b1_c {w : World} {A : Around} {s : Shared} {g : Heap} {L : Addr} {m cm : Str → Option Value} {fs : List (Addr × Obj)} {lk lh lw lp y : Addr} {x : Nat → Str} {ps : List Value} {f : Nat → Int} {ks : List Addr} {n2 n5 i : Nat} {ti : Tok} {Q : Flow → Shared → Prop} {E : Value → Shared → Prop}
    (hA : Low A 20) (c : Wc g (wEnv w.params L) m cm fs s.heap) (hk : (lk, listOf (ks.map Value.ref).toArray n2) ∈ fs) (hp : (lp, listOf ps.toArray n5) ∈ fs)
    (hck : cm (Str.ofString "keys") = some (.ref lk)) (hmh : m (Str.ofString "hand") = some (.int (i : Int) ti)) (hmw : m (Str.ofString "writings") = some (.ref lw)) (hmp : m (Str.ofString "places") = some (.ref lp))
    (W : WrAt g lw x) (P : IntL ps f) (h5 : ks.length = 5) (i5 : i < 5) (hy : ks[i]? = some y)
    (k : ∀ (h' : Heap) (t' t0 t1 : Nat), Wc g (wEnv w.params L) (fun z => if z = Str.ofString "writing" then some (.str (x i) t0) else if z = Str.ofString "place" then some (.int (f i) t1) else if z = Str.ofString "first" then some (.ref y) else m z) cm fs h' → Q .next { s with heap := h', toks := t' }) :
    wpAny (model PP w) A (exec (wB 1) (wEnv w.params L)) Q E s := by
  obtain ⟨p1, p2, p3, p4, p5, p6, p7, p8, p9, p10, p11, p12, p13, p14, e⟩ := wB1
  obtain ⟨vs, n, ew, lw5, fw⟩ := W
  obtain ⟨t0, e0⟩ := fw i i5
  obtain ⟨t1, e1⟩ := P.2 i i5
  have P1 := P.1
  rw [e]
  refine Assign_Tuple_swapped (names := [Str.ofString "writing", Str.ofString "place", Str.ofString "first"]) ?_ (by kernel_rfl!) (wB1_sw _ _ _ _ _ e)
  refine Tuple_ ?_
  refine args_cons ?_
  refine Subscript_ ?_
  refine wn_l c hmw ?_ (we_kind _ _) (by kernel_rfl!)
  refine wn_l c hmh ?_ (we_kind _ _) (by kernel_rfl!)
  refine item_list (PySem.IsL.isList (c.old _ _ ew)) (Int.natCast_nonneg _) (by simp; omega) (x := .str (x i) t0) (by simp [e0]) ?_ (by with_unfolding_all rfl) (fun _ => rfl)
  refine args_cons ?_
  refine Subscript_ ?_
  refine wn_l c hmp ?_ (we_kind _ _) (by kernel_rfl!)
  refine wn_l c hmh ?_ (we_kind _ _) (by kernel_rfl!)
  refine item_list (PySem.IsL.isList (c.fo _ hp).1) (Int.natCast_nonneg _) (by simp; omega) (x := .int (f i) t1) (by simp [e1]) ?_ (by with_unfolding_all rfl) (fun _ => rfl)
  refine args_cons ?_
  refine Subscript_ ?_
  refine wn_c c (a := L + 1 + 1 + 1) (lkeys _ _) hck ?_ (we_kind _ _) (by kernel_rfl!)
  refine wn_l c hmh ?_ (we_kind _ _) (by kernel_rfl!)
  refine item_list (PySem.IsL.isList (c.fo _ hk).1) (Int.natCast_nonneg _) (by simp; omega) (x := .ref y) (by simp [hy]) ?_ (by with_unfolding_all rfl) (fun _ => rfl)
  refine args_nil ?_
  refine wpAny_newTuple ?_
  have ht : IsTup (s.heap.push { cls := .type "tuple", data := .seq [Value.str (x i) t0, Value.int (f i) t1, Value.ref y].toArray }) s.heap.objs.size #[Value.str (x i) t0, Value.int (f i) t1, Value.ref y] := ⟨_, Heap.get?_push_size _ rfl, rfl, _, rfl⟩
  have k5 : Keep s.heap (s.heap.push { cls := .type "tuple", data := .seq [Value.str (x i) t0, Value.int (f i) t1, Value.ref y].toArray }) := fun b o e => Heap.get?_push_of_some _ e
  generalize (s.heap.push { cls := .type "tuple", data := .seq [Value.str (x i) t0, Value.int (f i) t1, Value.ref y].toArray }) = h5' at ht k5 ⊢
  generalize s.heap.objs.size = tp at ht ⊢
  rw [show [Str.ofString "writing", Str.ofString "place", Str.ofString "first"].length = (#[Value.str (x i) t0, Value.int (f i) t1, Value.ref y] : Array Value).size from rfl]
  refine unpackItems_tuple hA.hd ht (fun h6 x6 => ?_)
  have k6 : Keep h5' h6 := fun b o e => x6 b o (Nat.ne_of_lt (Heap.lt_size e)) e
  have c6 := (c.keep k5).keep k6
  show wpAny _ _ (assignInOrder [bindName _ (Str.ofString "first"), bindName _ (Str.ofString "place"), bindName _ (Str.ofString "writing")] [Value.ref y, Value.int (f i) t1, Value.str (x i) t0]) _ _ _
  refine wpAny_bind (wpAny_holding (bindName_ ?_))
  refine ws_l c6 ?_ (we_kind _ _) (by kernel_rfl!)
  intro h7 c7
  refine wpAny_bind (wpAny_holding (bindName_ ?_))
  refine ws_l c7 ?_ (we_kind _ _) (by kernel_rfl!)
  intro h8 c8
  refine wpAny_bind (wpAny_holding (bindName_ ?_))
  refine ws_l c8 ?_ (we_kind _ _) (by kernel_rfl!)
  intro h9 c9
  refine wpAny_pure ?_
  exact k h9 _ t0 t1 c9
end Mine
end
section
open PySem PySem.W
set_option Elab.async false
set_option maxRecDepth 100000
namespace Mine
/-- the eight signs -/
noncomputable def sgL : List Nat := [38, 60, 62, 34, 13, 10, 9, 97]
noncomputable def sg (r n : Nat) : Nat := sgL.getD ((r + n) % 8) 0
noncomputable def rotS (r : Nat) : Str := ⟨((List.range 8).map (sg r)).toArray⟩
noncomputable def ofS (s : String) : List Nat := s.toList.map Char.toNat
/-- a sign's writing by a hand -/
noncomputable def wr (i c : Nat) : List Nat :=
  if c = 38 then [38, 97, 109, 112, 59]
  else if c = 60 then (if i = 2 then [60] else [38, 108, 116, 59])
  else if c = 62 then (if i = 4 then [62] else [38, 103, 116, 59])
  else if c = 34 then (if i = 1 ∨ i = 2 ∨ i = 4 then [38, 113, 117, 111, 116, 59] else [34])
  else if c = 13 then (if i = 1 then [38, 35, 49, 51, 59] else if i = 3 ∨ i = 4 then [38, 35, 120, 68, 59] else [13])
  else if c = 10 then (if i = 1 then [38, 35, 49, 48, 59] else if i = 4 then [38, 35, 120, 65, 59] else [10])
  else if c = 9 then (if i = 1 then [38, 35, 48, 57, 59] else if i = 4 then [38, 35, 120, 57, 59] else [9])
  else [c]
noncomputable def pc (i r n : Nat) : List Nat := wr i (sg r n)
noncomputable def upto (i r n : Nat) : List Nat := (List.range n).flatMap (pc i r)
noncomputable def wS (i r : Nat) : Str := ⟨(upto i r 8).toArray⟩
end Mine
end
section
open PySem PySem.W PySem.W.X PyProof.Rows PySem.Calls
set_option Elab.async false
set_option maxRecDepth 100000
set_option linter.unusedVariables false
set_option pp.maxSteps 500
namespace Mine
theorem wB2 : ∃ p1 p2 p3 p4 p5 p6 p7 p8 p9 p10 p11 p12 p13 p14 p15 p16 p17 p18 p19 p20 p21 p22 p23, wB 2 = .Assign [nmE "piece" p1] (.IfExp (.Compare (.Subscript (nmE "writing" p2) (nmE "place" p3) p4) [.Eq] [.Constant (.str (Str.ofString "&")) p5 p6] p7)
    (.Subscript (nmE "writing" p8) (.Slice (some (nmE "place" p9)) (some (.BinOp (.Call (.Attribute (nmE "writing" p10) (Str.ofString "find") p11) [.Constant (.str (Str.ofString ";")) p12 p13, nmE "place" p14] [] p15) .Add (.Constant (.int 1) 0 p16) p17)) none p18) p19)
    (.Subscript (nmE "writing" p20) (nmE "place" p21) p22) p23) (pA (wB 2)) ∧ p11.endLine = p15.line := ⟨_, _, _, _, _, _, _, _, _, _, _, _, _, _, _, _, _, _, _, _, _, _, _, rfl, rfl⟩
end Mine
namespace Mine
/-- what the loop needs of a piece at its place -/
noncomputable def pcOk (i r n : Nat) : Bool :=
  let x := wS i r
  let p := (upto i r n).length
  let c := pc i r n
  decide (0 < c.length) && decide (p + c.length ≤ x.length) && decide (x.length ≤ 60) && ((Txt.item x p).cps.toList == c.take 1) && (upto i r (n + 1) == upto i r n ++ c) &&
  (if c.take 1 = [38] then decide (Txt.find3 x (Str.ofString ";") p = ((p + c.length - 1 : Nat) : Int)) && decide ((Txt.slice x (some (p : Int)) (some ((p + c.length - 1 : Nat) + 1 : Int))).cps.toList = c) else decide (c.length = 1))
theorem pcOk_all : ((List.range 5).all fun i => (List.range 8).all fun r => (List.range 8).all fun n => pcOk i r n) = true := by kernel_rfl
theorem pcOk_at {i r n : Nat} (hi : i < 5) (hr : r < 8) (hn : n < 8) : pcOk i r n = true := by
  have h := pcOk_all
  rw [List.all_eq_true] at h
  have h := h i (List.mem_range.mpr hi)
  rw [List.all_eq_true] at h
  have h := h r (List.mem_range.mpr hr)
  rw [List.all_eq_true] at h
  exact h n (List.mem_range.mpr hn)
theorem amp_eq : (Str.ofString "&").cps.toList = [38] := by kernel_rfl!
end Mine
end
section
open PySem PySem.W PySem.W.X PyProof.Rows PySem.Calls
set_option Elab.async false
set_option maxRecDepth 100000
set_option linter.unusedVariables false
set_option pp.maxSteps 500
namespace Mine
/-- a method's call whose place is known by its lines alone -/
theorem MethodL_ {w : World} {A : Around} {E : Value → Shared → Prop} {s : Shared} {env : Env} {o : Expr} {name : Str} {apos pos : Pos} {args : List Expr} {Q : Value → Shared → Prop} (hl : apos.endLine = pos.line)
    (h : wpAny (model PP w) A (eval o env) (fun ov s₁ => wpAny (model PP w) A (getMethod ov name (do return (← importBound o env).getD true)) (fun fx s₂ => wpAny (model PP w) A (callWith pos fx.1 fx.2 (backTo pos (starEach args env)) []) Q E s₂) E s₁) E s)
    (hbase : attributeBase o name env (eval o env) = eval o env := by rfl) (hform : methodCallForm (args.length + ([] : List Keyword).length) (backTo pos (starEach args env)) (backToKw pos (keywordEach [] env)) = true := by rfl) :
    wpAny (model PP w) A (eval (.Call (.Attribute o name apos) args [] pos) env) Q E s := by
  have hline : (apos.endLine == pos.line) = true := by rw [hl]; exact beq_self_eq_true _
  have hpos : methodCallPos true o env apos pos = pure pos := by unfold methodCallPos; simp [hline]
  rw [arm_eval_Call, hbase]
  refine wpAny_bind (wpAny_mono h (fun ov s₁ h₁ => ?_) fun _ _ e => e)
  refine wpAny_bind (wpAny_standAt ?_)
  unfold methodCall
  rw [hform]
  refine wpAny_bind (wpAny_holding (wpAny_mono h₁ (fun fx s₂ h₂ => ?_) fun _ _ e => e))
  exact wpAny_bind (wpAny_of_eq hpos h₂)
end Mine
end
section
open PySem PySem.W PySem.W.X PyProof.Rows PySem.Calls
set_option Elab.async false
set_option maxRecDepth 100000
set_option linter.unusedVariables false
set_option pp.maxSteps 500
namespace Mine
structure PcFacts (i r n : Nat) : Prop where
  c0 : 0 < (pc i r n).length
  fit : (upto i r n).length + (pc i r n).length ≤ (wS i r).length
  len : (wS i r).length ≤ 60
  item : (Txt.item (wS i r) (upto i r n).length).cps.toList = (pc i r n).take 1
  next : upto i r (n + 1) = upto i r n ++ pc i r n
  amp : (pc i r n).take 1 = [38] → Txt.find3 (wS i r) (Str.ofString ";") (upto i r n).length = (((pc i r n).length + (upto i r n).length - 1 : Nat) : Int) ∧ (Txt.slice (wS i r) (some ((upto i r n).length : Int)) (some ((((pc i r n).length + (upto i r n).length - 1 : Nat) : Int) + 1))).cps.toList = pc i r n
  one : (pc i r n).take 1 ≠ [38] → (pc i r n).length = 1
theorem pcFacts {i r n : Nat} (hi : i < 5) (hr : r < 8) (hn : n < 8) : PcFacts i r n := by
  have h := pcOk_at hi hr hn
  unfold pcOk at h
  dsimp only at h
  simp only [Bool.and_eq_true, decide_eq_true_eq, beq_iff_eq] at h
  obtain ⟨⟨⟨⟨⟨h1, h2⟩, h3⟩, h4⟩, h5⟩, h6⟩ := h
  have e : (upto i r n).length + (pc i r n).length - 1 = (pc i r n).length + (upto i r n).length - 1 := by omega
  refine ⟨h1, h2, h3, h4, h5, fun q => ?_, fun q => ?_⟩
  · rw [if_pos q, Bool.and_eq_true, decide_eq_true_eq, decide_eq_true_eq, e] at h6
    exact ⟨h6.1, h6.2⟩
  · rw [if_neg q, decide_eq_true_eq] at h6
    exact h6
theorem str_ext {x : Str} {c : List Nat} (h : x.cps.toList = c) : x = ⟨c.toArray⟩ := by
  obtain ⟨a⟩ := x
  subst h
  rfl
theorem sl_c {w : World} {A : Around} {E : Value → Shared → Prop} {h g : Heap} {gg : Array GenState} {d : Drawn} {t : Nat} {os : OsState} {value slice : Expr} {env : Env} {m cm : Str → Option Value} {fs : List (Addr × Obj)} {x : Str} {t0 ui uj : Tok} {i j : Int} {Q : Value → Shared → Prop}
    (c : Wc g env m cm fs h) (hsz : x.length ≤ 60) (hs : subscripted slice false (.str x t0) (.ref h.objs.size) = operate [.ref h.objs.size, .str x t0] (getItem (.str x t0) (.ref h.objs.size))) (ht : ∀ r, letTemporaryGo value (.str x t0) r = pure ())
    (k : ∀ h' t' k', Wc g env m cm fs h' → Q (.str (Txt.slice x (some i) (some j)) t') ⟨h', gg, d, k', os⟩) :
    wpAny (model PP w) A (subscriptTail value slice (.str x t0) (.ref h.objs.size)) Q E ⟨h.push { cls := .type "slice", data := .fields #[.int i ui, .int j uj, .none] }, gg, d, t, os⟩ :=
  tail_of_ItemOn (SBH.sliceItem_ss (s := ⟨h, gg, d, t, os⟩) (P := fun h => Wc g env m cm fs h) (fun h o x => x.keep (fun b o e => Heap.get?_push_of_some _ e)) c (fun h' t' k' c' => k h' t' k' c') (by rw [sizeLine_eq]; omega)) hs ht
set_option maxHeartbeats 400000 in
theorem b2_c {w : World} {A : Around} {s : Shared} {g : Heap} {L : Addr} {m cm : Str → Option Value} {fs : List (Addr × Obj)} {i r n : Nat} {t0 t1 : Tok} {Q : Flow → Shared → Prop} {E : Value → Shared → Prop}
    (hA : Low A 20) (c : Wc g (wEnv w.params L) m cm fs s.heap) (hw : m (Str.ofString "writing") = some (.str (wS i r) t0)) (hp : m (Str.ofString "place") = some (.int ((upto i r n).length : Int) t1)) (hi : i < 5) (hr : r < 8) (hn : n < 8)
    (k : ∀ (h' : Heap) (t' : Nat) (t2 : Tok), Wc g (wEnv w.params L) (fun z => if z = Str.ofString "piece" then some (.str ⟨(pc i r n).toArray⟩ t2) else m z) cm fs h' → Q .next { s with heap := h', toks := t' }) :
    wpAny (model PP w) A (exec (wB 2) (wEnv w.params L)) Q E s := by
  obtain ⟨p1, p2, p3, p4, p5, p6, p7, p8, p9, p10, p11, p12, p13, p14, p15, p16, p17, p18, p19, p20, p21, p22, p23, e, hl⟩ := wB2
  have F := pcFacts hi hr hn
  have hz := F.len
  have hc0 := F.c0
  have hft := F.fit
  obtain ⟨hh, gg, dd, tt, oo⟩ := s
  dsimp only at *
  rw [e]
  refine wpAny_Assign_Name ?_ (by kernel_rfl!)
  refine IfExp_ ?_
  refine wpAny_isTrue_Compare1 ?_
  refine Subscript_ ?_
  refine wn_l c hw ?_ (we_kind _ _) (by kernel_rfl!)
  refine wn_l c hp ?_ (we_kind _ _) (by kernel_rfl!)
  refine item_str (by unfold fitsSsize; simp; omega) (by omega) (by omega) (fun _ => ?_) (by with_unfolding_all rfl) (fun _ => rfl)
  refine wpAny_Constant_str ?_
  refine PyProof.Rows.eq_str ?_
  refine wpAny_truthy_bool ?_
  have hb : (Txt.item (wS i r) (upto i r n).length == Str.ofString "&") = decide ((pc i r n).take 1 = [38]) := by
    rw [← F.item]
    by_cases q : (Txt.item (wS i r) (upto i r n).length).cps.toList = [38]
    · rw [decide_eq_true q]
      have := str_ext q
      rw [this]
      kernel_rfl!
    · rw [decide_eq_false q]
      refine beq_eq_false_iff_ne.mpr fun z => q ?_
      rw [z]; exact amp_eq
  rw [hb]
  by_cases q : (pc i r n).take 1 = [38]
  · rw [decide_eq_true q, if_pos rfl]
    refine Subscript_ ?_
    refine wn_l c hw ?_ (we_kind _ _) (by kernel_rfl!)
    refine wpAny_Slice ?_
    show wpAny _ _ (eval (nmE "place" p9) (wEnv w.params L)) _ _ _
    refine wn_l c hp ?_ (we_kind _ _) (by kernel_rfl!)
    show wpAny _ _ (eval (.BinOp _ _ _ _) (wEnv w.params L)) _ _ _
    refine wpAny_BinOp ?_
    refine MethodL_ hl ?_
    refine wn_l c hw ?_ (we_kind _ _) (by kernel_rfl!)
    refine GM.find ?_
    dsimp only
    refine callWith_method1 ?_
    refine args_cons ?_
    refine wpAny_Constant_str ?_
    refine args_cons ?_
    refine wn_l c hp ?_ (we_kind _ _) (by kernel_rfl!)
    refine args_nil ?_
    refine SC.find3 ?_
    refine wpAny_Constant_int ?_
    refine add_int ?_
    refine wpAny_pure ?_
    dsimp only
    rw [(F.amp q).1]
    refine sl_c c hz (by with_unfolding_all rfl) (fun _ => rfl) (fun h' t' k' c' => ?_)
    rw [str_ext (F.amp q).2]
    refine ws_l c' ?_ (we_kind _ _) (by kernel_rfl!)
    intro h9 c9
    exact k h9 _ _ c9
  · rw [decide_eq_false q, if_neg (by decide)]
    refine Subscript_ ?_
    refine wn_l c hw ?_ (we_kind _ _) (by kernel_rfl!)
    refine wn_l c hp ?_ (we_kind _ _) (by kernel_rfl!)
    refine item_str (by unfold fitsSsize; simp; omega) (by omega) (by omega) (fun _ => ?_) (by with_unfolding_all rfl) (fun _ => rfl)
    have e1 : (pc i r n).take 1 = pc i r n := List.take_of_length_le (Nat.le_of_eq (F.one q))
    rw [str_ext (F.item.trans e1)]
    refine ws_l c ?_ (we_kind _ _) (by kernel_rfl!)
    intro h9 c9
    exact k h9 _ _ c9
end Mine
end
section
open PySem PySem.W PySem.W.X PyProof.Rows PySem.Calls
set_option Elab.async false
set_option maxRecDepth 100000
set_option linter.unusedVariables false
set_option pp.maxSteps 500
namespace Mine
theorem wB3 : ∃ p1 p2 p3 p4 p5 p6 p7, wB 3 = .Expr (.Call (.Attribute (nmE "told" p1) (Str.ofString "append") p2) [.List [nmE "hand" p3, nmE "piece" p4] p5] [] p6) p7 ∧ p2.endLine = p6.line := ⟨_, _, _, _, _, _, _, rfl, rfl⟩
/-- a told piece: [hand, piece] -/
noncomputable def ToldAt (g : Heap) (q : Addr) (i : Nat) (x : List Nat) : Prop := ∃ t1 t2 n, g.get? q = some (listOf #[.int (i : Int) t1, .str ⟨x.toArray⟩ t2] n)
theorem ToldAt.keep {g g' : Heap} {q : Addr} {i : Nat} {x : List Nat} (z : ToldAt g q i x) (k : Keep g g') : ToldAt g' q i x := let ⟨t1, t2, n, e⟩ := z; ⟨t1, t2, n, k _ _ e⟩
set_option maxHeartbeats 400000 in
theorem b3_c {w : World} {A : Around} {s : Shared} {g : Heap} {L : Addr} {m cm : Str → Option Value} {fs : List (Addr × Obj)} {lh lk lt : Addr} {oh ok : Obj} {ts : List Addr} {n3 i : Nat} {x : List Nat} {t0 t1 : Tok} {Q : Flow → Shared → Prop} {E : Value → Shared → Prop}
    (hA : Low A 20) (c : Wc g (wEnv w.params L) m cm ((lh, oh) :: (lk, ok) :: (lt, listOf (ts.map Value.ref).toArray n3) :: fs) s.heap) (hh : m (Str.ofString "hand") = some (.int (i : Int) t0)) (hp : m (Str.ofString "piece") = some (.str ⟨x.toArray⟩ t1)) (hm : m (Str.ofString "told") = some (.ref lt)) (hz : ts.length ≤ 90)
    (k : ∀ (g' h' : Heap) (t' n' : Nat) (q : Addr), Keep g g' → ToldAt g' q i x → Wc g' (wEnv w.params L) m cm ((lh, oh) :: (lk, ok) :: (lt, listOf ((ts ++ [q]).map Value.ref).toArray n') :: fs) h' → Q .next { s with heap := h', toks := t' }) :
    wpAny (model PP w) A (exec (wB 3) (wEnv w.params L)) Q E s := by
  obtain ⟨p1, p2, p3, p4, p5, p6, p7, e, hl⟩ := wB3
  obtain ⟨hh', gg, dd, tt, oo⟩ := s
  dsimp only at *
  rw [e]
  refine wpAny_Expr ?_
  refine MethodL_ hl ?_
  refine wn_l c hm ?_ (we_kind _ _) (by kernel_rfl!)
  have et := c.at 2 rfl
  refine getMethod_builtin (⟨_, et, rfl⟩ : Shared.TypeIs _ (.ref lt) "list") PySem.F.plainAttrs_list PySem.slot_list_append PySem.F.type_list_append (fun a e => by cases e; exact ⟨_, et, rfl⟩) ?_
  dsimp only
  refine callWith_method1 ?_
  refine args_cons ?_
  refine List_ ?_
  refine args_cons ?_
  refine wn_l c hh ?_ (we_kind _ _) (by kernel_rfl!)
  refine args_cons ?_
  refine wn_l c hp ?_ (we_kind _ _) (by kernel_rfl!)
  refine args_nil ?_
  refine wpAny_newList ?_
  dsimp only
  have hq : (hh'.push (Obj.mk (.type "list") none (.seq [Value.int (i : Int) t0, Value.str ⟨x.toArray⟩ t1].toArray) #[])).get? hh'.objs.size = some (listOf #[.int (i : Int) t0, .str ⟨x.toArray⟩ t1] 0) := Heap.get?_push_size _ rfl
  have k1 : Keep hh' (hh'.push (Obj.mk (.type "list") none (.seq [Value.int (i : Int) t0, Value.str ⟨x.toArray⟩ t1].toArray) #[])) := fun b o e => Heap.get?_push_of_some _ e
  have nq : hh'.get? hh'.objs.size = none := Heap.get?_none_of_le (Nat.le_refl _)
  generalize (hh'.push (Obj.mk (.type "list") none (.seq [Value.int (i : Int) t0, Value.str ⟨x.toArray⟩ t1].toArray) #[])) = h1 at hq k1 ⊢
  generalize hh'.objs.size = q at hq nq ⊢
  have c1 := c.keep k1
  refine args_nil ?_
  have e1 := c1.at 2 rfl
  refine append_c e1 (by simp; omega) ?_
  intro h2 n2 x2 e2
  have c2 := c1.ext 2 rfl x2.extBut e2
  have hql := c.notIn nq
  have hq2 : h2.get? q = some (listOf #[.int (i : Int) t0, .str ⟨x.toArray⟩ t1] 0) := x2.extBut _ _ (hql.2.2 _ (List.Mem.tail _ (List.Mem.tail _ (List.Mem.head _)))).symm hq
  obtain ⟨g', kg, c3, up⟩ := c2.rebase (we_cells_ok _ _)
  have hg : ToldAt g' q i x := ⟨t0, t1, 0, up q _ hq2 hql.1 hql.2.1 (fun p hp => by
    rcases List.mem_cons.mp hp with rfl | hp
    · exact hql.2.2 _ (List.Mem.head _)
    rcases List.mem_cons.mp hp with rfl | hp
    · exact hql.2.2 _ (List.Mem.tail _ (List.Mem.head _))
    rcases List.mem_cons.mp hp with rfl | hp
    · exact hql.2.2 (lt, listOf (ts.map Value.ref).toArray n3) (List.Mem.tail _ (List.Mem.tail _ (List.Mem.head _)))
    · exact hql.2.2 _ (List.Mem.tail _ (List.Mem.tail _ (List.Mem.tail _ hp))))⟩
  have e3 : ((ts.map Value.ref).toArray.push (.ref q)) = ((ts ++ [q]).map Value.ref).toArray := by simp
  have c4 : Wc g' (wEnv w.params L) m cm ((lh, oh) :: (lk, ok) :: (lt, listOf ((ts.map Value.ref).toArray.push (.ref q)) n2) :: fs) h2 := c3
  rw [e3] at c4
  exact k g' h2 _ n2 q kg hg c4
end Mine
end
section
open PySem PySem.W PySem.W.X PyProof.Rows PySem.Calls
set_option Elab.async false
set_option maxRecDepth 100000
set_option linter.unusedVariables false
set_option pp.maxSteps 500
namespace Mine
theorem asub_ {M : Model} {A : Around} {E : Value → Shared → Prop} {s : Shared} {env : Env} {o i : Expr} {pos : Pos} {v : Value} {Q : Unit → Shared → Prop}
    (h : wpAny M A (eval o env) (fun ov s₂ => wpAny M A (eval i env) (fun iv s₃ => wpAny M A (setItem ov iv v) Q E s₃) E s₂) E s) :
    wpAny M A (assign (.Subscript o i pos) env v) Q E s := fun Γ p hΓ => by
  simp only [assign_Subscript, Sem.wp_bind', Sem.wp_holding, Sem.wp_cmd_standAt, Sem.wp_release, Sem.wp_pure']
  exact Sem.wp_mono M Γ _ (fun ov p₂ s₂ h₂ => Sem.wp_mono M Γ _ (fun iv _ s₃ h₃ => h₃ Γ _ hΓ)
    (fun _ _ _ h' => h') _ _ (h₂ Γ p₂ hΓ)) (fun _ _ _ h' => h') _ _ (h Γ _ hΓ)
theorem wB4 : ∃ p1 p2 p3 p4 p5 p6 p7 p8 p9 p10 p11 p12 p13 p14 p15 p16 p17 p18, wB 4 = .Assign [.Tuple [.Subscript (nmE "places" p1) (nmE "hand" p2) p3, .Subscript (nmE "counts" p4) (nmE "hand" p5) p6] 0 p7]
    (.Tuple [.BinOp (nmE "place" p8) .Add (.Call (nmE "len" p9) [nmE "piece" p10] [] p11) p12, .BinOp (.Subscript (nmE "counts" p13) (nmE "hand" p14) p15) .Add (.Constant (.int 1) 0 p16) p17] 0 p18) (pA (wB 4)) := ⟨_, _, _, _, _, _, _, _, _, _, _, _, _, _, _, _, _, _, rfl⟩
theorem wB4_sw (P : Params) (L : Addr) (t v p) (e : wB 4 = .Assign t v p) : swappedStores t v (wEnv P L) = pure none := by
  have h : swappedStores (sgT (wB 4)) (sgV (wB 4)) (wEnv P L) = pure none := by kernel_rfl!
  rw [e] at h
  exact h
theorem wB4_ss (P : Params) (L : Addr) (t v p) (e : wB 4 = .Assign t v p) : swapsWithSole t v p.line (wEnv P L) = pure false := by
  have h : swapsWithSole (sgT (wB 4)) (sgV (wB 4)) (pA (wB 4)).line (wEnv P L) = pure false := by kernel_rfl!
  rw [e] at h
  exact h
end Mine
end
section
open PySem PySem.W PySem.W.X PyProof.Rows PySem.Calls
set_option Elab.async false
set_option maxRecDepth 100000
set_option linter.unusedVariables false
set_option pp.maxSteps 500
namespace Mine
theorem seti_c {w : World} {A : Around} {E : Value → Shared → Prop} {h : Heap} {gg : Array GenState} {d : Drawn} {t : Nat} {os : OsState} {l : Addr} {vs : List Value} {n i : Nat} {u : Tok} {v : Value} {Q : Unit → Shared → Prop} (hl : h.get? l = some (listOf vs.toArray n)) (hi : i < vs.length) (hz : i < 100)
    (k : ∀ h' n', Heap.ExtBut l h h' → h'.get? l = some (listOf (vs.set i v).toArray n') → Q () ⟨h', gg, d, t, os⟩) : wpAny (model PP w) A (setItem (.ref l) (.int (i : Int) u) v) Q E ⟨h, gg, d, t, os⟩ := by
  refine ki_setAt hl (Int.natCast_nonneg _) (by omega) (by simp; omega) ?_
  have q := PySem.IsL.update hl (·.setIfInBounds i v)
  have e : (vs.toArray.setIfInBounds i v) = (vs.set i v).toArray := by
    apply Array.ext'
    simp
  rw [e] at q
  exact k _ _ (Heap.SameBut.update ..).extBut q
set_option maxHeartbeats 400000 in
theorem b4_c {w : World} {A : Around} {s : Shared} {g : Heap} {L : Addr} {m cm : Str → Option Value} {fs : List (Addr × Obj)} {lh lk lt lc lp : Addr} {oh ok ot : Obj} {cs ps : List Value} {fc fp : Nat → Int} {n4 n5 i : Nat} {x : List Nat} {t0 t1 t2 : Tok} {Q : Flow → Shared → Prop} {E : Value → Shared → Prop}
    (hA : Low A 20) (B : Amb w g) (c : Wc g (wEnv w.params L) m cm ((lh, oh) :: (lk, ok) :: (lt, ot) :: (lc, listOf cs.toArray n4) :: (lp, listOf ps.toArray n5) :: fs) s.heap) (hh : m (Str.ofString "hand") = some (.int (i : Int) t0)) (hpc : m (Str.ofString "piece") = some (.str ⟨x.toArray⟩ t1)) (hpl : m (Str.ofString "place") = some (.int (fp i) t2))
    (hc : m (Str.ofString "counts") = some (.ref lc)) (hp : m (Str.ofString "places") = some (.ref lp)) (i5 : i < 5) (C : IntL cs fc) (PI : IntL ps fp) (hz : x.length ≤ 90)
    (k : ∀ (h' : Heap) (t' n4' n5' : Nat) (cs' ps' : List Value), IntL cs' (fun j => if j = i then fc i + 1 else fc j) → IntL ps' (fun j => if j = i then fp i + x.length else fp j) →
      Wc g (wEnv w.params L) m cm ((lh, oh) :: (lk, ok) :: (lt, ot) :: (lc, listOf cs'.toArray n4') :: (lp, listOf ps'.toArray n5') :: fs) h' → Q .next { s with heap := h', toks := t' }) :
    wpAny (model PP w) A (exec (wB 4) (wEnv w.params L)) Q E s := by
  obtain ⟨p1, p2, p3, p4, p5, p6, p7, p8, p9, p10, p11, p12, p13, p14, p15, p16, p17, p18, e⟩ := wB4
  obtain ⟨t3, e3⟩ := C.2 i i5
  have C1 := C.1
  have P1 := PI.1
  obtain ⟨h0, gg, dd, tt, oo⟩ := s
  dsimp only at *
  rw [e]
  refine Assign_Tuple ?_ (wB4_ss _ _ _ _ _ e) (wB4_sw _ _ _ _ _ e)
  refine Tuple_ ?_
  refine args_cons ?_
  refine wpAny_BinOp ?_
  refine wn_l c hpl ?_ (we_kind _ _) (by kernel_rfl!)
  refine Call_ ?_
  refine nm_built B c.old (by kernel_rfl) (v := .builtin "len") boot_len ?_ (by decide) (we_kind _ _) (wk_g _ _ _ (by kernel_rfl!)) (we_glob _ _) (we_blt _ _)
  refine PyProof.Rows.callWith_builtin1 ?_
  refine args_cons ?_
  refine wn_l c hpc ?_ (we_kind _ _) (by kernel_rfl!)
  refine args_nil ?_
  refine PyProof.Rows.len_str (by simp [Str.length]; omega) ?_
  refine add_int ?_
  refine args_cons ?_
  refine wpAny_BinOp ?_
  refine Subscript_ ?_
  refine wn_l c hc ?_ (we_kind _ _) (by kernel_rfl!)
  refine wn_l c hh ?_ (we_kind _ _) (by kernel_rfl!)
  have elc := c.at 3 rfl
  refine item_list (PySem.IsL.isList elc) (Int.natCast_nonneg _) (by simp; omega) (x := .int (fc i) t3) (by simp [e3]) ?_ (by with_unfolding_all rfl) (fun _ => rfl)
  refine wpAny_Constant_int ?_
  refine add_int ?_
  refine args_nil ?_
  refine wpAny_newTuple ?_
  dsimp only
  have e5 : ((⟨x.toArray⟩ : Str).length : Int) = (x.length : Int) := by simp [Str.length]
  rw [e5]
  generalize hv1 : Value.int (fp i + (x.length : Int)) (tt + 1 + 1) = v1
  generalize hv2 : Value.int (fc i + 1) (tt + 1 + 1 + 1 + 1) = v2
  have ht : IsTup (h0.push { cls := Value.type "tuple", data := Data.seq #[v1, v2] }) h0.objs.size #[v1, v2] := ⟨_, Heap.get?_push_size _ rfl, rfl, _, rfl⟩
  have k5 : Keep h0 (h0.push { cls := Value.type "tuple", data := Data.seq #[v1, v2] }) := fun b o e => Heap.get?_push_of_some _ e
  generalize (h0.push { cls := Value.type "tuple", data := Data.seq #[v1, v2] }) = h1 at ht k5 ⊢
  generalize h0.objs.size = tp at ht ⊢
  refine assign_Tuple_tuple hA.hd ht (by kernel_rfl!) (by kernel_rfl!) (fun h2 x2 => ?_)
  have k6 : Keep h1 h2 := fun b o e => x2 b o (Nat.ne_of_lt (Heap.lt_size e)) e
  have c2 := (c.keep k5).keep k6
  show wpAny _ _ (assignInOrder [assign (.Subscript (nmE "places" p1) (nmE "hand" p2) p3) (wEnv w.params L), assign (.Subscript (nmE "counts" p4) (nmE "hand" p5) p6) (wEnv w.params L)] [v1, v2]) _ _ _
  refine wpAny_bind (wpAny_holding (asub_ ?_))
  refine wn_l c2 hp ?_ (we_kind _ _) (by kernel_rfl!)
  refine wn_l c2 hh ?_ (we_kind _ _) (by kernel_rfl!)
  have elp := c2.at 4 rfl
  refine seti_c elp (by omega) (by omega) (fun h3 n5' x3 e3' => ?_)
  have c3 := c2.ext 4 rfl x3 e3'
  refine wpAny_bind (wpAny_holding (asub_ ?_))
  refine wn_l c3 hc ?_ (we_kind _ _) (by kernel_rfl!)
  refine wn_l c3 hh ?_ (we_kind _ _) (by kernel_rfl!)
  have elc' := c3.at 3 rfl
  refine seti_c elc' (by omega) (by omega) (fun h4 n4' x4 e4' => ?_)
  have c4 := c3.ext 3 rfl x4 e4'
  refine wpAny_pure ?_
  subst hv1 hv2
  exact k h4 _ n4' n5' _ _ C.set PI.set c4
end Mine
end
section
open PySem PySem.W PySem.W.X PyProof.Rows PySem.Calls
set_option Elab.async false
set_option maxRecDepth 100000
set_option linter.unusedVariables false
set_option pp.maxSteps 500
namespace Mine
noncomputable def ifB (st : Stmt) : List Stmt := match st with | .If _ b _ _ => b | _ => []
noncomputable def ifO (st : Stmt) : List Stmt := match st with | .If _ _ b _ => b | _ => []
theorem wB5 : ∃ p1 p2 p3 p4 p5 p6 p7 p8, wB 5 = .If (.Compare (.Subscript (nmE "places" p1) (nmE "hand" p2) p3) [.Lt] [.Call (nmE "len" p4) [nmE "writing" p5] [] p6] p7) [(ifB (wB 5)).getD 0 (.Pass default), (ifB (wB 5)).getD 1 (.Pass default)] [(ifO (wB 5)).getD 0 (.Pass default)] p8 := ⟨_, _, _, _, _, _, _, _, rfl⟩
noncomputable def wI (i : Nat) : Stmt := (ifB (wB 5)).getD i (.Pass default)
noncomputable def wO : Stmt := (ifO (wB 5)).getD 0 (.Pass default)
theorem wI0 : ∃ p1 p2 p3 p4 p5 p6 p7 p8 p9 p10 p11 p12 p13 p14 p15 p16 p17 p18 p19 p20 p21, wI 0 = .Assign [.Subscript (nmE "keys" p1) (nmE "hand" p2) p3]
    (.Call (nmE "key" p4) [.List [.Subscript (nmE "counts" p5) (nmE "hand" p6) p7, .Subscript (.Subscript (nmE "speeds" p8) (nmE "hand" p9) p10) (.Constant (.int 0) 0 p11) p12, .Subscript (.Subscript (nmE "speeds" p13) (nmE "hand" p14) p15) (.Constant (.int 1) 0 p16) p17, nmE "hand" p18] p19] [] p20) p21 :=
  ⟨_, _, _, _, _, _, _, _, _, _, _, _, _, _, _, _, _, _, _, _, _, rfl⟩
theorem wI1 : ∃ p1 p2 p3 p4 p5 p6 p7 p8, wI 1 = .Assign [nmE "gone" p1] (.Call (nmE "heapreplace" p2) [nmE "heap" p3, .Subscript (nmE "keys" p4) (nmE "hand" p5) p6] [] p7) p8 := ⟨_, _, _, _, _, _, _, _, rfl⟩
theorem wO0 : ∃ p1 p2 p3 p4 p5, wO = .Assign [nmE "gone" p1] (.Call (nmE "heappop" p2) [nmE "heap" p3] [] p4) p5 := ⟨_, _, _, _, _, rfl⟩
theorem wI0_s (P : Params) (L : Addr) (t v p) (e : wI 0 = .Assign [t] v p) : swapsWith v (some t) p.line (wEnv P L) = pure false := by
  have h : swapsWith (sgV (wI 0)) (sgT (wI 0)).head? (pA (wI 0)).line (wEnv P L) = pure false := by kernel_rfl!
  rw [e] at h
  exact h
theorem wB6 : ∃ p1 p2 p3 p4 p5 p6, wB 6 = .If (.Compare (nmE "gone" p1) [.IsNot] [nmE "first" p2] p3) [.Return (some (.Constant .none 0 p4)) p5] [] p6 := ⟨_, _, _, _, _, _, rfl⟩
end Mine
end
section
open PySem PySem.W PySem.W.X PyProof.Rows PySem.Calls
set_option Elab.async false
set_option maxRecDepth 100000
set_option linter.unusedVariables false
set_option pp.maxSteps 500
namespace Mine
theorem Hp.congr {r r' : Addr → Int} : ∀ {l : List Addr}, (∀ y ∈ l, r y = r' y) → Hp r l → Hp r' l
  | [], _, _ => trivial
  | [_], _, _ => trivial
  | [a, b], e, h => by simp only [Hp, ← e a (by simp), ← e b (by simp)] at *; exact h
  | [a, b, c], e, h => by simp only [Hp, ← e a (by simp), ← e b (by simp), ← e c (by simp)] at *; exact h
  | [a, b, c, d], e, h => by simp only [Hp, ← e a (by simp), ← e b (by simp), ← e c (by simp), ← e d (by simp)] at *; exact h
  | [a, b, c, d, f], e, h => by simp only [Hp, ← e a (by simp), ← e b (by simp), ← e c (by simp), ← e d (by simp), ← e f (by simp)] at *; exact h
  | _ :: _ :: _ :: _ :: _ :: _ :: _, _, h => h.elim
theorem KeyOk.keep {g g' : Heap} {aK x : Addr} (i : KeyOk g aK x) (k : Keep g g') : KeyOk g' aK x := let ⟨m, a, b⟩ := i; ⟨m, a.keep k, b⟩
theorem rank_keep {g g' : Heap} {aK x : Addr} (i : KeyOk g aK x) (k : Keep g g') : rankOf g aK x = rankOf g' aK x := by
  obtain ⟨m, a, _⟩ := i
  rw [rankOf_eq a, rankOf_eq (a.keep k)]
noncomputable abbrev wHead (lh lk : Addr) (xs ks : List Addr) (n1 n2 : Nat) (fs : List (Addr × Obj)) : List (Addr × Obj) := (lh, listOf (xs.map Value.ref).toArray n1) :: (lk, listOf (ks.map Value.ref).toArray n2) :: fs
/-- speeds[hand][j] in the function's own frame -/
theorem sph_c {w : World} {A : Around} {E : Value → Shared → Prop} {s : Shared} {L : Addr} {g : Heap} {m cm : Str → Option Value} {fs : List (Addr × Obj)} {ls : Addr} {a b : Nat → Int} {k : Nat} {tk : Tok} {p1 p2 p3 p4 p5 : Pos} {Q : Value → Shared → Prop} {j : Nat}
    (c : Wc g (wEnv w.params L) m cm fs s.heap) (sp : SpAt g ls a b) (hcs : cm (Str.ofString "speeds") = some (.ref ls)) (hm : m (Str.ofString "hand") = some (.int (k : Int) tk)) (k5 : k < 5) (hj : j < 2)
    (h : ∀ t' t0, Q (.int (if j = 0 then a k else b k) t0) { s with toks := t' }) :
    wpAny (model PP w) A (eval (.Subscript (.Subscript (nmE "speeds" p1) (nmE "hand" p2) p3) (.Constant (.int (j : Int)) 0 p4) p5) (wEnv w.params L)) Q E s := by
  obtain ⟨ps, n, e, l, f⟩ := sp.keep c.old
  obtain ⟨p, hp⟩ : ∃ p, ps[k]? = some p := ⟨_, List.getElem?_eq_getElem (by omega)⟩
  obtain ⟨t1, t2, ep, ho⟩ := f k p hp
  refine Subscript_ ?_
  refine Subscript_ ?_
  refine wn_c c (a := L + 1) (by rw [we_cells]; kernel_rfl!) hcs ?_ (we_kind _ _) (by kernel_rfl!)
  refine wn_l c hm ?_ (we_kind _ _) (by kernel_rfl!)
  refine item_list (PySem.IsL.isList e) (Int.natCast_nonneg _) (by omega) (x := .ref p) (by simp [hp]) ?_ (by with_unfolding_all rfl) (fun _ => by with_unfolding_all rfl)
  refine wpAny_Constant_int ?_
  have il : s.heap.IsList p #[.int (a k) t1, .int (b k) t2] := PySem.IsL.isList ho
  rcases (by omega : j = 0 ∨ j = 1) with rfl | rfl
  · refine kba_turn (value' := .Name (Str.ofString "_") ⟨0, 0, 0, 0⟩) (fun _ => rfl) ?_
    refine item_list il (by decide) (by decide) (x := .int (a k) t1) rfl ?_ (by with_unfolding_all rfl) (fun _ => rfl)
    exact h _ t1
  · refine kba_turn (value' := .Name (Str.ofString "_") ⟨0, 0, 0, 0⟩) (fun _ => rfl) ?_
    refine item_list il (by decide) (by decide) (x := .int (b k) t2) rfl ?_ (by with_unfolding_all rfl) (fun _ => rfl)
    exact h _ t2
set_option maxHeartbeats 400000 in
theorem i0_c {w : World} {A : Around} {s : Shared} {g : Heap} {L : Addr} {m cm : Str → Option Value} {fs : List (Addr × Obj)} {lh lk lt lc aK ls : Addr} {oh ot : Obj} {ks : List Addr} {cs : List Value} {n2 n4 i : Nat} {fc : Nat → Int} {a b : Nat → Int} {ti : Tok} {Q : Flow → Shared → Prop} {E : Value → Shared → Prop}
    (hA : Low A 20) (B : Amb w g) (kb : KB g aK) (sp : SpAt g ls a b) (c : Wc g (wEnv w.params L) m cm ((lh, oh) :: (lk, listOf (ks.map Value.ref).toArray n2) :: (lt, ot) :: (lc, listOf cs.toArray n4) :: fs) s.heap)
    (hck : cm (Str.ofString "key") = some (.ref aK)) (hcks : cm (Str.ofString "keys") = some (.ref lk)) (hcs : cm (Str.ofString "speeds") = some (.ref ls)) (hmh : m (Str.ofString "hand") = some (.int (i : Int) ti)) (hmc : m (Str.ofString "counts") = some (.ref lc))
    (C : IntL cs fc) (h5 : ks.length = 5) (i5 : i < 5)
    (k : ∀ (g' h' : Heap) (t' n' : Nat) (y : Addr), Keep g g' → IsKey g' aK y ⟨fc i, a i, b i, i⟩ → g.get? y = none →
      Wc g' (wEnv w.params L) m cm ((lh, oh) :: (lk, listOf ((ks.set i y).map Value.ref).toArray n') :: (lt, ot) :: (lc, listOf cs.toArray n4) :: fs) h' → Q .next { s with heap := h', toks := t' }) :
    wpAny (model PP w) A (exec (wI 0) (wEnv w.params L)) Q E s := by
  obtain ⟨p1, p2, p3, p4, p5, p6, p7, p8, p9, p10, p11, p12, p13, p14, p15, p16, p17, p18, p19, p20, p21, e⟩ := wI0
  obtain ⟨t3, e3⟩ := C.2 i i5
  have C1 := C.1
  obtain ⟨h0, gg, dd, tt, oo⟩ := s
  dsimp only at *
  rw [e]
  refine wpAny_Assign_Subscript ?_ (wI0_s _ _ _ _ _ e)
  refine Call_ ?_
  refine wn_c c (a := L + 1 + 1) (by rw [we_cells]; kernel_rfl!) hck ?_ (we_kind _ _) (by kernel_rfl!)
  refine cw_K ?_
  refine args_cons ?_
  refine List_ ?_
  refine args_cons ?_
  refine Subscript_ ?_
  refine wn_l c hmc ?_ (we_kind _ _) (by kernel_rfl!)
  refine wn_l c hmh ?_ (we_kind _ _) (by kernel_rfl!)
  refine item_list (PySem.IsL.isList (c.at 3 rfl)) (Int.natCast_nonneg _) (by simp; omega) (x := .int (fc i) t3) (by simp [e3]) ?_ (by with_unfolding_all rfl) (fun _ => rfl)
  refine args_cons ?_
  refine sph_c (j := 0) c sp hcs hmh i5 (by decide) ?_
  intro ta sa
  refine args_cons ?_
  refine sph_c (s := ⟨h0, gg, dd, ta, oo⟩) (j := 1) c sp hcs hmh i5 (by decide) ?_
  intro tb sb
  refine args_cons ?_
  refine wn_l (s := ⟨h0, gg, dd, tb, oo⟩) c hmh ?_ (we_kind _ _) (by kernel_rfl!)
  refine args_nil ?_
  refine wpAny_newList ?_
  dsimp only
  generalize hI : [Value.int (fc i) t3, Value.int (if (0 : Nat) = 0 then a i else b i) sa, Value.int (if (1 : Nat) = 0 then a i else b i) sb, Value.int (i : Int) ti] = il
  have hl6 : (h0.push { cls := .type "list", data := .seq il.toArray }).get? h0.objs.size = some (Obj.mk (.type "list") none (.seq #[.int (fc i) t3, .int (a i) sa, .int (b i) sb, .int (i : Int) ti] 0) #[]) := by subst hI; exact Heap.get?_push_size _ rfl
  have k6 : Keep h0 (h0.push { cls := .type "list", data := .seq il.toArray }) := fun b o e => Heap.get?_push_of_some _ e
  have n6 : h0.get? h0.objs.size = none := Heap.get?_none_of_le (Nat.le_refl _)
  generalize (h0.push { cls := .type "list", data := .seq il.toArray }) = h7 at hl6 k6 ⊢
  generalize h0.objs.size = l at hl6 n6 ⊢
  have c7 := c.keep k6
  refine args_nil ⟨kb.keep c7.old, ?_⟩
  refine noE (kmake_c (m := ⟨fc i, a i, b i, i⟩) hA (by decide) (Frag.In.keeps B.X c7.old) (kb.keep c7.old) hl6 ?_)
  intro x h8 t8 dx k8 nx ndx hk hkd
  have c8 := c7.keep k8
  obtain ⟨g2, kg2, c9, up⟩ := c8.rebase (we_cells_ok _ _)
  have nx6 : h0.get? x = none := by
    cases q : h0.get? x with
    | none => rfl
    | some o => rw [k6 _ _ q] at nx; cases nx
  have key2 : IsKey g2 aK x ⟨fc i, a i, b i, i⟩ := by
    have nX := c7.notIn nx
    have nD := c7.notIn ndx
    have nLl := c.notIn n6
    exact ⟨l, dx, _, _, _, _, _, up x _ hk nX.1 nX.2.1 nX.2.2, up dx _ hkd nD.1 nD.2.1 nD.2.2, up l _ (k8 _ _ hl6) nLl.1 nLl.2.1 nLl.2.2⟩
  have ngx : g.get? x = none := by
    cases q : g.get? x with
    | none => rfl
    | some o => rw [c.old _ _ q] at nx6; cases nx6
  dsimp only
  refine wn_c c9 (a := L + 1 + 1 + 1) (lkeys _ _) hcks ?_ (we_kind _ _) (by kernel_rfl!)
  refine wn_l c9 hmh ?_ (we_kind _ _) (by kernel_rfl!)
  refine seti_c (c9.at 1 rfl) (by simp; omega) (by omega) (fun h10 n' x10 e10 => ?_)
  have c10 := c9.ext 1 rfl x10 e10
  have e11 : ((ks.map Value.ref).set i (.ref x)) = ((ks.set i x).map Value.ref) := by rw [List.map_set]
  rw [e11] at c10
  exact k g2 h10 _ n' x kg2 key2 ngx c10
end Mine
end
section
open PySem PySem.W PySem.W.X PyProof.Rows PySem.Calls
set_option Elab.async false
set_option maxRecDepth 100000
set_option linter.unusedVariables false
set_option pp.maxSteps 500
namespace Mine
noncomputable def lB (i : Nat) : Stmt := lBd.getD i (.Pass default)
theorem lBd_eq : lBd = [lB 0, lB 1, lB 2, lB 3, lB 4, lB 5, lB 6, lB 7, lB 8, lB 9] := by kernel_rfl
theorem lB0 : ∃ p1 p2 p3 p4 p5 p6 p7 p8 p9 p10 p11 p12 p13 p14 p15 p16 p17 p18 p19 p20 p21, lB 0 = .Assign [nmE "numbers" p1] (.BinOp (.Subscript (nmE "script" p2) (.Slice none (some (.Constant (.int 5) 0 p3)) none p4) p5) .Add
    (.Subscript (.List [.Constant (.int 0) 0 p6, .Constant (.int 49) 0 p7, .Constant (.int 90) 0 p8, .Constant (.int 59) 0 p9, .Constant (.int 124) 0 p10] p11)
      (.Slice (some (.Call (nmE "len" p12) [.Subscript (nmE "script" p13) (.Slice none (some (.Constant (.int 5) 0 p14)) none p15) p16] [] p17)) none none p18) p19) p20) p21 :=
  ⟨_, _, _, _, _, _, _, _, _, _, _, _, _, _, _, _, _, _, _, _, _, rfl⟩
noncomputable def numsOf (ns : List Int) : List Int := ns.take 5 ++ [0, 49, 90, 59, 124].drop (ns.take 5).length
theorem numsOf_len (ns : List Int) : (numsOf ns).length = 5 := by
  unfold numsOf
  rw [List.length_append, List.length_drop, List.length_take]
  simp only [List.length_cons, List.length_nil]
  omega
section
variable {w : World} {A : Around} {E : Value → Shared → Prop}
/-- a list cut up to a number, a new list -/
theorem cut_c {env : Env} {h : Heap} {gg : Array GenState} {d : Drawn} {t : Nat} {os : OsState} {l : Addr} {vs : List Value} {ns : List Int} {p4 : Pos} {p5 : Pos} {value : Expr} {n : Nat} {Q : Value → Shared → Prop}
    (hl : h.IsList l vs.toArray) (hI : IntsAre vs ns) (hz : ns.length ≤ 63)
    (hs : subscripted (.Slice none (some (.Constant (.int (n : Int)) 0 p4)) none p5) false (.ref l) (.ref h.objs.size) = operate [.ref h.objs.size, .ref l] (getItem (.ref l) (.ref h.objs.size))) (hg : ∀ r, letTemporaryGo value (.ref l) r = pure ())
    (k : ∀ a vs' h' t', Keep h h' → h.get? a = none → h'.get? a = some (listOf vs'.toArray 0) → IntsAre vs' (ns.take n) → Q (.ref a) ⟨h', gg, d, t', os⟩) :
    wpAny (model PP w) A (eval (.Slice none (some (.Constant (.int (n : Int)) 0 p4)) none p5) env) (fun iv s₂ => wpAny (model PP w) A (subscriptTail value (.Slice none (some (.Constant (.int (n : Int)) 0 p4)) none p5) (.ref l) iv) Q E s₂) E ⟨h, gg, d, t, os⟩ := by
  refine wpAny_Slice ?_
  refine wpAny_pure ?_
  show wpAny _ _ (eval (.Constant (.int (n : Int)) 0 p4) env) _ _ _
  refine wpAny_Constant_int ?_
  refine wpAny_pure ?_
  dsimp only
  have e0 : h.objs.size = h.objs.size := rfl
  have hsl : (h.push { cls := .type "slice", data := .fields #[.none, .int (n : Int) t, .none] }).IsSliceOf h.objs.size .none (.int (n : Int) t) .none := Heap.IsSliceOf.new ..
  have k1 : Keep h (h.push { cls := .type "slice", data := .fields #[.none, .int (n : Int) t, .none] }) := fun b o e => Heap.get?_push_of_some _ e
  have ng : ∀ a, (h.push { cls := .type "slice", data := .fields #[.none, .int (n : Int) t, .none] }).get? a = none → h.get? a = none := fun a e => by
    cases q : h.get? a with
    | none => rfl
    | some o => rw [k1 _ _ q] at e; cases e
  generalize (h.push { cls := .type "slice", data := .fields #[.none, .int (n : Int) t, .none] }) = h1 at hsl k1 ng ⊢
  obtain ⟨o, ho, hc, nn, hd⟩ := id hl
  have hl1 : h1.IsList l vs.toArray := ⟨o, k1 _ _ ho, hc, nn, hd⟩
  have vl : vs.length ≤ 63 := by rw [hI.length]; exact hz
  refine subscriptTail_ops (T := "list") hl1.typeIs list_getitem_lookup (wpAny_getItem_list_slice hl1 hsl .none (.int (n : Int) _) .none (by decide) ?_ (by rw [sizeLine_eq]; simp; omega)) hs hg
  dsimp only
  have hi := slice_ints_uptoW hI (y := (n : Int)) (by omega)
  rw [Int.toNat_natCast] at hi
  have hq : (h1.push { cls := .type "list", data := .seq (slicePick vs.toArray none (some (n : Int)) none) }).get? h1.objs.size = some (listOf (slicePick vs.toArray none (some (n : Int)) none).toList.toArray 0) := by rw [Array.toArray_toList]; exact Heap.get?_push_size _ rfl
  exact k h1.objs.size _ _ _ (fun b o e => Heap.get?_push_of_some _ (k1 _ _ e)) (ng _ (Heap.get?_none_of_le (Nat.le_refl _))) hq hi
end
set_option maxHeartbeats 400000 in
theorem l0_c {w : World} {A : Around} {s : Shared} {g : Heap} {L : Addr} {m cm : Str → Option Value} {fs : List (Addr × Obj)} {l : Addr} {vs : List Value} {ns : List Int} {Q : Flow → Shared → Prop} {E : Value → Shared → Prop}
    (B : Amb w g) (c : Wc g (lEnv w.params L) m cm fs s.heap) (hs : m (Str.ofString "script") = some (.ref l)) (hl : g.IsList l vs.toArray) (hI : IntsAre vs ns) (hz : ns.length ≤ 63)
    (k : ∀ a vs' h' t', IntsAre vs' (numsOf ns) → Wc g (lEnv w.params L) (fun y => if y = Str.ofString "numbers" then some (.ref a) else m y) cm ((a, listOf vs'.toArray 0) :: fs) h' → Q .next { s with heap := h', toks := t' }) :
    wpAny (model PP w) A (exec (lB 0) (lEnv w.params L)) Q E s := by
  obtain ⟨p1, p2, p3, p4, p5, p6, p7, p8, p9, p10, p11, p12, p13, p14, p15, p16, p17, p18, p19, p20, p21, e⟩ := lB0
  obtain ⟨h0, gg, dd, tt, oo⟩ := s
  dsimp only at *
  rw [e]
  have il : ∀ {h' : Heap}, Keep h0 h' → h'.IsList l vs.toArray := fun {h'} k => by
    obtain ⟨o, ho, hc, nn, hd⟩ := hl
    exact ⟨o, k _ _ (c.old _ _ ho), hc, nn, hd⟩
  refine wpAny_Assign_Name ?_ (by kernel_rfl!)
  refine wpAny_BinOp ?_
  refine Subscript_ ?_
  refine wn_l c hs ?_ (le_kind _ _) (by kernel_rfl!)
  refine cut_c (n := 5) (il (fun _ _ e => e)) hI hz (by with_unfolding_all rfl) (fun _ => rfl) ?_
  intro a1 v1 h1 t1 k1 na1 ha1 hi1
  have c1 := c.keep k1
  refine Subscript_ ?_
  refine List_ ?_
  refine args_cons ?_
  refine wpAny_Constant_int ?_
  refine args_cons ?_
  refine wpAny_Constant_int ?_
  refine args_cons ?_
  refine wpAny_Constant_int ?_
  refine args_cons ?_
  refine wpAny_Constant_int ?_
  refine args_cons ?_
  refine wpAny_Constant_int ?_
  refine args_nil ?_
  refine wpAny_newList ?_
  dsimp only
  generalize hdv : [Value.int 0 t1, Value.int 49 (t1 + 1), Value.int 90 (t1 + 1 + 1), Value.int 59 (t1 + 1 + 1 + 1), Value.int 124 (t1 + 1 + 1 + 1 + 1)] = dv
  have hdi : IntsAre dv [0, 49, 90, 59, 124] := by subst hdv; exact .cons _ _ (.cons _ _ (.cons _ _ (.cons _ _ (.cons _ _ .nil))))
  have hd : (h1.push { cls := .type "list", data := .seq dv.toArray }).get? h1.objs.size = some (listOf dv.toArray 0) := Heap.get?_push_size _ rfl
  have k2 : Keep h1 (h1.push { cls := .type "list", data := .seq dv.toArray }) := fun b o e => Heap.get?_push_of_some _ e
  generalize (h1.push { cls := .type "list", data := .seq dv.toArray }) = h2 at hd k2 ⊢
  generalize h1.objs.size = a2 at hd ⊢
  have c2 := c1.keep k2
  refine wpAny_Slice ?_
  show wpAny _ _ (eval (.Call (nmE "len" p12) _ [] p17) (lEnv w.params L)) _ _ _
  refine Call_ ?_
  refine nm_built B c2.old (by kernel_rfl) (v := .builtin "len") boot_len ?_ (by decide) (le_kind _ _) (lk_g _ _ _ (by kernel_rfl!)) (le_glob _ _) (le_blt _ _)
  refine PyProof.Rows.callWith_builtin1 ?_
  refine args_cons ?_
  refine Subscript_ ?_
  refine wn_l c2 hs ?_ (le_kind _ _) (by kernel_rfl!)
  refine cut_c (n := 5) (il (fun b o e => k2 _ _ (k1 _ _ e))) hI hz (by with_unfolding_all rfl) (fun _ => rfl) ?_
  intro a3 v3 h3 t3 k3 na3 ha3 hi3
  have c3 := c2.keep k3
  refine args_nil ?_
  have l3 : v3.length = (ns.take 5).length := hi3.length
  have l35 : (ns.take 5).length ≤ 5 := by rw [List.length_take]; omega
  refine len_list (PySem.IsL.isList ha3) (by simp; omega) ?_
  refine wpAny_pure ?_
  refine wpAny_pure ?_
  dsimp only
  have esz : ((v3.toArray.size : Nat) : Int) = (((ns.take 5).length : Nat) : Int) := by simp [l3]
  rw [esz]
  generalize hq : (ns.take 5).length = q at *
  have hsl : (h3.push { cls := .type "slice", data := .fields #[.int (q : Int) (t3 + 1), .none, .none] }).IsSliceOf h3.objs.size (.int (q : Int) (t3 + 1)) .none .none := Heap.IsSliceOf.new ..
  have k4 : Keep h3 (h3.push { cls := .type "slice", data := .fields #[.int (q : Int) (t3 + 1), .none, .none] }) := fun b o e => Heap.get?_push_of_some _ e
  generalize (h3.push { cls := .type "slice", data := .fields #[.int (q : Int) (t3 + 1), .none, .none] }) = h4 at hsl k4 ⊢
  have hd4 := k4 _ _ (k3 _ _ hd)
  have ild : h4.IsList a2 dv.toArray := PySem.IsL.isList hd4
  have dl : dv.length = 5 := hdi.length
  refine kba_turn (value' := .Name (Str.ofString "_") ⟨0, 0, 0, 0⟩) (fun _ => rfl) ?_
  refine subscriptTail_ops (T := "list") ild.typeIs list_getitem_lookup (wpAny_getItem_list_slice ild hsl (.int (q : Int) _) .none .none (by decide) ?_ (by rw [sizeLine_eq]; simp; omega)) (by with_unfolding_all rfl) (fun _ => rfl)
  dsimp only
  have hi4 := slice_ints_fromW hdi (x := (q : Int)) (by omega)
  rw [Int.toNat_natCast] at hi4
  generalize hsv : slicePick dv.toArray (some (q : Int)) none none = sv at hi4 ⊢
  have hq5 : (h4.push { cls := .type "list", data := .seq sv }).get? h4.objs.size = some { cls := .type "list", dict := none, data := .seq sv 0, slots := #[] } := Heap.get?_push_size _ rfl
  have k5 : Keep h4 (h4.push { cls := .type "list", data := .seq sv }) := fun b o e => Heap.get?_push_of_some _ e
  generalize (h4.push { cls := .type "list", data := .seq sv }) = h5 at hq5 k5 ⊢
  generalize h4.objs.size = a5 at hq5 ⊢
  have ha5 : h5.get? a1 = some { cls := .type "list", dict := none, data := .seq v1.toArray 0, slots := #[] } := k5 _ _ (k4 _ _ (k3 _ _ (k2 _ _ ha1)))
  have c5 := ((c3.keep k4).keep k5)
  have svl : sv.size ≤ 5 := by
    have := hi4.length
    rw [List.length_drop] at this
    simp at this
    omega
  have v1l : v1.length ≤ 5 := by have := hi1.length; omega
  refine PySem.P.add_list ha5 hq5 ?_ (by rw [sizeLine_eq]; simp; omega)
  dsimp only
  have e6 : v1.toArray ++ sv = (v1 ++ sv.toList).toArray := by simp
  rw [e6]
  have hi6 : IntsAre (v1 ++ sv.toList) (numsOf ns) := by
    unfold numsOf
    rw [hq]
    exact hi1.append hi4
  have h6 : (h5.push { cls := .type "list", data := .seq (v1 ++ sv.toList).toArray }).get? h5.objs.size = some (listOf (v1 ++ sv.toList).toArray 0) := Heap.get?_push_size _ rfl
  have k6 : Keep h5 (h5.push { cls := .type "list", data := .seq (v1 ++ sv.toList).toArray }) := fun b o e => Heap.get?_push_of_some _ e
  have n6 : h5.get? h5.objs.size = none := Heap.get?_none_of_le (Nat.le_refl _)
  generalize (h5.push { cls := .type "list", data := .seq (v1 ++ sv.toList).toArray }) = h6' at h6 k6 ⊢
  generalize h5.objs.size = a6 at h6 n6 ⊢
  have c6 := c5.add k6 n6 h6
  refine ws_l c6 ?_ (le_kind _ _) (by kernel_rfl!)
  intro h7 c7
  exact k a6 _ h7 _ hi6 c7
end Mine
end
section
open PySem PySem.W PySem.W.X PyProof.Rows PySem.Calls
set_option Elab.async false
set_option maxRecDepth 100000
set_option linter.unusedVariables false
set_option pp.maxSteps 500
namespace Mine
section
variable {prog : Program} {w : World} {A : Around} {s : Shared} {R : Result → Shared → Prop}
theorem compLoop_T {elt target iter : Expr} {scope : Scope} {pos : Pos} {it acc : Value} {env : Env} (I : Nat → Shared → Prop)
    (turn : ∀ n s, I n s → wpAny (model prog w) A (pyNext it) (fun r s₁ => match r with
      | none => R (.ok .next) s₁
      | some v => wpAny (model prog w) A (letOwnedTupleGo target it v) (fun _ s₁' => wpAny (model prog w) A (assign target env v) (fun _ s₂ => wpAny (model prog w) A (eval elt env) (fun x s₃ =>
          wpAny (model prog w) A (call (.builtin "list.append") [acc, x]) (fun _ s₄ => ∃ m, m < n ∧ I m s₄) (notedBy (model prog w) A env fun e s' => R (.error e) s') s₃)
          (notedBy (model prog w) A env fun e s' => R (.error e) s') s₂) (notedBy (model prog w) A env fun e s' => R (.error e) s') s₁') (notedBy (model prog w) A env fun e s' => R (.error e) s') s₁) (notedBy (model prog w) A env fun e s' => R (.error e) s') s)
    (n : Nat) (h : I n s) : codeAny (model prog w) A (.compLoop (.ListComp elt [⟨target, iter, [], 0⟩] scope pos) 0 it acc env) R s := by
  refine codeAny_loop rfl I (fun n s hI => ?_) n h
  show wpAny _ _ ((compTurn (.ListComp elt [⟨target, iter, [], 0⟩] scope pos) 0 it acc env).onRaise (fun x => do noteFrame x env; theTreesLotGoes x)) _ _ s
  refine wpAny_noted ?_
  rw [compTurn_list1]
  refine wpAny_bind (wpAny_standAt (wpAny_bind (wpAny_mono (turn n s hI) (fun r s₁ h₁ => ?_) fun _ _ h' => h')))
  cases r with
  | none => exact wpAny_pure h₁
  | some v =>
    refine wpAny_bind (wpAny_mono h₁ (fun _ s₁' h₁' => ?_) fun _ _ h' => h')
    exact wpAny_bind (wpAny_mono h₁' (fun _ s₂ h₂ => wpAny_bind (wpAny_bind (wpAny_mono h₂ (fun x s₃ h₃ => wpAny_bind (wpAny_mono h₃
      (fun _ s₄ h₄ => wpAny_pure (wpAny_pure ⟨rfl, h₄⟩)) fun _ _ h' => h')) fun _ _ h' => h'))) fun _ _ h' => h')
end
/-- a list comprehension of one clause whose target may be a tuple -/
theorem lcgU {prog : Program} {w : World} {A : Around} {E : Value → Shared → Prop} {s : Shared} {env : Env} {elt target iter : Expr} {scope : Scope} {cl : List (Str × Addr)} {pos pos' : Pos} {use : Option (Value → Sem Unit)} {Q : Value → Shared → Prop}
    (hclos : closureFor scope env = pure cl) (hcell : ∀ y ∈ scope.names, y.2 ≠ .cell) (hkind : scope.kind = .function) (hnames : ∀ y ∈ scope.names, y.2 = .local → scope.names.lookup y.1 = some .local)
    (h : wpAny (model prog w) A (eval iter env) (fun xv s₁ => wpAny (model prog w) A (pyIter xv) (fun it s₂ =>
      ∀ D C h₃ tk, Keep s₂.heap h₃ → s₂.heap.get? D = none → s₂.heap.get? C = none → D ≠ C → h₃.Ns C (fun _ => none) → h₃.get? D = some (listOf #[] 0) →
        ∃ (I : Nat → Shared → Prop) (n : Nat), I n { s₂ with heap := h₃, toks := tk } ∧
          (∀ s (Q' : Value → Shared → Prop) E', I n s → Q' it s → wpAny (model prog w) A (pyIter it) Q' E' s) ∧
          ∀ n s, I n s → wpAny (model prog w) A (pyNext it) (fun r s₃ => match r with
            | none => compPost (model prog w) A E use Q (.ref D) C (.ok .next) s₃
            | some v => wpAny (model prog w) A (letOwnedTupleGo target it v) (fun _ s₃' => wpAny (model prog w) A (assign target (compEnvC scope cl C env) v) (fun _ s₄ => wpAny (model prog w) A (eval elt (compEnvC scope cl C env)) (fun y s₅ =>
                wpAny (model prog w) A (call (.builtin "list.append") [.ref D, y]) (fun _ s₆ => ∃ m, m < n ∧ I m s₆) (fun _ _ => False) s₅) (fun _ _ => False) s₄) (fun _ _ => False) s₃') (fun _ _ => False) s₃) (fun _ _ => False) s) E s₁) E s)
    (hs : ∀ x, foldedSetIterable iter env x = pure x) :
    wpAny (model prog w) A (comprehension (.ListComp elt [⟨target, iter, [], 0⟩] scope pos) scope env pos' (newList []) false (eval iter env) use) Q E s := by
  refine wpAny_comprehension_free (use := use) rfl hs hclos hkind hnames (wpAny_mono h (fun xv s₁ h₁ => wpAny_mono h₁ (fun it s₂ h₂ => ?_) fun _ _ e => e) fun _ _ e => e)
  refine wpAny_newObj_type (wpAny_newFunctionEnv hcell (by intro y hy; simp at hy) (fun h₁ hns₁ hsb₁ => ?_) hkind)
  dsimp only at hns₁ hsb₁ ⊢
  have fresh : ∀ a, s₂.heap.objs.size ≤ a → s₂.heap.get? a = none := fun a ha => Heap.get?_none_of_le ha
  have hD : (s₂.heap.push { cls := .type "list", dict := none, data := .seq ([] : List Value).toArray }).get? s₂.heap.objs.size = some (listOf #[] 0) := Heap.get?_push_size _ rfl
  have k1 : Keep s₂.heap (s₂.heap.push { cls := .type "list", dict := none, data := .seq ([] : List Value).toArray }) := fun b o e => Heap.get?_push_of_some _ e
  have hz : (s₂.heap.push { cls := .type "list", dict := none, data := .seq ([] : List Value).toArray }).objs.size = s₂.heap.objs.size + 1 := Heap.size_push ..
  generalize (s₂.heap.push { cls := .type "list", dict := none, data := .seq ([] : List Value).toArray }) = H2 at *
  have ne : s₂.heap.objs.size ≠ H2.objs.size := by omega
  have le2 : s₂.heap.objs.size ≤ H2.objs.size := by omega
  have keep : Keep s₂.heap h₁ := by
    intro b o e
    have l := Heap.lt_size e
    have ne' : b ≠ H2.objs.size := Nat.ne_of_lt (Nat.lt_of_lt_of_le l le2)
    exact hsb₁.extBut b o ne' (Heap.get?_push_of_some _ (k1 _ _ e))
  obtain ⟨I, n, hI, hself, turn⟩ := h₂ s₂.heap.objs.size H2.objs.size h₁ (s₂.toks + ([] : List (Str × Value)).length) keep (fresh _ (Nat.le_refl _)) (fresh H2.objs.size le2) ne hns₁ (hsb₁.extBut _ _ ne (Heap.get?_push_of_some _ hD))
  have loop : ∀ s, I n s → codeAny (model prog w) A (.compLoop (.ListComp elt [⟨target, iter, [], 0⟩] scope pos) 0 it (.ref s₂.heap.objs.size) (compEnvC scope cl H2.objs.size env)) (compPost (model prog w) A E use Q (.ref s₂.heap.objs.size) H2.objs.size) s := by
    intro s hs
    refine compLoop_T I (fun k s' hk => wpAny_mono (turn k s' hk) (fun r s₃ h₃ => ?_) fun _ _ x => x.elim) n hs
    cases r with
    | none => exact h₃
    | some v => exact wpAny_mono h₃ (fun _ s₃' h₃' => wpAny_mono h₃' (fun _ s₄ h₄ => wpAny_mono h₄ (fun y s₅ h₅ => wpAny_mono h₅ (fun _ _ q => q) fun _ _ x => x.elim) fun _ _ x => x.elim) fun _ _ x => x.elim) fun _ _ x => x.elim
  exact codeAny_compStart_list (loop _ hI) (hself _ _ _ hI (loop _ hI))
/-- a comprehension's frame C over a frame with cells -/
structure Cp (g : Heap) (env : Env) (m cm : Str → Option Value) (C : Addr) (rest : List (Addr × Obj)) (mC : Str → Option Value) (h : Heap) : Prop where
  wc : ∃ oC, Wc g env m cm ((C, oC) :: rest) h
  ns : h.Ns C mC
section
variable {g h h' : Heap} {env : Env} {m cm mC mC' : Str → Option Value} {C : Addr} {rest : List (Addr × Obj)}
theorem Cp.keep (c : Cp g env m cm C rest mC h) (k : Keep h h') : Cp g env m cm C rest mC h' := let ⟨⟨o, x⟩, n⟩ := c; ⟨⟨o, x.keep k⟩, n.keeps k⟩
theorem Cp.store (c : Cp g env m cm C rest mC h) (hn : h'.Ns C mC') (hs : Heap.SameBut C h h') : Cp g env m cm C rest mC' h' := by
  obtain ⟨⟨o, x⟩, n⟩ := c
  obtain ⟨o', es, ep, ho', r⟩ := id hn
  exact ⟨⟨o', x.ext 0 rfl hs.extBut ho'⟩, hn⟩
theorem Cp.old (c : Cp g env m cm C rest mC h) : Keep g h := let ⟨⟨_, x⟩, _⟩ := c; x.old
theorem Cp.cell (c : Cp g env m cm C rest mC h) {n : Str} {a : Addr} (e : env.cells.lookup n = some a) : h.IsCell a (cm n) := let ⟨⟨_, x⟩, _⟩ := c; (x.cell n a e).1
theorem Cp.notIn {a : Addr} (c : Cp g env m cm C rest mC h) (na : h.get? a = none) : a ≠ env.locals ∧ (∀ n, env.cells.lookup n ≠ some a) ∧ (∀ p ∈ rest, p.1 ≠ a) ∧ C ≠ a := by
  obtain ⟨⟨o, x⟩, n⟩ := c
  obtain ⟨h1, h2, h3⟩ := x.notIn na
  exact ⟨h1, h2, fun p hp => h3 p (List.mem_cons_of_mem _ hp), h3 _ (List.mem_cons_self ..)⟩
theorem Cp.rebase (c : Cp g env m cm C rest mC h) (hk : ∀ n a, (n, a) ∈ env.cells → ∃ n', env.cells.lookup n' = some a) :
    ∃ g', Keep g g' ∧ Cp g' env m cm C rest mC h ∧ ∀ a o, h.get? a = some o → a ≠ env.locals → (∀ n, env.cells.lookup n ≠ some a) → (∀ p ∈ rest, p.1 ≠ a) → C ≠ a → g'.get? a = some o := by
  obtain ⟨⟨o, x⟩, n⟩ := c
  obtain ⟨g', kg, x', up⟩ := x.rebase hk
  exact ⟨g', kg, ⟨⟨o, x'⟩, n⟩, fun a o' e n1 n2 n3 n4 => up a o' e n1 n2 fun p hp => by
    rcases List.mem_cons.mp hp with rfl | hp
    · exact n4
    · exact n3 p hp⟩
end
set_option maxHeartbeats 1000000 in
/-- a comprehension over a list: P i is what the i-th item gives -/
theorem lc_core {w : World} {A : Around} {E : Value → Shared → Prop} {s : Shared} {env : Env} {elt target iter : Expr} {scope : Scope} {cl : List (Str × Addr)} {pos pos' : Pos} {use : Option (Value → Sem Unit)} {Q : Value → Shared → Prop} {n₀ : Nat}
    {g : Heap} {m cm : Str → Option Value} {fs : List (Addr × Obj)} {l : Addr} {items : Array Value} {P : Nat → Heap → Value → Prop}
    (hA : Low A n₀) (c : Wc g env m cm fs s.heap) (hck : ∀ n a, (n, a) ∈ env.cells → ∃ n', env.cells.lookup n' = some a)
    (hclos : closureFor scope env = pure cl) (hcell : ∀ y ∈ scope.names, y.2 ≠ .cell) (hkind : scope.kind = .function) (hnames : ∀ y ∈ scope.names, y.2 = .local → scope.names.lookup y.1 = some .local)
    (hl : g.IsList l items) (hz : items.size ≤ 64) (hs : ∀ x, foldedSetIterable iter env x = pure x)
    (hit : ∀ Q' : Value → Shared → Prop, Q' (.ref l) s → wpAny (model PP w) A (eval iter env) Q' E s)
    (hP : ∀ i h h' v, Keep h h' → P i h v → P i h' v)
    (elem : ∀ (i : Nat) (x : Value) (g' : Heap) (C : Addr) (rest : List (Addr × Obj)) (mC : Str → Option Value) (s' : Shared), items[i]? = some x → Keep g g' → Cp g' env m cm C rest mC s'.heap →
      wpAny (model PP w) A (assign target (compEnvC scope cl C env) x) (fun _ s₄ => wpAny (model PP w) A (eval elt (compEnvC scope cl C env)) (fun y s₅ => ∃ g'' mC' h'' t'', s₅ = { s' with heap := h'', toks := t'' } ∧ Keep g' g'' ∧ Cp g'' env m cm C rest mC' h'' ∧ P i g'' y) (fun _ _ => False) s₄) (fun _ _ => False) s')
    (k : ∀ (g' : Heap) (D C : Addr) (vs : List Value) (nn : Nat) (mC : Str → Option Value) (h' : Heap) (t' : Nat), Keep g g' → vs.length = items.size → (∀ (i : Nat) v, vs[i]? = some v → P i g' v) → Cp g' env m cm C ((D, listOf vs.toArray nn) :: fs) mC h' → compPost (model PP w) A E use Q (.ref D) C (.ok .next) { s with heap := h', toks := t' }) :
    wpAny (model PP w) A (comprehension (.ListComp elt [⟨target, iter, [], 0⟩] scope pos) scope env pos' (newList []) false (eval iter env) use) Q E s := by
  refine lcgU hclos hcell hkind hnames ?_ hs
  refine hit _ ?_
  have il : ∀ {h' : Heap}, Keep g h' → h'.IsList l items := fun {h'} k => by
    obtain ⟨o, ho, hc, nn, hd⟩ := hl
    exact ⟨o, k _ _ ho, hc, nn, hd⟩
  obtain ⟨h0, gg, dd, tt, oo⟩ := s
  dsimp only at *
  refine wpAny_pyIter_list (il c.old) ?_
  dsimp only
  have hit0 : (h0.push { cls := .type "list_iterator", data := .fields #[.ref l, .int 0 0] }).IsListIter h0.objs.size l 0 := ⟨_, Heap.get?_push_size _ rfl, rfl, rfl⟩
  have k1 : Keep h0 (h0.push { cls := .type "list_iterator", data := .fields #[.ref l, .int 0 0] }) := fun b o e => Heap.get?_push_of_some _ e
  have nit : h0.get? h0.objs.size = none := Heap.get?_none_of_le (Nat.le_refl _)
  generalize (h0.push { cls := .type "list_iterator", data := .fields #[.ref l, .int 0 0] }) = h1 at hit0 k1 ⊢
  generalize h0.objs.size = it at hit0 nit ⊢
  obtain ⟨oI, hoI, _⟩ := id hit0
  have c2 := c.add k1 nit hoI
  intro D C h3 t3 k3 nD nC DC nsC hD
  have c3 := c2.add k3 nD hD
  obtain ⟨oC, esC, epC, hC, dC, rC⟩ := id nsC
  have c4 := c3.addAt nsC hC (c2.notIn nC) (by
      cases q : g.get? C with
      | none => rfl
      | some o => rw [c2.old _ _ q] at nC; cases nC) (fun q => DC q.symm)
  have hitC : h3.IsListIter it l 0 := by obtain ⟨o, e, r⟩ := hit0; exact ⟨o, k3 _ _ e, r⟩
  refine ⟨fun n s' => ∃ (j : Nat) (h t : _) (oI : Obj) (mC : Str → Option Value) (vs : List Value) (nn : Nat) (g1 : Heap), n + j = items.size ∧ s' = ⟨h, gg, dd, t, oo⟩ ∧ Keep g g1 ∧ Cp g1 env m cm C ((D, listOf vs.toArray nn) :: (it, oI) :: fs) mC h ∧
      h.IsListIter it l j ∧ vs.length = j ∧ ∀ (i : Nat) v, vs[i]? = some v → P i g1 v, items.size, ?_, ?_, ?_⟩
  · exact ⟨0, h3, _, oI, _, [], 0, g, rfl, rfl, fun _ _ e => e, ⟨⟨oC, c4⟩, nsC⟩, hitC, rfl, fun i v q => by simp at q⟩
  · rintro s' Q' E' ⟨j, h, t, oI, mC, vs, nn, g1, hj, rfl, kg, cc, hi, hl, hx⟩ hq
    exact wpAny_pyIter_listiter hi hq
  · clear c c2 c3 c4 hit0 hitC hD nsC hC hoI
    rintro n s' ⟨j, h, t, oI, mC, vs, nn, g1, hj, rfl, kg, cc, hi, hl, hx⟩
    obtain ⟨⟨oC', w1⟩, hn⟩ := cc
    have nCI : C ≠ it := fun q => by have z := w1.nd; simp [q] at z
    have nDI : D ≠ it := fun q => by have z := w1.nd; simp [q] at z
    have nDC : C ≠ D := fun q => by have z := w1.nd; simp [q] at z
    have ilh := il (fun b o e => w1.old _ _ (kg _ _ e))
    rcases Nat.eq_zero_or_pos n with rfl | hn0
    · have hx0 : items[j]? = none := Array.getElem?_eq_none (by omega)
      refine wpAny_pyNext_list_end hA.hd hi ilh hx0 ?_
      intro h' x'
      dsimp only
      have fI := w1.fo (it, oI) (List.Mem.tail _ (List.Mem.tail _ (List.Mem.head _)))
      have z := w1.nd
      simp only [List.map_cons, List.nodup_cons] at z
      have c5 := (w1.sublist (fs' := (C, oC') :: (D, listOf vs.toArray nn) :: fs) (((List.sublist_cons_self _ _).cons₂ _).cons₂ _)).but x' fI.2.1 fI.2.2.1 fI.2.2.2 (fun p hp q => by
        rcases List.mem_cons.mp hp with rfl | hp
        · exact nCI q
        rcases List.mem_cons.mp hp with rfl | hp
        · exact nDI q
        · exact z.2.2.1 (q ▸ List.mem_map_of_mem hp))
      exact k g1 D C vs nn mC h' t kg (by omega) hx ⟨⟨oC', c5⟩, hn.extBut x' nCI⟩
    · obtain ⟨x, hxj⟩ : ∃ x, items[j]? = some x := ⟨_, Array.getElem?_eq_getElem (by omega)⟩
      refine wpAny_pyNext_list_item hi ilh hxj ?_
      intro h' hi' x'
      dsimp only
      obtain ⟨oI', hoI', _⟩ := id hi'
      have w2 := w1.ext 2 rfl x'.extBut hoI'
      have c5 : Cp g1 env m cm C ((D, listOf vs.toArray nn) :: (it, oI') :: fs) mC h' := ⟨⟨oC', w2⟩, hn.sameBut x' nCI⟩
      refine letGo_listiter hi' ?_
      refine wpAny_mono (elem j x g1 C _ _ ⟨h', gg, dd, t, oo⟩ hxj kg c5) ?_ (fun _ _ x => x)
      intro _ s4 h4
      refine wpAny_mono h4 ?_ (fun _ _ x => x)
      rintro y s5 ⟨g2, mC2, h2, t2, rfl, kg2, ⟨⟨oC2, w3⟩, hn2⟩, py⟩
      refine append_c (w3.at 1 rfl) (by simp; omega) ?_
      intro h9 n9 x9 e9
      have w4 := w3.ext 1 rfl x9.extBut e9
      have e1 : vs.toArray.push y = (vs ++ [y]).toArray := by simp
      rw [e1] at w4
      have hoI9 := w4.at 2 rfl
      obtain ⟨oI2, ei2, r2⟩ := id hi'
      have ei2' : h'.get? it = some oI' := hoI'
      have : oI2 = oI' := Option.some.inj (ei2.symm.trans ei2')
      subst this
      refine ⟨n - 1, by omega, j + 1, h9, t2, oI2, mC2, vs ++ [y], n9, g2, by omega, rfl, fun b o e => kg2 _ _ (kg _ _ e), ⟨⟨oC2, w4⟩, hn2.extBut x9.extBut nDC⟩, ⟨oI2, hoI9, r2⟩, by simp [hl], ?_⟩
      intro i v hv
      rcases Nat.lt_or_ge i vs.length with q | q
      · rw [List.getElem?_append_left q] at hv
        exact hP i g1 g2 v kg2 (hx i v hv)
      · rw [List.getElem?_append_right q] at hv
        have q0 : i - vs.length = 0 := by
          rcases Nat.eq_zero_or_pos (i - vs.length) with z | z
          · exact z
          · rw [List.getElem?_eq_none (by simp; omega)] at hv; cases hv
        rw [q0] at hv
        simp at hv
        subst hv
        have : i = j := by omega
        subst this
        exact py
/-- behind the loop, the comprehension's frame let go -/
theorem Cp.out {g h h' : Heap} {env : Env} {m cm mC : Str → Option Value} {C : Addr} {rest : List (Addr × Obj)} (c : Cp g env m cm C rest mC h) (k : Heap.SameBut C h h') : Wc g env m cm rest h' := by
  obtain ⟨⟨oC, x⟩, n⟩ := c
  have f := x.fo (C, oC) (List.mem_cons_self ..)
  have nd := x.nd
  simp only [List.map_cons, List.nodup_cons] at nd
  exact (x.sublist (List.sublist_cons_self _ _)).but k.extBut f.2.1 f.2.2.1 f.2.2.2 (fun p hp q => nd.1 (q ▸ List.mem_map_of_mem hp))
section
variable {w : World} {A : Around} {E : Value → Shared → Prop} {s : Shared} {env : Env} {elt target iter : Expr} {scope : Scope} {cl : List (Str × Addr)} {pos : Pos} {n₀ : Nat} {g : Heap} {m cm : Str → Option Value} {fs : List (Addr × Obj)} {l : Addr} {items : Array Value} {P : Nat → Heap → Value → Prop}
theorem lc_list {Q : Value → Shared → Prop} (hA : Low A n₀) (c : Wc g env m cm fs s.heap) (hck : ∀ n a, (n, a) ∈ env.cells → ∃ n', env.cells.lookup n' = some a)
    (hclos : closureFor scope env = pure cl) (hcell : ∀ y ∈ scope.names, y.2 ≠ .cell) (hkind : scope.kind = .function) (hnames : ∀ y ∈ scope.names, y.2 = .local → scope.names.lookup y.1 = some .local)
    (hl : g.IsList l items) (hz : items.size ≤ 64) (hs : ∀ x, foldedSetIterable iter env x = pure x)
    (hit : ∀ Q' : Value → Shared → Prop, Q' (.ref l) s → wpAny (model PP w) A (eval iter env) Q' E s)
    (hP : ∀ i h h' v, Keep h h' → P i h v → P i h' v)
    (elem : ∀ (i : Nat) (x : Value) (g' : Heap) (C : Addr) (rest : List (Addr × Obj)) (mC : Str → Option Value) (s' : Shared), items[i]? = some x → Keep g g' → Cp g' env m cm C rest mC s'.heap →
      wpAny (model PP w) A (assign target (compEnvC scope cl C env) x) (fun _ s₄ => wpAny (model PP w) A (eval elt (compEnvC scope cl C env)) (fun y s₅ => ∃ g'' mC' h'' t'', s₅ = { s' with heap := h'', toks := t'' } ∧ Keep g' g'' ∧ Cp g'' env m cm C rest mC' h'' ∧ P i g'' y) (fun _ _ => False) s₄) (fun _ _ => False) s')
    (k : ∀ (g' : Heap) (D : Addr) (vs : List Value) (nn : Nat) (h' : Heap) (t' : Nat), Keep g g' → vs.length = items.size → (∀ (i : Nat) v, vs[i]? = some v → P i g' v) → Wc g' env m cm ((D, listOf vs.toArray nn) :: fs) h' → Q (.ref D) { s with heap := h', toks := t' }) :
    wpAny (model PP w) A (eval (.ListComp elt [⟨target, iter, [], 0⟩] scope pos) env) Q E s := by
  rw [eval_ListComp]
  exact lc_core hA c hck hclos hcell hkind hnames hl hz hs hit hP elem fun g' D C vs nn mC h' t' kg vl vp cc => ⟨mC, cc.ns, fun h'' y => k g' D vs nn h'' t' kg vl vp (cc.out y)⟩
/-- name = [..], the name a local one -/
theorem lc_assign {y : Str} {py spos : Pos} {Q : Flow → Shared → Prop} (hsw : swapsWith (.ListComp elt [⟨target, iter, [], 0⟩] scope pos) (some (.Name y py)) spos.line env = pure true) (hk : env.scope.kind = .function) (hy : env.kindOf y = some .local)
    (hA : Low A n₀) (c : Wc g env m cm fs s.heap) (hck : ∀ n a, (n, a) ∈ env.cells → ∃ n', env.cells.lookup n' = some a)
    (hclos : closureFor scope env = pure cl) (hcell : ∀ y ∈ scope.names, y.2 ≠ .cell) (hkind : scope.kind = .function) (hnames : ∀ y ∈ scope.names, y.2 = .local → scope.names.lookup y.1 = some .local)
    (hl : g.IsList l items) (hz : items.size ≤ 64) (hs : ∀ x, foldedSetIterable iter env x = pure x)
    (hit : ∀ Q' : Value → Shared → Prop, Q' (.ref l) s → wpAny (model PP w) A (eval iter env) Q' E s)
    (hP : ∀ i h h' v, Keep h h' → P i h v → P i h' v)
    (elem : ∀ (i : Nat) (x : Value) (g' : Heap) (C : Addr) (rest : List (Addr × Obj)) (mC : Str → Option Value) (s' : Shared), items[i]? = some x → Keep g g' → Cp g' env m cm C rest mC s'.heap →
      wpAny (model PP w) A (assign target (compEnvC scope cl C env) x) (fun _ s₄ => wpAny (model PP w) A (eval elt (compEnvC scope cl C env)) (fun y s₅ => ∃ g'' mC' h'' t'', s₅ = { s' with heap := h'', toks := t'' } ∧ Keep g' g'' ∧ Cp g'' env m cm C rest mC' h'' ∧ P i g'' y) (fun _ _ => False) s₄) (fun _ _ => False) s')
    (k : ∀ (g' : Heap) (D : Addr) (vs : List Value) (nn : Nat) (h' : Heap) (t' : Nat), Keep g g' → vs.length = items.size → (∀ (i : Nat) v, vs[i]? = some v → P i g' v) → Wc g' env (fun z => if z = y then some (.ref D) else m z) cm ((D, listOf vs.toArray nn) :: fs) h' → Q .next { s with heap := h', toks := t' }) :
    wpAny (model PP w) A (exec (.Assign [.Name y py] (.ListComp elt [⟨target, iter, [], 0⟩] scope pos) spos) env) Q E s := by
  rw [exec_Assign_Name_used _ _ _ _ hsw]
  refine wpAny_bind (wpAny_standAt (wpAny_bind ?_))
  show wpAny _ A (do let _ ← comprehension (.ListComp elt [⟨target, iter, [], 0⟩] scope pos) scope env _ (newList []) false (eval iter env) (some (assign (.Name y py) env))) _ _ s
  refine wpAny_bind (wpAny_mono (lc_core (use := some (assign (.Name y py) env)) (Q := fun _ s' => Q .next s') hA c hck hclos hcell hkind hnames hl hz hs hit hP elem fun g' D C vs nn mC h' t' kg vl vp cc => ?_) (fun _ s' hq => wpAny_pure (wpAny_pure hq)) fun _ _ e => e)
  show wpAny (model PP w) A (assign (.Name y py) env (.ref D)) _ E _
  obtain ⟨⟨oC, x⟩, nC⟩ := cc
  have f := x.fo (C, oC) (List.mem_cons_self ..)
  refine wpAny_assign_Name (wpAny_storeName_local hy x.ns (fun h2 hn2 hs2 => ?_) (by rw [hk]; rfl))
  have x2 := x.storeL hn2 hs2
  have nC2 := nC.sameBut hs2 f.2.2.1
  exact ⟨mC, nC2, fun h'' y' => k g' D vs nn h'' _ kg vl vp (Cp.out ⟨⟨oC, x2⟩, nC2⟩ y')⟩
end
end Mine
end
section
set_option Elab.async false
namespace Mine
/-- a piece's place in the order of the times -/
noncomputable def rk (a b : Nat → Int) (p : Nat × Nat) : Int := (p.2 : Int) * a p.1 * (576 / b p.1) * 5 + p.1
structure Sp (a b : Nat → Int) : Prop where
  a0 : ∀ k, 0 < a k
  a5 : ∀ k, a k < 6
  b0 : ∀ k, 0 < b k
  b4 : ∀ k, b k < 5
theorem Sp.d {a b : Nat → Int} (s : Sp a b) (k : Nat) : 144 ≤ 576 / b k := by
  have h0 := s.b0 k
  have h1 := s.b4 k
  have e : b k = 1 ∨ b k = 2 ∨ b k = 3 ∨ b k = 4 := by omega
  rcases e with e | e | e | e <;> rw [e] <;> decide
theorem rk_step {a b : Nat → Int} (s : Sp a b) (k n : Nat) : rk a b (k, n) < rk a b (k, n + 1) := by
  unfold rk
  have hd := s.d k
  have ha := s.a0 k
  simp only
  have e : ((n + 1 : Nat) : Int) * a k * (576 / b k) = (n : Int) * a k * (576 / b k) + a k * (576 / b k) := by
    rw [show ((n + 1 : Nat) : Int) = (n : Int) + 1 by omega, Int.add_mul, Int.add_mul, Int.one_mul]
  rw [e]
  have : 0 < a k * (576 / b k) := Int.mul_pos ha (by omega)
  omega
theorem rk_lt {a b : Nat → Int} (s : Sp a b) (k : Nat) {n m : Nat} (h : n < m) : rk a b (k, n) < rk a b (k, m) := by
  induction m with
  | zero => omega
  | succ m ih =>
    rcases Nat.lt_or_eq_of_le (Nat.lt_succ_iff.mp h) with h1 | rfl
    · exact Int.lt_trans (ih h1) (rk_step s k m)
    · exact rk_step s k n
theorem rk_le {a b : Nat → Int} (s : Sp a b) (k : Nat) {n m : Nat} (h : n ≤ m) : rk a b (k, n) ≤ rk a b (k, m) := by
  rcases Nat.lt_or_eq_of_le h with h | rfl
  · exact Int.le_of_lt (rk_lt s k h)
  · exact Int.le_refl _
theorem rk_hand {a b : Nat → Int} {p q : Nat × Nat} (hp : p.1 < 5) (hq : q.1 < 5) (h : rk a b p = rk a b q) : p.1 = q.1 := by
  unfold rk at h
  generalize (p.2 : Int) * a p.1 * (576 / b p.1) = x at h
  generalize (q.2 : Int) * a q.1 * (576 / b q.1) = y at h
  omega
theorem rk_inj {a b : Nat → Int} (s : Sp a b) {p q : Nat × Nat} (hp : p.1 < 5) (hq : q.1 < 5) (h : rk a b p = rk a b q) : p = q := by
  obtain ⟨k, n⟩ := p
  obtain ⟨k', m⟩ := q
  have e := rk_hand hp hq h
  simp only at e
  subst e
  rcases Nat.lt_trichotomy n m with l | rfl | l
  · have := rk_lt s k l; omega
  · rfl
  · have := rk_lt s k l; omega
/-- the merge under way: what was told, how far each hand is -/
structure Mg (a b : Nat → Int) (told : List (Nat × Nat)) (c : Nat → Nat) : Prop where
  le : ∀ k, c k ≤ 8
  inc : told.Pairwise fun p q => rk a b p < rk a b q
  mem : ∀ p, p ∈ told ↔ p.1 < 5 ∧ p.2 < c p.1
  pend : ∀ p ∈ told, ∀ k, k < 5 → c k < 8 → rk a b p < rk a b (k, c k)
theorem Mg.start (a b : Nat → Int) : Mg a b [] (fun _ => 0) := ⟨fun _ => by omega, List.Pairwise.nil, fun p => by simp, fun p h => by cases h⟩
theorem Mg.step {a b : Nat → Int} (s : Sp a b) {told : List (Nat × Nat)} {c : Nat → Nat} (m : Mg a b told c) {k : Nat} (hk : k < 5) (hc : c k < 8) (hmin : ∀ j, j < 5 → c j < 8 → rk a b (k, c k) ≤ rk a b (j, c j)) :
    Mg a b (told ++ [(k, c k)]) (fun j => if j = k then c k + 1 else c j) where
  le := fun j => by split <;> first | omega | exact m.le j
  inc := by
    rw [List.pairwise_append]
    refine ⟨m.inc, List.pairwise_singleton _ _, fun p hp q hq => ?_⟩
    rw [List.mem_singleton] at hq
    subst hq
    exact m.pend p hp k hk hc
  mem := fun p => by
    obtain ⟨j, n⟩ := p
    show (j, n) ∈ told ++ [(k, c k)] ↔ j < 5 ∧ n < (if j = k then c k + 1 else c j)
    rw [List.mem_append, m.mem, List.mem_singleton, Prod.mk.injEq]
    by_cases h : j = k
    · subst h
      rw [if_pos rfl]
      show (j < 5 ∧ n < c j) ∨ (j = j ∧ n = c j) ↔ _
      omega
    · rw [if_neg h]
      show (j < 5 ∧ n < c j) ∨ (j = k ∧ n = c k) ↔ _
      omega
  pend := fun p hp j hj hcj => by
    change (if j = k then c k + 1 else c j) < 8 at hcj
    show rk a b p < rk a b (j, if j = k then c k + 1 else c j)
    rw [List.mem_append, List.mem_singleton] at hp
    have up : rk a b (k, c k) < rk a b (k, c k + 1) := rk_step s k _
    rcases hp with hp | rfl
    · split at hcj
      · rename_i e; subst e; rw [if_pos rfl]; exact Int.lt_trans (m.pend p hp j hj hc) up
      · rename_i e; rw [if_neg e]; exact m.pend p hp j hj hcj
    · split at hcj
      · rename_i e; subst e; rw [if_pos rfl]; exact up
      · rename_i e
        rw [if_neg e]
        have l := hmin j hj hcj
        rcases Int.lt_or_eq_of_le l with l | l
        · exact l
        · have := rk_inj s (p := (k, c k)) (q := (j, c j)) hk hj l
          simp only [Prod.mk.injEq] at this
          exact absurd this.1.symm e
noncomputable def allKN : List (Nat × Nat) := (List.range 5).flatMap fun k => (List.range 8).map fun n => (k, n)
theorem mem_allKN (p : Nat × Nat) : p ∈ allKN ↔ p.1 < 5 ∧ p.2 < 8 := by
  obtain ⟨k, n⟩ := p
  simp only [allKN, List.mem_flatMap, List.mem_range, List.mem_map, Prod.mk.injEq]
  constructor
  · rintro ⟨k', h1, n', h2, rfl, rfl⟩; exact ⟨h1, h2⟩
  · rintro ⟨h1, h2⟩; exact ⟨k, h1, n, h2, rfl, rfl⟩
theorem Mg.nodup {a b : Nat → Int} {told : List (Nat × Nat)} {c : Nat → Nat} (m : Mg a b told c) : told.Nodup := m.inc.imp fun h e => by rw [e] at h; omega
theorem nodup_len {α : Type} [BEq α] [LawfulBEq α] : ∀ {l l' : List α}, l.Nodup → (∀ x ∈ l, x ∈ l') → l.length ≤ l'.length
  | [], _, _, _ => Nat.zero_le _
  | x :: l, l', hn, hs => by
    rw [List.nodup_cons] at hn
    have hx := hs x (List.mem_cons_self ..)
    have := nodup_len (l := l) (l' := l'.erase x) hn.2 fun y hy => (List.mem_erase_of_ne (fun e => by rw [e] at hy; exact hn.1 hy)).mpr (hs y (List.mem_cons_of_mem _ hy))
    rw [List.length_erase_of_mem hx] at this
    have := List.length_pos_of_mem hx
    simp only [List.length_cons]
    omega
theorem Mg.len {a b : Nat → Int} {told : List (Nat × Nat)} {c : Nat → Nat} (m : Mg a b told c) : told.length ≤ 40 := by
  have : told.length ≤ allKN.length := nodup_len m.nodup fun p hp => (mem_allKN p).mpr (by have := (m.mem p).mp hp; have := m.le p.1; omega)
  exact this
theorem Mg.done {a b : Nat → Int} {told : List (Nat × Nat)} {c : Nat → Nat} (m : Mg a b told c) (h : ∀ k, k < 5 → c k = 8) : told.Perm allKN := by
  refine (List.perm_ext_iff_of_nodup m.nodup (by decide)).mpr fun p => ?_
  rw [m.mem, mem_allKN]
  constructor
  · rintro ⟨h1, h2⟩; rw [h _ h1] at h2; exact ⟨h1, h2⟩
  · rintro ⟨h1, h2⟩; rw [h _ h1]; exact ⟨h1, h2⟩
theorem inc_unique {α : Type} {r : α → Int} : ∀ {l l' : List α}, l.Perm l' → l.Pairwise (fun p q => r p < r q) → l'.Pairwise (fun p q => r p < r q) → l = l'
  | [], l', hp, _, _ => (List.Perm.nil_eq hp)
  | x :: l, [], hp, _, _ => by have := hp.length_eq; simp at this
  | x :: l, y :: l', hp, h1, h2 => by
    rw [List.pairwise_cons] at h1 h2
    have e : x = y := by
      have hx : x ∈ y :: l' := hp.mem_iff.mp (List.mem_cons_self ..)
      have hy : y ∈ x :: l := hp.mem_iff.mpr (List.mem_cons_self ..)
      rcases List.mem_cons.mp hx with e | hx
      · exact e
      · rcases List.mem_cons.mp hy with e | hy
        · exact e.symm
        · have := h1.1 y hy; have := h2.1 x hx; omega
    subst e
    rw [inc_unique (List.Perm.cons_inv hp) h1.2 h2.2]
end Mine
end
section
open PySem PySem.W PySem.W.X PyProof.Rows PySem.Calls
set_option Elab.async false
set_option maxRecDepth 100000
set_option linter.unusedVariables false
set_option pp.maxSteps 500
namespace Mine
theorem le_cells_ok (P : Params) (L : Addr) : ∀ n a, (n, a) ∈ (lEnv P L).cells → ∃ n', (lEnv P L).cells.lookup n' = some a := by
  intro n a h
  rw [le_cells] at h ⊢
  simp only [List.mem_cons, Prod.mk.injEq, List.not_mem_nil, or_false] at h
  rcases h with ⟨rfl, rfl⟩ | ⟨rfl, rfl⟩
  · exact ⟨Str.ofString "speeds", by kernel_rfl!⟩
  · exact ⟨Str.ofString "texts", by kernel_rfl!⟩
section
variable {g h h' : Heap} {env : Env} {m cm mC : Str → Option Value} {C : Addr} {fs rest : List (Addr × Obj)}
/-- a new object, into the base at once -/
theorem Wc.alloc (c : Wc g env m cm fs h) (hk : ∀ n a, (n, a) ∈ env.cells → ∃ n', env.cells.lookup n' = some a) {p : Addr} {o : Obj} (k : Keep h h') (np : h.get? p = none) (hp : h'.get? p = some o) :
    ∃ g', Keep g g' ∧ Wc g' env m cm fs h' ∧ g'.get? p = some o := by
  obtain ⟨g', kg, c', up⟩ := (c.keep k).rebase hk
  have n := c.notIn np
  exact ⟨g', kg, c', up p o hp n.1 n.2.1 n.2.2⟩
theorem Wc.drop {D : Addr} {o : Obj} (c : Wc g env m cm ((D, o) :: fs) h) (hk : ∀ n a, (n, a) ∈ env.cells → ∃ n', env.cells.lookup n' = some a) :
    ∃ g', Keep g g' ∧ Wc g' env m cm fs h ∧ g'.get? D = some o := by
  have f := c.fo (D, o) (List.mem_cons_self ..)
  have nd := c.nd
  simp only [List.map_cons, List.nodup_cons] at nd
  obtain ⟨g', kg, c', up⟩ := (c.sublist (List.sublist_cons_self _ _)).rebase hk
  exact ⟨g', kg, c', up D o f.1 f.2.2.1 f.2.2.2 (fun p hp q => nd.1 (q ▸ List.mem_map_of_mem hp))⟩
theorem Cp.alloc (c : Cp g env m cm C rest mC h) (hk : ∀ n a, (n, a) ∈ env.cells → ∃ n', env.cells.lookup n' = some a) {p : Addr} {o : Obj} (k : Keep h h') (np : h.get? p = none) (hp : h'.get? p = some o) :
    ∃ g', Keep g g' ∧ Cp g' env m cm C rest mC h' ∧ g'.get? p = some o := by
  obtain ⟨g', kg, c', up⟩ := (c.keep k).rebase hk
  have n := c.notIn np
  exact ⟨g', kg, c', up p o hp n.1 n.2.1 n.2.2.1 n.2.2.2⟩
end
theorem ints_get : ∀ {vs : List Value} {ns : List Int} {i : Nat} {v : Value}, IntsAre vs ns → vs[i]? = some v → ∃ n t, v = .int n t ∧ ns[i]? = some n
  | _, _, i, v, .nil, h => by simp at h
  | _, _, 0, v, .cons n t _, h => by simp at h; exact ⟨n, t, h.symm, rfl⟩
  | _, _, i + 1, v, .cons n t r, h => by
    simp only [List.getElem?_cons_succ] at h ⊢
    exact ints_get r h
/-- what a number says -/
noncomputable def rr (x : Int) : Nat := (x.fmod 8).toNat
noncomputable def aa (x : Int) : Int := 1 + (x.fdiv 8).fmod 5
noncomputable def bb (x : Int) : Int := 1 + (x.fdiv 40).fmod 4
theorem rr_lt (x : Int) : rr x < 8 := by
  have h1 := Int.fmod_nonneg_of_pos x (show (0 : Int) < 8 by decide)
  have h2 := Int.fmod_lt_of_pos x (show (0 : Int) < 8 by decide)
  unfold rr; omega
theorem rr_int (x : Int) : x.fmod 8 = (rr x : Int) := by
  have h1 := Int.fmod_nonneg_of_pos x (show (0 : Int) < 8 by decide)
  unfold rr; omega
theorem sp_of (f : Nat → Int) : Sp (fun k => aa (f k)) (fun k => bb (f k)) where
  a0 := fun k => by have := Int.fmod_nonneg_of_pos ((f k).fdiv 8) (show (0 : Int) < 5 by decide); simp only [aa]; omega
  a5 := fun k => by have := Int.fmod_lt_of_pos ((f k).fdiv 8) (show (0 : Int) < 5 by decide); simp only [aa]; omega
  b0 := fun k => by have := Int.fmod_nonneg_of_pos ((f k).fdiv 40) (show (0 : Int) < 4 by decide); simp only [bb]; omega
  b4 := fun k => by have := Int.fmod_lt_of_pos ((f k).fdiv 40) (show (0 : Int) < 4 by decide); simp only [bb]; omega
noncomputable def base16 : Str := Txt.mul (Str.ofString "&<>\"\r\n\ta") 2
theorem base_len : base16.length = 16 := by kernel_rfl!
theorem base_ok : MulOk (Str.ofString "&<>\"\r\n\ta") 2 := mulOk_of 16 1048576 (by decide) (by decide) (by decide) (by decide) (by decide)
theorem slice_rot : ((List.range 8).all fun j => Txt.slice base16 (some (j : Int)) (some ((j : Int) + 8)) == rotS j) = true := by kernel_rfl
theorem slice_rot' {j : Nat} (h : j < 8) : Txt.slice base16 (some (j : Int)) (some ((j : Int) + 8)) = rotS j := by
  have h1 := slice_rot
  rw [List.all_eq_true] at h1
  exact beq_iff_eq.mp (h1 j (List.mem_range.mpr h))
noncomputable def tScp : Scope := lcScp (lB 1)
theorem lB1 : ∃ p1 p2 p3 p4 p5 p6 p7 p8 p9 p10 p11 p12 p13 p14 p15 p16 p17 p18, lB 1 = .Assign [nmE "texts" p1] (.ListComp
    (.Subscript (.BinOp (.Constant (.str (Str.ofString "&<>\"\r\n\ta")) 0 p2) .Mult (.Constant (.int 2) 0 p3) p4)
      (.Slice (some (.BinOp (nmE "x" p5) .Mod (.Constant (.int 8) 0 p6) p7)) (some (.BinOp (.BinOp (nmE "x" p8) .Mod (.Constant (.int 8) 0 p9) p10) .Add (.Constant (.int 8) 0 p11) p12)) none p13) p14)
    [⟨nmE "x" p15, nmE "numbers" p16, [], 0⟩] tScp p17) p18 := ⟨_, _, _, _, _, _, _, _, _, _, _, _, _, _, _, _, _, _, rfl⟩
theorem tScp_names : tScp.names = [(Str.ofString ".0", .local), (Str.ofString "x", .local)] := by kernel_rfl
theorem tScp_kind : tScp.kind = .function := by kernel_rfl
theorem two_cell {n1 n2 : Str} {sc : Scope} (h : sc.names = [(n1, .local), (n2, .local)]) : ∀ y ∈ sc.names, y.2 ≠ .cell := by
  rw [h]; intro y hy
  simp only [List.mem_cons, List.not_mem_nil, or_false] at hy
  rcases hy with rfl | rfl <;> simp
theorem tScp_look : ∀ y ∈ tScp.names, y.2 = .local → tScp.names.lookup y.1 = some .local := by
  rw [tScp_names]; intro y hy
  simp only [List.mem_cons, List.not_mem_nil, or_false] at hy
  rcases hy with rfl | rfl
  · intro _; kernel_rfl!
  · intro _; kernel_rfl!
theorem tClos (P : Params) (L : Addr) : closureFor tScp (lEnv P L) = pure [] := by kernel_rfl
noncomputable def tEnv (P : Params) (L C : Addr) : Env := compEnvC tScp [] C (lEnv P L)
theorem te_kind (P : Params) (L C : Addr) : (tEnv P L C).scope.kind = .function := by kernel_rfl
theorem te_x (P : Params) (L C : Addr) : (tEnv P L C).kindOf (Str.ofString "x") = some .local := by kernel_rfl
theorem lk_texts (P : Params) (L : Addr) : (lEnv P L).cells.lookup (Str.ofString "texts") = some (L + 1) := by rw [le_cells]; kernel_rfl!
theorem lk_speeds (P : Params) (L : Addr) : (lEnv P L).cells.lookup (Str.ofString "speeds") = some (L + 1 + 1) := by rw [le_cells]; kernel_rfl!
set_option maxHeartbeats 400000 in
theorem l1_c {w : World} {A : Around} {s : Shared} {g : Heap} {L : Addr} {m cm : Str → Option Value} {fs : List (Addr × Obj)} {ln : Addr} {vs : List Value} {xs : List Int} {n₀ : Nat} {Q : Flow → Shared → Prop} {E : Value → Shared → Prop}
    (hA : Low A n₀) (c : Wc g (lEnv w.params L) m cm fs s.heap) (hs : m (Str.ofString "numbers") = some (.ref ln)) (hl : g.IsList ln vs.toArray) (hI : IntsAre vs xs) (h5 : xs.length = 5)
    (k : ∀ g' lt h' t', Keep g g' → WrAt g' lt (fun i => rotS (rr (xs.getD i 0))) → Wc g' (lEnv w.params L) m (fun y => if y = Str.ofString "texts" then some (.ref lt) else cm y) fs h' → Q .next { s with heap := h', toks := t' }) :
    wpAny (model PP w) A (exec (lB 1) (lEnv w.params L)) Q E s := by
  obtain ⟨p1, p2, p3, p4, p5, p6, p7, p8, p9, p10, p11, p12, p13, p14, p15, p16, p17, p18, e⟩ := lB1
  rw [e]
  have v5 : vs.length = 5 := by rw [hI.length]; exact h5
  refine wpAny_Assign_Name ?_ (by kernel_rfl!)
  refine lc_list (P := fun i _ v => ∃ t, v = .str (rotS (rr (xs.getD i 0))) t) hA c (le_cells_ok _ _) (tClos _ _) (two_cell tScp_names) tScp_kind tScp_look hl (by simp; omega) (fun _ => rfl) (fun Q' hq => wn_l c hs hq (le_kind _ _) (by kernel_rfl!)) (fun _ _ _ _ _ h => h) ?_ ?_
  · intro i x g' C rest mC s' hx kg cc
    obtain ⟨n, t, rfl, hn⟩ := ints_get hI (by simpa using hx)
    have en : xs.getD i 0 = n := by simp [hn]
    obtain ⟨hh, gg, dd, tt, oo⟩ := s'
    dsimp only at cc ⊢
    show wpAny _ _ (assign (nmE "x" p15) (tEnv w.params L C) _) _ _ _
    refine wpAny_assign_Name (wpAny_storeName_local (te_x _ _ _) cc.ns (fun h6 hn6 x6 => ?_) (by rw [te_kind]; rfl))
    have c6 := cc.store hn6 x6
    have X : ∀ {p : Pos} {h7 : Heap} {t7 : Nat} {Q' : Value → Shared → Prop}, Cp g' (lEnv w.params L) m cm C rest (fun y => if y = Str.ofString "x" then some (.int n t) else mC y) h7 → Q' (.int n t) ⟨h7, gg, dd, t7, oo⟩ → wpAny (model PP w) A (eval (nmE "x" p) (tEnv w.params L C)) Q' (fun _ _ => False) ⟨h7, gg, dd, t7, oo⟩ :=
      fun c7 hq => wpAny_Name (wpAny_loadName_local (te_kind _ _ _) (te_x _ _ _) c7.ns (if_pos rfl) hq) (by decide)
    show wpAny _ _ (eval _ (tEnv w.params L C)) _ _ _
    refine Subscript_ ?_
    refine wpAny_BinOp ?_
    refine wpAny_Constant_str ?_
    refine wpAny_Constant_int ?_
    refine SB.mul base_ok (fun t8 k8 => ?_)
    refine wpAny_Slice ?_
    show wpAny _ _ (eval (.BinOp _ _ _ _) (tEnv w.params L C)) _ _ _
    refine wpAny_BinOp ?_
    refine X c6 ?_
    refine wpAny_Constant_int ?_
    refine PyProof.Rows.mod_int' (by decide) ?_
    show wpAny _ _ (eval (.BinOp _ _ _ _) (tEnv w.params L C)) _ _ _
    refine wpAny_BinOp ?_
    refine wpAny_BinOp ?_
    refine X c6 ?_
    refine wpAny_Constant_int ?_
    refine PyProof.Rows.mod_int' (by decide) ?_
    refine wpAny_Constant_int ?_
    refine PyProof.Rows.add_int ?_
    refine wpAny_pure ?_
    dsimp only
    rw [rr_int]
    have hsz := base_len
    refine kba_turn (value' := .Name (Str.ofString "_") ⟨0, 0, 0, 0⟩) (fun _ => rfl) ?_
    refine tail_of_ItemOn (SBH.sliceItem_ss (s := ⟨h6, gg, dd, _, oo⟩) (P := fun h => Cp g' (lEnv w.params L) m cm C rest (fun y => if y = Str.ofString "x" then some (.int n t) else mC y) h) (fun h o x => x.keep (fun b o e => Heap.get?_push_of_some _ e)) c6 (fun h' t' k' c' => ?_) (by rw [sizeLine_eq]; show base16.length ≤ _; omega)) (by with_unfolding_all rfl) (fun _ => rfl)
    refine ⟨g', _, h', k', rfl, fun _ _ e => e, c', t', ?_⟩
    rw [en]
    exact congrArg (Value.str · t') (slice_rot' (rr_lt n))
  · intro g' D ws nn h' t' kg wl hw c'
    refine ws_c c' (x := Str.ofString "texts") (a := L + 1) (lk_texts _ _) ?_ (le_kind _ _) (by kernel_rfl!)
    intro h7 c7
    obtain ⟨g8, kg8, c8, e8⟩ := c7.drop (le_cells_ok _ _)
    refine k g8 D h7 _ (fun b o e => kg8 _ _ (kg _ _ e)) ⟨ws, nn, e8, by rw [wl]; simp [v5], fun i hi => ?_⟩ c8
    obtain ⟨v, hv⟩ : ∃ v, ws[i]? = some v := ⟨_, List.getElem?_eq_getElem (by rw [wl]; simp; omega)⟩
    obtain ⟨t, rfl⟩ := hw i v hv
    exact ⟨t, hv⟩
end Mine
end
section
open PySem PySem.W PySem.W.X PyProof.Rows PySem.Calls
set_option Elab.async false
set_option maxRecDepth 100000
set_option linter.unusedVariables false
set_option pp.maxSteps 500
namespace Mine
noncomputable def adr : Value → Addr | .ref a => a | _ => 0
theorem refs_of {P : Nat → Addr → Prop} {vs : List Value} (h : ∀ (i : Nat) v, vs[i]? = some v → ∃ p, v = .ref p ∧ P i p) : ∃ ps : List Addr, vs = ps.map Value.ref ∧ ∀ (i : Nat) p, ps[i]? = some p → P i p := by
  refine ⟨vs.map adr, ?_, fun i p e => ?_⟩
  · rw [List.map_map]
    apply List.ext_getElem?
    intro i
    rw [List.getElem?_map]
    cases q : vs[i]? with
    | none => rfl
    | some v =>
      obtain ⟨p, rfl, _⟩ := h i v q
      rfl
  · rw [List.getElem?_map] at e
    cases q : vs[i]? with
    | none => rw [q] at e; cases e
    | some v =>
      obtain ⟨p', rfl, z⟩ := h i v q
      rw [q] at e
      cases e
      exact z
noncomputable def sScp : Scope := lcScp (lB 2)
theorem lB2 : ∃ p1 p2 p3 p4 p5 p6 p7 p8 p9 p10 p11 p12 p13 p14 p15 p16 p17 p18 p19 p20, lB 2 = .Assign [nmE "speeds" p1] (.ListComp
    (.List [.BinOp (.Constant (.int 1) 0 p2) .Add (.BinOp (.BinOp (nmE "x" p3) .FloorDiv (.Constant (.int 8) 0 p4) p5) .Mod (.Constant (.int 5) 0 p6) p7) p8,
      .BinOp (.Constant (.int 1) 0 p9) .Add (.BinOp (.BinOp (nmE "x" p10) .FloorDiv (.Constant (.int 40) 0 p11) p12) .Mod (.Constant (.int 4) 0 p13) p14) p15] p16)
    [⟨nmE "x" p17, nmE "numbers" p18, [], 0⟩] sScp p19) p20 := ⟨_, _, _, _, _, _, _, _, _, _, _, _, _, _, _, _, _, _, _, _, rfl⟩
theorem sScp_names : sScp.names = [(Str.ofString ".0", .local), (Str.ofString "x", .local)] := by kernel_rfl
theorem sScp_kind : sScp.kind = .function := by kernel_rfl
theorem sScp_look : ∀ y ∈ sScp.names, y.2 = .local → sScp.names.lookup y.1 = some .local := by
  rw [sScp_names]; intro y hy
  simp only [List.mem_cons, List.not_mem_nil, or_false] at hy
  rcases hy with rfl | rfl
  · intro _; kernel_rfl!
  · intro _; kernel_rfl!
theorem sClos (P : Params) (L : Addr) : closureFor sScp (lEnv P L) = pure [] := by kernel_rfl
noncomputable def sEnv (P : Params) (L C : Addr) : Env := compEnvC sScp [] C (lEnv P L)
theorem se_kind (P : Params) (L C : Addr) : (sEnv P L C).scope.kind = .function := by kernel_rfl
theorem se_x (P : Params) (L C : Addr) : (sEnv P L C).kindOf (Str.ofString "x") = some .local := by kernel_rfl
set_option maxHeartbeats 400000 in
theorem l2_c {w : World} {A : Around} {s : Shared} {g : Heap} {L : Addr} {m cm : Str → Option Value} {fs : List (Addr × Obj)} {ln : Addr} {vs : List Value} {xs : List Int} {n₀ : Nat} {Q : Flow → Shared → Prop} {E : Value → Shared → Prop}
    (hA : Low A n₀) (c : Wc g (lEnv w.params L) m cm fs s.heap) (hs : m (Str.ofString "numbers") = some (.ref ln)) (hl : g.IsList ln vs.toArray) (hI : IntsAre vs xs) (h5 : xs.length = 5)
    (k : ∀ g' lt h' t', Keep g g' → SpAt g' lt (fun i => aa (xs.getD i 0)) (fun i => bb (xs.getD i 0)) → Wc g' (lEnv w.params L) m (fun y => if y = Str.ofString "speeds" then some (.ref lt) else cm y) fs h' → Q .next { s with heap := h', toks := t' }) :
    wpAny (model PP w) A (exec (lB 2) (lEnv w.params L)) Q E s := by
  obtain ⟨p1, p2, p3, p4, p5, p6, p7, p8, p9, p10, p11, p12, p13, p14, p15, p16, p17, p18, p19, p20, e⟩ := lB2
  rw [e]
  have v5 : vs.length = 5 := by rw [hI.length]; exact h5
  refine wpAny_Assign_Name ?_ (by kernel_rfl!)
  refine lc_list (P := fun i h v => ∃ p, v = .ref p ∧ ∃ t1 t2 e, h.get? p = some (Obj.mk (.type "list") none (.seq #[.int (aa (xs.getD i 0)) t1, .int (bb (xs.getD i 0)) t2] e) #[])) hA c (le_cells_ok _ _) (sClos _ _) (two_cell sScp_names) sScp_kind sScp_look hl (by simp; omega) (fun _ => rfl) (fun Q' hq => wn_l c hs hq (le_kind _ _) (by kernel_rfl!))
    (fun i h h' v k ⟨p, e1, t1, t2, e, e2⟩ => ⟨p, e1, t1, t2, e, k _ _ e2⟩) ?_ ?_
  · intro i x g' C rest mC s' hx kg cc
    obtain ⟨n, t, rfl, hn⟩ := ints_get hI (by simpa using hx)
    have en : xs.getD i 0 = n := by simp [hn]
    obtain ⟨hh, gg, dd, tt, oo⟩ := s'
    dsimp only at cc ⊢
    show wpAny _ _ (assign (nmE "x" p17) (sEnv w.params L C) _) _ _ _
    refine wpAny_assign_Name (wpAny_storeName_local (se_x _ _ _) cc.ns (fun h6 hn6 x6 => ?_) (by rw [se_kind]; rfl))
    have c6 := cc.store hn6 x6
    have X : ∀ {p : Pos} {h7 : Heap} {t7 : Nat} {Q' : Value → Shared → Prop}, Cp g' (lEnv w.params L) m cm C rest (fun y => if y = Str.ofString "x" then some (.int n t) else mC y) h7 → Q' (.int n t) ⟨h7, gg, dd, t7, oo⟩ → wpAny (model PP w) A (eval (nmE "x" p) (sEnv w.params L C)) Q' (fun _ _ => False) ⟨h7, gg, dd, t7, oo⟩ :=
      fun c7 hq => wpAny_Name (wpAny_loadName_local (se_kind _ _ _) (se_x _ _ _) c7.ns (if_pos rfl) hq) (by decide)
    show wpAny _ _ (eval _ (sEnv w.params L C)) _ _ _
    refine List_ ?_
    refine args_cons ?_
    refine wpAny_BinOp ?_
    refine wpAny_Constant_int ?_
    refine wpAny_BinOp ?_
    refine wpAny_BinOp ?_
    refine X c6 ?_
    refine wpAny_Constant_int ?_
    refine PyProof.Rows.floordiv_int (by decide) ?_
    refine wpAny_Constant_int ?_
    refine PyProof.Rows.mod_int' (by decide) ?_
    refine PyProof.Rows.add_int ?_
    refine args_cons ?_
    refine wpAny_BinOp ?_
    refine wpAny_Constant_int ?_
    refine wpAny_BinOp ?_
    refine wpAny_BinOp ?_
    refine X c6 ?_
    refine wpAny_Constant_int ?_
    refine PyProof.Rows.floordiv_int (by decide) ?_
    refine wpAny_Constant_int ?_
    refine PyProof.Rows.mod_int' (by decide) ?_
    refine PyProof.Rows.add_int ?_
    refine args_nil ?_
    refine wpAny_newList ?_
    dsimp only
    show ∃ _, _
    generalize ht1 : tt + 1 + 1 + 1 + 1 + 1 + 1 = u1
    generalize hvs : ([Value.int (1 + (n.fdiv 8).fmod 5) _, Value.int (1 + (n.fdiv 40).fmod 4) _] : List Value) = vl
    have hp : (h6.push { cls := .type "list", data := .seq vl.toArray }).get? h6.objs.size = some (listOf vl.toArray 0) := Heap.get?_push_size _ rfl
    have k1 : Keep h6 (h6.push { cls := .type "list", data := .seq vl.toArray }) := fun b o e => Heap.get?_push_of_some _ e
    have np : h6.get? h6.objs.size = none := Heap.get?_none_of_le (Nat.le_refl _)
    generalize (h6.push { cls := .type "list", data := .seq vl.toArray }) = h7 at hp k1 ⊢
    generalize h6.objs.size = p at hp np ⊢
    obtain ⟨g8, kg8, c8, e8⟩ := c6.alloc (le_cells_ok _ _) k1 np hp
    refine ⟨g8, _, h7, _, rfl, kg8, c8, p, rfl, ?_⟩
    subst hvs
    rw [en]
    exact ⟨_, _, 0, e8⟩
  · intro g' D ws nn h' t' kg wl hw c'
    refine ws_c c' (x := Str.ofString "speeds") (a := L + 1 + 1) (lk_speeds _ _) ?_ (le_kind _ _) (by kernel_rfl!)
    intro h7 c7
    obtain ⟨g8, kg8, c8, e8⟩ := c7.drop (le_cells_ok _ _)
    obtain ⟨ps, rfl, hps⟩ := refs_of hw
    refine k g8 D h7 _ (fun b o e => kg8 _ _ (kg _ _ e)) ⟨ps, nn, e8, by simpa [v5] using wl, fun i p hp => ?_⟩ c8
    obtain ⟨t1, t2, e, z⟩ := hps i p hp
    exact ⟨t1, t2, e, kg8 _ _ z⟩
end Mine
end
section
open PySem PySem.W PySem.W.X PyProof.Rows PySem.Calls
set_option Elab.async false
set_option maxRecDepth 100000
set_option linter.unusedVariables false
set_option pp.maxSteps 500
namespace Mine
/-- if c in text: text = text.replace(c, d) -/
noncomputable def IsEsc (st : Stmt) (c d : Str) : Prop := ∃ p1 p2 p3 p4 p5 p6 p7 p8 p9 p10 p11, st = .If (.Compare (.Constant (.str c) 0 p1) [.In] [nmE "text" p2] p3)
  [.Assign [nmE "text" p4] (.Call (.Attribute (nmE "text" p5) (Str.ofString "replace") p6) [.Constant (.str c) 0 p7, .Constant (.str d) 0 p8] [] p9) p10] [] p11 ∧ p6.endLine = p9.line
inductive AllEsc : List Stmt → List (Str × Str) → Prop
  | nil : AllEsc [] []
  | cons {st sts c d ps} : IsEsc st c d → AllEsc sts ps → AllEsc (st :: sts) ((c, d) :: ps)
noncomputable def repS (x c d : Str) : Str := if Txt.contains x c = true then Txt.replace x c d else x
noncomputable def escOk : List (Str × Str) → Str → Bool
  | [], _ => true
  | (c, d) :: ps, x => decide (x.length ≤ 1000) && decide (d.length ≤ 14) && (!(c == d)) && escOk ps (repS x c d)
noncomputable def escRun : List (Str × Str) → Str → Str
  | [], x => x
  | (c, d) :: ps, x => escRun ps (repS x c d)
section
variable {w : World} {A : Around} {E : Value → Shared → Prop} {env : Env}
theorem fr_name {s : Shared} {g : Heap} {m : Str → Option Value} {x : Str} {p : Pos} {v : Value} {Q : Value → Shared → Prop} (F : Fr g env.locals s.heap m) (hv : m x = some v) (h : Q v s) (hk : env.scope.kind = .function) (hx : env.kindOf x = some .local) (hb : (x == ("__debug__" : Str)) = false := by decide) :
    wpAny (model PP w) A (eval (.Name x p) env) Q E s := wpAny_Name (wpAny_loadName_local hk hx F.ns hv h) hb
theorem fr_store {s : Shared} {g : Heap} {m : Str → Option Value} {x : Str} {v : Value} {Q : Unit → Shared → Prop} (F : Fr g env.locals s.heap m) (h : ∀ h', Fr g env.locals h' (fun y => if y = x then some v else m y) → Q () { s with heap := h', toks := s.toks + 1 })
    (hk : env.scope.kind = .function) (hx : env.kindOf x = some .local) : wpAny (model PP w) A (storeName env x v) Q E s :=
  wpAny_storeName_local hx F.ns (fun h' hn hs => h h' (F.set hn hs)) (by rw [hk]; rfl)
theorem esc_step {s : Shared} {g : Heap} {m : Str → Option Value} {st : Stmt} {c d x : Str} {t : Tok} {Q : Flow → Shared → Prop} (hst : IsEsc st c d) (hk : env.scope.kind = .function) (hx : env.kindOf (Str.ofString "text") = some .local)
    (F : Fr g env.locals s.heap m) (hm : m (Str.ofString "text") = some (.str x t)) (h0 : 0 < s.toks) (hz : x.length ≤ 1000) (hd : d.length ≤ 14) (hcd : (c == d) = false)
    (h : ∀ h' t' m' u, Fr g env.locals h' m' → m' (Str.ofString "text") = some (.str (repS x c d) u) → 0 < t' → Q .next { s with heap := h', toks := t' }) :
    wpAny (model PP w) A (exec st env) Q E s := by
  obtain ⟨p1, p2, p3, p4, p5, p6, p7, p8, p9, p10, p11, rfl, hl⟩ := hst
  obtain ⟨hh, gg, dd, tt, oo⟩ := s
  dsimp only at *
  refine wpAny_If ?_
  refine wpAny_isTrue_Compare1 ?_
  refine wpAny_Constant_str ?_
  refine fr_name (g := g) F hm ?_ hk hx
  refine SB.contains ?_
  refine wpAny_truthy_bool ?_
  by_cases hc : Txt.contains x c = true
  · rw [hc, if_pos rfl]
    have e : repS x c d = Txt.replace x c d := if_pos hc
    rw [e] at h
    refine wpAny_execs_cons ?_
    refine wpAny_Assign_Name ?_
    refine MethodL_ hl ?_
    refine fr_name (g := g) F hm ?_ hk hx
    refine GM.replace ?_
    dsimp only
    refine callWith_method1 ?_
    refine args_cons ?_
    refine wpAny_Constant_str ?_
    refine args_cons ?_
    refine wpAny_Constant_str ?_
    refine args_nil ?_
    refine SC.replaceW (Nat.succ_ne_zero _) (Nat.succ_ne_zero _) (Nat.ne_of_lt (Nat.lt_succ_self _)) hcd (by omega) hd (fun t' k => ?_)
    refine fr_store (g := g) F (fun h' F' => ?_) hk hx
    refine wpAny_execs_nil ?_
    exact h h' _ _ t' F' (if_pos rfl) (Nat.succ_pos _)
  · have hc' : Txt.contains x c = false := Bool.eq_false_iff.mpr hc
    rw [hc', if_neg (by decide)]
    have e : repS x c d = x := if_neg hc
    rw [e] at h
    refine wpAny_execs_nil ?_
    exact h hh _ m t F hm (Nat.succ_pos _)
theorem esc_all {g : Heap} {p1 p2 : Pos} {Q : Flow → Shared → Prop} (hk : env.scope.kind = .function) (hx : env.kindOf (Str.ofString "text") = some .local) : ∀ {sts : List Stmt} {ps : List (Str × Str)} {s : Shared} {m : Str → Option Value} {x : Str} {t : Tok},
    AllEsc sts ps → Fr g env.locals s.heap m → m (Str.ofString "text") = some (.str x t) → 0 < s.toks → escOk ps x = true →
    (∀ h' t' u, Keep g h' → Q (.ret (.str (escRun ps x) u)) { s with heap := h', toks := t' }) → wpAny (model PP w) A (execs (sts ++ [.Return (some (nmE "text" p1)) p2]) env) Q E s
  | _, _, s, m, x, t, .nil, F, hm, h0, ok, h => by
    refine wpAny_execs_cons ?_
    refine wpAny_Return_some ?_
    refine fr_name (g := g) F hm ?_ hk hx
    exact h s.heap s.toks t F.keep
  | st :: sts, (c, d) :: ps, s, m, x, t, .cons h1 hr, F, hm, h0, ok, h => by
    simp only [escOk, Bool.and_eq_true, decide_eq_true_eq, Bool.not_eq_true'] at ok
    refine wpAny_execs_cons ?_
    refine esc_step (g := g) h1 hk hx F hm h0 ok.1.1.1 ok.1.1.2 ok.1.2 (h := fun h' t' m' u F' hm' h0' => ?_)
    exact esc_all hk hx hr F' hm' h0' ok.2 (fun h'' t'' u' k' => h h'' t'' u' k')
end
end Mine
end
section
open PySem PySem.W PySem.W.X PyProof.Rows PySem.Calls
set_option Elab.async false
set_option maxRecDepth 100000
set_option linter.unusedVariables false
set_option pp.maxSteps 500
namespace Mine
noncomputable abbrev sP (a b : String) : Str × Str := (Str.ofString a, Str.ofString b)
noncomputable def escPs (i : Nat) : List (Str × Str) := match i with
  | 0 => [sP "&" "&amp;", sP "<" "&lt;", sP ">" "&gt;"]
  | 1 => [sP "&" "&amp;", sP "<" "&lt;", sP ">" "&gt;", sP "\"" "&quot;", sP "\r" "&#13;", sP "\n" "&#10;", sP "\t" "&#09;"]
  | 2 => [sP "&" "&amp;", sP ">" "&gt;", sP "\"" "&quot;"]
  | 3 => [sP "&" "&amp;", sP "<" "&lt;", sP ">" "&gt;", sP "\r" "&#xD;"]
  | _ => [sP "&" "&amp;", sP "<" "&lt;", sP "\"" "&quot;", sP "\t" "&#x9;", sP "\n" "&#xA;", sP "\r" "&#xD;"]
noncomputable def escBoth : List (Str × Str) → Str → Option Str
  | [], x => some x
  | (c, d) :: ps, x => if decide (x.length ≤ 1000) && decide (d.length ≤ 14) && (!(c == d)) then escBoth ps (repS x c d) else none
theorem escBoth_ok : ∀ {ps : List (Str × Str)} {x y : Str}, escBoth ps x = some y → escOk ps x = true ∧ escRun ps x = y
  | [], x, y, h => by cases h; exact ⟨rfl, rfl⟩
  | (c, d) :: ps, x, y, h => by
    unfold escBoth at h
    split at h
    · rename_i q
      have := escBoth_ok h
      exact ⟨by unfold escOk; rw [q, this.1]; rfl, this.2⟩
    · cases h
noncomputable def escAll : Bool := (List.range 5).all fun i => (List.range 8).all fun r => match escBoth (escPs i) (rotS r) with | some y => y == wS i r | none => false
theorem escAll_ok : escAll = true := by kernel_rfl
theorem esc_facts {i r : Nat} (hi : i < 5) (hr : r < 8) : escOk (escPs i) (rotS r) = true ∧ escRun (escPs i) (rotS r) = wS i r := by
  have h := escAll_ok
  unfold escAll at h
  rw [List.all_eq_true] at h
  have h := h i (List.mem_range.mpr hi)
  rw [List.all_eq_true] at h
  have h := h r (List.mem_range.mpr hr)
  cases q : escBoth (escPs i) (rotS r) with
  | none => rw [q] at h; cases h
  | some y =>
    rw [q] at h
    have e := escBoth_ok q
    exact ⟨e.1, e.2.trans (beq_iff_eq.mp h)⟩
theorem esc_call {w : World} {A : Around} {n : Nat} {s : Shared} {a : Addr} {o : Obj} {fd : FuncData} {sts : List Stmt} {i r : Nat} {p1 p2 pos : Pos} {hd : ExceptHandler} {u : Tok} {Q : Value → Shared → Prop}
    (hA : Low A (n + 1)) (X : (Kc w.params).In s.heap) (hl : (Kc w.params).lookup a = some o) (hdata : o.data = .func fd) (hcd : codeIn (Kc w.params) fd.code fd.qualname = true)
    (hbody : fd.body = .stmts [.Try (sts ++ [.Return (some (nmE "text" p1)) p2]) [hd] [] [] pos]) (hbind : BindsTo s fd ⟨[.str (rotS r) u], []⟩ [(Str.ofString "text", .str (rotS r) u)]) (hnames : fd.scope.names.lookup (Str.ofString "text") = some .local) (hncell : ∀ x ∈ fd.scope.names, x.2 ≠ .cell)
    (all : AllEsc sts (escPs i)) (hi : i < 5) (hr : r < 8)
    (h : ∀ h' t' u', Keep s.heap h' → Q (.str (wS i r) u') { s with heap := h', toks := t' })
    (hco : fd.scope.isCoroutine = false := by rfl) (hgen : fd.scope.isGenerator = false := by rfl) (hk : fd.scope.kind = .function := by rfl) :
    wpAny (model PP w) A (call (.ref a) [.str (rotS r) u]) Q (fun _ _ => False) s := by
  refine call_static (n := n) (a := a) (binds := [(Str.ofString "text", .str (rotS r) u)]) hA X hl hdata hcd hbody hbind hncell (fun x hx => by
    rcases List.mem_cons.mp hx with rfl | hx
    · exact hnames
    · cases hx) ?_ hco hgen hk
  intro A' h₀ L hA' F
  obtain ⟨e1, e2⟩ := esc_facts hi hr
  refine wpAny_execs_cons ?_
  refine wpAny_Try_except ?_
  refine noE ?_
  refine esc_all (g := s.heap) (env := callEnv fd L a) hk hnames all F rfl (Nat.succ_pos _) e1 (fun h' t' u' k' => ?_)
  dsimp only
  rw [e2]
  exact h h' t' u' k'
section
variable {w : World} {A : Around} {n : Nat} {s : Shared} {r : Nat} {u : Tok} {Q : Value → Shared → Prop}
theorem esc0_c (hA : Low A (n + 1)) (X : (Kc w.params).In s.heap) (hr : r < 8) (h : ∀ h' t' u', Keep s.heap h' → Q (.str (wS 0 r) u') { s with heap := h', toks := t' }) : wpAny (model PP w) A (call (.ref 79) [.str (rotS r) u]) Q (fun _ _ => False) s := by
  refine esc_call (a := 79) (sts := [_, _, _]) (i := 0) hA X rfl rfl rfl rfl (.of_eq rfl) rfl (by decide) ?_ (by decide) hr h
  ((repeat refine AllEsc.cons ⟨_, _, _, _, _, _, _, _, _, _, _, rfl, rfl⟩ ?_); exact AllEsc.nil)
theorem esc1_c (hA : Low A (n + 1)) (X : (Kc w.params).In s.heap) (hr : r < 8) (h : ∀ h' t' u', Keep s.heap h' → Q (.str (wS 1 r) u') { s with heap := h', toks := t' }) : wpAny (model PP w) A (call (.ref 86) [.str (rotS r) u]) Q (fun _ _ => False) s := by
  refine esc_call (a := 86) (sts := [_, _, _, _, _, _, _]) (i := 1) hA X rfl rfl rfl rfl (.of_eq rfl) rfl (by decide) ?_ (by decide) hr h
  ((repeat refine AllEsc.cons ⟨_, _, _, _, _, _, _, _, _, _, _, rfl, rfl⟩ ?_); exact AllEsc.nil)
theorem esc2_c (hA : Low A (n + 1)) (X : (Kc w.params).In s.heap) (hr : r < 8) (h : ∀ h' t' u', Keep s.heap h' → Q (.str (wS 2 r) u') { s with heap := h', toks := t' }) : wpAny (model PP w) A (call (.ref 93) [.str (rotS r) u]) Q (fun _ _ => False) s := by
  refine esc_call (a := 93) (sts := [_, _, _]) (i := 2) hA X rfl rfl rfl rfl (.of_eq rfl) rfl (by decide) ?_ (by decide) hr h
  ((repeat refine AllEsc.cons ⟨_, _, _, _, _, _, _, _, _, _, _, rfl, rfl⟩ ?_); exact AllEsc.nil)
theorem esc3_c (hA : Low A (n + 1)) (X : (Kc w.params).In s.heap) (hr : r < 8) (h : ∀ h' t' u', Keep s.heap h' → Q (.str (wS 3 r) u') { s with heap := h', toks := t' }) : wpAny (model PP w) A (call (.ref 100) [.str (rotS r) u]) Q (fun _ _ => False) s := by
  refine esc_call (a := 100) (sts := [_, _, _, _]) (i := 3) hA X rfl rfl rfl rfl (.of_eq rfl) rfl (by decide) ?_ (by decide) hr h
  ((repeat refine AllEsc.cons ⟨_, _, _, _, _, _, _, _, _, _, _, rfl, rfl⟩ ?_); exact AllEsc.nil)
theorem esc4_c (hA : Low A (n + 1)) (X : (Kc w.params).In s.heap) (hr : r < 8) (h : ∀ h' t' u', Keep s.heap h' → Q (.str (wS 4 r) u') { s with heap := h', toks := t' }) : wpAny (model PP w) A (call (.ref 107) [.str (rotS r) u]) Q (fun _ _ => False) s := by
  refine esc_call (a := 107) (sts := [_, _, _, _, _, _]) (i := 4) hA X rfl rfl rfl rfl (.of_eq rfl) rfl (by decide) ?_ (by decide) hr h
  ((repeat refine AllEsc.cons ⟨_, _, _, _, _, _, _, _, _, _, _, rfl, rfl⟩ ?_); exact AllEsc.nil)
end
end Mine
end
section
open PySem PySem.W PySem.W.X PyProof.Rows PySem.Calls
set_option Elab.async false
set_option maxRecDepth 100000
set_option linter.unusedVariables false
set_option pp.maxSteps 500
namespace Mine
noncomputable abbrev escE (f : String) (i : Int) (a b c d e : Pos) : Expr := .Call (nmE f a) [.Subscript (nmE "texts" b) (.Constant (.int i) 0 c) d] [] e
theorem lB3 : ∃ p1 p2 p3 p4 p5 p6 p7 p8 p9 p10 p11 p12 p13 p14 p15 p16 p17 p18 p19 p20 p21 p22 p23 p24 p25 p26 p27 p28, lB 3 = .Assign [nmE "writings" p1] (.List [escE "_escape_cdata" 0 p2 p3 p4 p5 p6, escE "_escape_attrib" 1 p7 p8 p9 p10 p11, escE "_escape_attrib_html" 2 p12 p13 p14 p15 p16,
    escE "_escape_cdata_c14n" 3 p17 p18 p19 p20 p21, escE "_escape_attrib_c14n" 4 p22 p23 p24 p25 p26] p27) p28 := ⟨_, _, _, _, _, _, _, _, _, _, _, _, _, _, _, _, _, _, _, _, _, _, _, _, _, _, _, _, rfl⟩
theorem ad79 (P : Params) : nsIn (Kc P) mainGlobals (Str.ofString "_escape_cdata") = some (some (.ref 79)) := by kernel_rfl
theorem ad86 (P : Params) : nsIn (Kc P) mainGlobals (Str.ofString "_escape_attrib") = some (some (.ref 86)) := by kernel_rfl
theorem ad93 (P : Params) : nsIn (Kc P) mainGlobals (Str.ofString "_escape_attrib_html") = some (some (.ref 93)) := by kernel_rfl
theorem ad100 (P : Params) : nsIn (Kc P) mainGlobals (Str.ofString "_escape_cdata_c14n") = some (some (.ref 100)) := by kernel_rfl
theorem ad107 (P : Params) : nsIn (Kc P) mainGlobals (Str.ofString "_escape_attrib_c14n") = some (some (.ref 107)) := by kernel_rfl
section
variable {w : World} {A : Around} {E : Value → Shared → Prop} {h g : Heap} {gg : Array GenState} {d : Drawn} {t : Nat} {os : OsState} {L : Addr} {m cm : Str → Option Value} {fs : List (Addr × Obj)} {lt : Addr} {r : Nat → Nat} {Q : Value → Shared → Prop}
/-- _escape(texts[i]) -/
theorem esce_c {f : String} {a : Addr} {o : Obj} {fd : FuncData} {i : Nat} {b c' d' e' p : Pos} (B : Amb w g) (c : Wc g (lEnv w.params L) m cm fs h) (hct : cm (Str.ofString "texts") = some (.ref lt)) (T : WrAt g lt (fun i => rotS (r i))) (i5 : i < 5)
    (had : nsIn (Kc w.params) mainGlobals (Str.ofString f) = some (some (.ref a))) (hg : lScp.names.lookup (Str.ofString f) = some .globalImplicit) (hb : (Str.ofString f == ("__debug__" : Str)) = false) (hlk : (Kc w.params).lookup a = some o) (hdat : o.data = .func fd)
    (call : ∀ (s : Shared) (u : Tok) (Q' : Value → Shared → Prop), (Kc w.params).In s.heap → (∀ h' t' u', Keep s.heap h' → Q' (.str (wS i (r i)) u') { s with heap := h', toks := t' }) → wpAny (model PP w) A (PySem.call (.ref a) [.str (rotS (r i)) u]) Q' (fun _ _ => False) s)
    (k : ∀ h' t' u', Keep h h' → Q (.str (wS i (r i)) u') ⟨h', gg, d, t', os⟩) :
    wpAny (model PP w) A (eval (.Call (.Name (Str.ofString f) p) [.Subscript (nmE "texts" b) (.Constant (.int (i : Int)) 0 c') d'] [] e') (lEnv w.params L)) Q E ⟨h, gg, d, t, os⟩ := by
  obtain ⟨vs, n, ev, v5, fv⟩ := T
  obtain ⟨t0, e0⟩ := fv i i5
  refine Call_ ?_
  refine nm_glob B c.old had ?_ (le_kind _ _) (lk_g _ _ _ hg) (le_glob _ _) hb
  refine cw_static (f := a) B hlk hdat ?_
  refine args_cons ?_
  refine Subscript_ ?_
  refine wn_c c (lk_texts _ _) hct ?_ (le_kind _ _) (by kernel_rfl!)
  refine wpAny_Constant_int ?_
  refine item_list (PySem.IsL.isList (c.old _ _ ev)) (Int.natCast_nonneg _) (by omega) (x := .str (rotS (r i)) t0) (by simp [e0]) ?_ (by with_unfolding_all rfl) (fun _ => rfl)
  refine args_nil ⟨c.old, ?_⟩
  refine noE (call _ _ _ (Frag.In.keeps B.X c.old) (fun h' t' u' k' => ?_))
  exact k h' t' u' k'
end
set_option maxHeartbeats 400000 in
theorem l3_c {w : World} {A : Around} {s : Shared} {g : Heap} {L : Addr} {m cm : Str → Option Value} {fs : List (Addr × Obj)} {lt : Addr} {r : Nat → Nat} {n₀ : Nat} {Q : Flow → Shared → Prop} {E : Value → Shared → Prop}
    (hA : Low A (n₀ + 1)) (B : Amb w g) (c : Wc g (lEnv w.params L) m cm fs s.heap) (hct : cm (Str.ofString "texts") = some (.ref lt)) (T : WrAt g lt (fun i => rotS (r i))) (hr : ∀ k, r k < 8)
    (k : ∀ g' lw h' t', Keep g g' → WrAt g' lw (fun i => wS i (r i)) → Wc g' (lEnv w.params L) (fun y => if y = Str.ofString "writings" then some (.ref lw) else m y) cm fs h' → Q .next { s with heap := h', toks := t' }) :
    wpAny (model PP w) A (exec (lB 3) (lEnv w.params L)) Q E s := by
  obtain ⟨p1, p2, p3, p4, p5, p6, p7, p8, p9, p10, p11, p12, p13, p14, p15, p16, p17, p18, p19, p20, p21, p22, p23, p24, p25, p26, p27, p28, e⟩ := lB3
  obtain ⟨h0, gg, dd, tt, oo⟩ := s
  dsimp only at *
  rw [e]
  refine wpAny_Assign_Name ?_ (by kernel_rfl!)
  refine List_ ?_
  refine args_cons ?_
  refine esce_c (i := 0) (r := r) B c hct T (by decide) (ad79 _) (by kernel_rfl!) (by decide) rfl rfl (fun s u Q' X h => esc0_c hA X (hr 0) h) ?_
  intro h1 t1 u1 k1
  have c1 := c.keep k1
  refine args_cons ?_
  refine esce_c (i := 1) (r := r) B c1 hct T (by decide) (ad86 _) (by kernel_rfl!) (by decide) rfl rfl (fun s u Q' X h => esc1_c hA X (hr 1) h) ?_
  intro h2 t2 u2 k2
  have c2 := c1.keep k2
  refine args_cons ?_
  refine esce_c (i := 2) (r := r) B c2 hct T (by decide) (ad93 _) (by kernel_rfl!) (by decide) rfl rfl (fun s u Q' X h => esc2_c hA X (hr 2) h) ?_
  intro h3 t3 u3 k3
  have c3 := c2.keep k3
  refine args_cons ?_
  refine esce_c (i := 3) (r := r) B c3 hct T (by decide) (ad100 _) (by kernel_rfl!) (by decide) rfl rfl (fun s u Q' X h => esc3_c hA X (hr 3) h) ?_
  intro h4 t4 u4 k4
  have c4 := c3.keep k4
  refine args_cons ?_
  refine esce_c (i := 4) (r := r) B c4 hct T (by decide) (ad107 _) (by kernel_rfl!) (by decide) rfl rfl (fun s u Q' X h => esc4_c hA X (hr 4) h) ?_
  intro h5 t5 u5 k5
  have c5 := c4.keep k5
  refine args_nil ?_
  refine wpAny_newList ?_
  dsimp only
  generalize hvs : [Value.str (wS 0 (r 0)) u1, Value.str (wS 1 (r 1)) u2, Value.str (wS 2 (r 2)) u3, Value.str (wS 3 (r 3)) u4, Value.str (wS 4 (r 4)) u5] = vl
  have hp : (h5.push { cls := .type "list", data := .seq vl.toArray }).get? h5.objs.size = some (listOf vl.toArray 0) := Heap.get?_push_size _ rfl
  have kk : Keep h5 (h5.push { cls := .type "list", data := .seq vl.toArray }) := fun b o e => Heap.get?_push_of_some _ e
  have np : h5.get? h5.objs.size = none := Heap.get?_none_of_le (Nat.le_refl _)
  generalize (h5.push { cls := .type "list", data := .seq vl.toArray }) = h7 at hp kk ⊢
  generalize h5.objs.size = p at hp np ⊢
  obtain ⟨g8, kg8, c8, e8⟩ := c5.alloc (le_cells_ok _ _) kk np hp
  refine ws_l c8 ?_ (le_kind _ _) (by kernel_rfl!)
  intro h9 c9
  refine k g8 p h9 _ kg8 ⟨vl, 0, e8, by subst hvs; rfl, fun i hi => ?_⟩ c9
  subst hvs
  rcases (by omega : i = 0 ∨ i = 1 ∨ i = 2 ∨ i = 3 ∨ i = 4) with rfl | rfl | rfl | rfl | rfl <;> exact ⟨_, rfl⟩
end Mine
end
section
open PySem PySem.W PySem.W.X PyProof.Rows PySem.Calls
set_option Elab.async false
set_option maxRecDepth 100000
set_option linter.unusedVariables false
set_option pp.maxSteps 500
namespace Mine
noncomputable abbrev comp2 (elt t1 i1 t2 i2 : Expr) (scope : Scope) (pos : Pos) : Expr := .ListComp elt [⟨t1, i1, [], 0⟩, ⟨t2, i2, [], 0⟩] scope pos
theorem compTurn_2a (elt t1 i1 t2 i2 : Expr) (scope : Scope) (pos : Pos) (it acc : Value) (env : Env) :
    compTurn (comp2 elt t1 i1 t2 i2 scope pos) 0 it acc env = (standAt i1.pos >>= fun _ => pyNext it >>= fun r => match r with
      | none => pure (.done .next)
      | some v => letOwnedTupleGo t1 it v >>= fun _ => assign t1 env v >>= fun _ =>
        eval i2 env >>= fun x => standAt i2.pos >>= fun _ => foldedSetIterable i2 env x >>= fun x => holding [x] (pyIter x) >>= fun it2 => runOwn (.compStart (comp2 elt t1 i1 t2 i2 scope pos) 1 it2 acc env) env >>= fun _ =>
          again (.compLoop (comp2 elt t1 i1 t2 i2 scope pos) 0 it acc env)) := by rfl
theorem compTurn_2b (elt t1 i1 t2 i2 : Expr) (scope : Scope) (pos : Pos) (it acc : Value) (env : Env) :
    compTurn (comp2 elt t1 i1 t2 i2 scope pos) 1 it acc env = (standAt i2.pos >>= fun _ => pyNext it >>= fun r => match r with
      | none => pure (.done .next)
      | some v => letOwnedTupleGo t2 it v >>= fun _ => assign t2 env v >>= fun _ =>
        (eval elt env >>= fun x => call (.builtin "list.append") [acc, x] >>= fun _ => pure ()) >>= fun _ =>
          again (.compLoop (comp2 elt t1 i1 t2 i2 scope pos) 1 it acc env)) := by rfl
section
variable {prog : Program} {w : World} {A : Around} {s : Shared} {R : Result → Shared → Prop} {elt t1 i1 t2 i2 : Expr} {scope : Scope} {pos : Pos} {it acc : Value} {env : Env}
theorem loop_2b (I : Nat → Shared → Prop) (ht : ∀ it v, letOwnedTupleGo t2 it v = pure ())
    (turn : ∀ n s, I n s → wpAny (model prog w) A (pyNext it) (fun r s₁ => match r with
      | none => R (.ok .next) s₁
      | some v => wpAny (model prog w) A (assign t2 env v) (fun _ s₂ => wpAny (model prog w) A (eval elt env) (fun x s₃ =>
          wpAny (model prog w) A (call (.builtin "list.append") [acc, x]) (fun _ s₄ => ∃ m, m < n ∧ I m s₄) (notedBy (model prog w) A env fun e s' => R (.error e) s') s₃)
          (notedBy (model prog w) A env fun e s' => R (.error e) s') s₂) (notedBy (model prog w) A env fun e s' => R (.error e) s') s₁) (notedBy (model prog w) A env fun e s' => R (.error e) s') s)
    (n : Nat) (h : I n s) : codeAny (model prog w) A (.compLoop (comp2 elt t1 i1 t2 i2 scope pos) 1 it acc env) R s := by
  refine codeAny_loop rfl I (fun n s hI => ?_) n h
  show wpAny _ _ ((compTurn (comp2 elt t1 i1 t2 i2 scope pos) 1 it acc env).onRaise (fun x => do noteFrame x env; theTreesLotGoes x)) _ _ s
  refine wpAny_noted ?_
  rw [compTurn_2b]
  refine wpAny_bind (wpAny_standAt (wpAny_bind (wpAny_mono (turn n s hI) (fun r s₁ h₁ => ?_) fun _ _ h' => h')))
  cases r with
  | none => exact wpAny_pure h₁
  | some v =>
    refine wpAny_bind (wpAny_of_eq (ht it v) ?_)
    exact wpAny_bind (wpAny_mono h₁ (fun _ s₂ h₂ => wpAny_bind (wpAny_bind (wpAny_mono h₂ (fun x s₃ h₃ => wpAny_bind (wpAny_mono h₃
      (fun _ s₄ h₄ => wpAny_pure (wpAny_pure ⟨rfl, h₄⟩)) fun _ _ h' => h')) fun _ _ h' => h'))) fun _ _ h' => h')
theorem start_2b (h0 : codeAny (model prog w) A (.compLoop (comp2 elt t1 i1 t2 i2 scope pos) 1 it acc env) R s)
    (h : wpAny (model prog w) A (pyIter it) (fun it' s' => codeAny (model prog w) A (.compLoop (comp2 elt t1 i1 t2 i2 scope pos) 1 it' acc env) R s') (notedBy (model prog w) A env fun x s' => R (.error x) s') s) :
    codeAny (model prog w) A (.compStart (comp2 elt t1 i1 t2 i2 scope pos) 1 it acc env) R s := by
  refine codeAny_of_tree ?_
  show wpAny _ _ ((compStart (comp2 elt t1 i1 t2 i2 scope pos) 1 it acc env).onRaise (fun x => do noteFrame x env; standAt theWindowsPlace)) _ _ s
  refine wpAny_notedAt ?_
  unfold compStart
  show wpAny _ _ (ask >>= _) _ _ s
  refine wpAny_bind (wpAny_askSetting (wpAny_ite ?_))
  split
  · first
      | exact wpAny_bind (wpAny_pure (wpAny_pure (And.intro rfl h0)))
      | exact wpAny_pure (And.intro rfl h0)
  · exact wpAny_bind (wpAny_rule (wpAny_bind (wpAny_standAt (wpAny_bind (wpAny_mono h (fun it' s' h' => wpAny_pure (And.intro rfl h')) fun _ _ x => x)))))
theorem loop_2a (I : Nat → Shared → Prop) (ht : ∀ it v, letOwnedTupleGo t1 it v = pure ()) (ht2 : ∀ it v, letOwnedTupleGo t2 it v = pure ()) (hs2 : ∀ x, foldedSetIterable i2 env x = pure x)
    (turn : ∀ n s, I n s → wpAny (model prog w) A (pyNext it) (fun r s₁ => match r with
      | none => R (.ok .next) s₁
      | some v => wpAny (model prog w) A (assign t1 env v) (fun _ s₂ => wpAny (model prog w) A (eval i2 env) (fun x s₃ => wpAny (model prog w) A (pyIter x) (fun it2 s₄ =>
          ∃ (J : Nat → Shared → Prop) (n2 : Nat), J n2 s₄ ∧ (∀ s (Q' : Value → Shared → Prop) E', J n2 s → Q' it2 s → wpAny (model prog w) A (pyIter it2) Q' E' s) ∧ ∀ n' s, J n' s → wpAny (model prog w) A (pyNext it2) (fun r s₅ => match r with
            | none => ∃ m, m < n ∧ I m s₅
            | some v2 => wpAny (model prog w) A (assign t2 env v2) (fun _ s₆ => wpAny (model prog w) A (eval elt env) (fun y s₇ =>
                wpAny (model prog w) A (call (.builtin "list.append") [acc, y]) (fun _ s₈ => ∃ m, m < n' ∧ J m s₈) (fun _ _ => False) s₇) (fun _ _ => False) s₆) (fun _ _ => False) s₅) (fun _ _ => False) s)
          (notedBy (model prog w) A env fun e s' => R (.error e) s') s₃) (notedBy (model prog w) A env fun e s' => R (.error e) s') s₂) (notedBy (model prog w) A env fun e s' => R (.error e) s') s₁) (notedBy (model prog w) A env fun e s' => R (.error e) s') s)
    (n : Nat) (h : I n s) : codeAny (model prog w) A (.compLoop (comp2 elt t1 i1 t2 i2 scope pos) 0 it acc env) R s := by
  refine codeAny_loop rfl I (fun n s hI => ?_) n h
  show wpAny _ _ ((compTurn (comp2 elt t1 i1 t2 i2 scope pos) 0 it acc env).onRaise (fun x => do noteFrame x env; theTreesLotGoes x)) _ _ s
  refine wpAny_noted ?_
  rw [compTurn_2a]
  refine wpAny_bind (wpAny_standAt (wpAny_bind (wpAny_mono (turn n s hI) (fun r s₁ h₁ => ?_) fun _ _ h' => h')))
  cases r with
  | none => exact wpAny_pure h₁
  | some v =>
    refine wpAny_bind (wpAny_of_eq (ht it v) ?_)
    refine wpAny_bind (wpAny_mono h₁ (fun _ s₂ h₂ => ?_) fun _ _ h' => h')
    refine wpAny_bind (wpAny_mono h₂ (fun x s₃ h₃ => ?_) fun _ _ h' => h')
    refine wpAny_bind (wpAny_standAt (wpAny_bind (wpAny_of_eq (hs2 x) ?_)))
    refine wpAny_bind (wpAny_holding (wpAny_mono h₃ (fun it2 s₄ h₄ => ?_) fun _ _ h' => h'))
    obtain ⟨J, n2, hJ, hself, t2n⟩ := h₄
    refine wpAny_bind (wpAny_runOwn ?_)
    have loop : ∀ s, J n2 s → codeAny (model prog w) A (.compLoop (comp2 elt t1 i1 t2 i2 scope pos) 1 it2 acc env) (fun r s' => match r with
        | .ok f => wpAny (model prog w) A (again (.compLoop (comp2 elt t1 i1 t2 i2 scope pos) 0 it acc env)) (fun fin s' => match fin with | .done f => R (.ok f) s' | .again c' => c' = .compLoop (comp2 elt t1 i1 t2 i2 scope pos) 0 it acc env ∧ ∃ m, m < n ∧ I m s') (notedBy (model prog w) A env fun e s' => R (.error e) s') s'
        | .error e => cameBackBy (model prog w) A env (notedBy (model prog w) A env fun e s' => R (.error e) s') e s') s := by
      intro s hs
      refine loop_2b J ht2 (fun k s' hk => wpAny_mono (t2n k s' hk) (fun r s₅ h₅ => ?_) fun _ _ x => x.elim) n2 hs
      cases r with
      | none => exact wpAny_pure ⟨rfl, h₅⟩
      | some v2 => exact wpAny_mono h₅ (fun _ s₆ h₆ => wpAny_mono h₆ (fun y s₇ h₇ => wpAny_mono h₇ (fun _ _ q => q) fun _ _ x => x.elim) fun _ _ x => x.elim) fun _ _ x => x.elim
    exact codeAny_mono (start_2b (loop _ hJ) (hself _ _ _ hJ (loop _ hJ))) (fun r s' h' => by cases r <;> exact h')
end
end Mine
end
section
open PySem PySem.W PySem.W.X PyProof.Rows PySem.Calls
set_option Elab.async false
set_option maxRecDepth 100000
set_option linter.unusedVariables false
set_option pp.maxSteps 500
namespace Mine
section
theorem range8_x {w : World} {h : Heap} {g : Array GenState} {d : Drawn} {t : Nat} {os : OsState} {u : Tok} (KX : (Kc w.params).In h) :
    wpAny (model PP w) AA (call (.type "range") [.int 8 u]) (fun v s' => ∃ a t1 t2, v = .ref a ∧ s'.heap.get? a = some ⟨.type "range", none, .fields #[.int 0 t1, .int 8 u, .int 1 t2], #[]⟩ ∧ (∀ b o, h.get? b = some o → s'.heap.get? b = some o) ∧ Rest ⟨h, g, d, t, os⟩ s') (fun _ _ => False) ⟨h, g, d, t, os⟩ := range_n
end
noncomputable def mScp : Scope := match lB 4 with | .Assign _ (.Call _ [.ListComp _ _ sc _] _ _) _ => sc | _ => default
theorem lB4 : ∃ p1 p2 p3 p4 p5 p6 p7 p8 p9 p10 p11 p12 p13 p14 p15 p16 p17 p18 p19 p20 p21 p22 p23 p24 p25 p26 p27 p28 p29 p30 p31 p32 p33 p34, lB 4 = .Assign [nmE "times" p1] (.Call (nmE "sorted" p2) [comp2
    (.Tuple [.BinOp (.BinOp (nmE "n" p3) .Mult (.Subscript (.Subscript (nmE "speeds" p4) (nmE "k" p5) p6) (.Constant (.int 0) 0 p7) p8) p9) .Mult
        (.BinOp (.BinOp (.Constant (.int 24) 0 p10) .Pow (.Constant (.int 2) 0 p11) p12) .FloorDiv (.Subscript (.Subscript (nmE "speeds" p13) (nmE "k" p14) p15) (.Constant (.int 1) 0 p16) p17) p18) p19, nmE "k" p20, nmE "n" p21] 0 p22)
    (nmE "k" p23) (.Call (nmE "range" p24) [.Constant (.int 5) 0 p25] [] p26) (nmE "n" p27) (.Call (nmE "range" p28) [.Constant (.int 8) 0 p29] [] p30) mScp p31] [] p32) p33 ∧ p34 = p33 :=
  ⟨_, _, _, _, _, _, _, _, _, _, _, _, _, _, _, _, _, _, _, _, _, _, _, _, _, _, _, _, _, _, _, _, _, _, rfl, rfl⟩
theorem pow_c {w : World} {A : Around} {E : Value → Shared → Prop} {s : Shared} {t u : Tok} {Q : Value → Shared → Prop} (h : Q (.int 576 s.toks) { s with toks := s.toks + 1 }) : wpAny (model PP w) A (binaryOp .Pow (.int 24 t) (.int 2 u)) Q E s := by
  refine AutoIntOps.pow_4 (by decide) (by decide) (by decide) (by decide) (by decide +kernel) ?_
  exact h

theorem Wc.perm {g h : Heap} {env : Env} {m cm : Str → Option Value} {fs fs' : List (Addr × Obj)} (c : Wc g env m cm fs h) (p : fs.Perm fs') : Wc g env m cm fs' h :=
  ⟨c.ns, c.old, c.gL, c.cell, c.inj, fun q hq => c.fo q (p.mem_iff.mpr hq), (p.map _).nodup_iff.mp c.nd⟩
theorem mScp_names : mScp.names = [(Str.ofString ".0", .local), (Str.ofString "k", .local), (Str.ofString "n", .local), (Str.ofString "range", .globalImplicit), (Str.ofString "speeds", .free)] := by kernel_rfl
theorem mScp_kind : mScp.kind = .function := by kernel_rfl
theorem mScp_cell : ∀ y ∈ mScp.names, y.2 ≠ .cell := by
  rw [mScp_names]; intro y hy
  simp only [List.mem_cons, List.not_mem_nil, or_false] at hy
  rcases hy with rfl | rfl | rfl | rfl | rfl <;> simp
theorem mScp_look : ∀ y ∈ mScp.names, y.2 = .local → mScp.names.lookup y.1 = some .local := by
  rw [mScp_names]; intro y hy
  simp only [List.mem_cons, List.not_mem_nil, or_false] at hy
  rcases hy with rfl | rfl | rfl | rfl | rfl
  · intro _; kernel_rfl!
  · intro _; kernel_rfl!
  · intro _; kernel_rfl!
  · intro h; cases h
  · intro h; cases h
noncomputable abbrev mCl (L : Addr) : List (Str × Addr) := [(Str.ofString "speeds", L + 1 + 1)]
theorem mClos (P : Params) (L : Addr) : closureFor mScp (lEnv P L) = pure (mCl L) := by kernel_rfl
noncomputable def mEnv (P : Params) (L C : Addr) : Env := compEnvC mScp (mCl L) C (lEnv P L)
theorem me_kind (P : Params) (L C : Addr) : (mEnv P L C).scope.kind = .function := by kernel_rfl
theorem me_k (P : Params) (L C : Addr) : (mEnv P L C).kindOf (Str.ofString "k") = some .local := by kernel_rfl
theorem me_n (P : Params) (L C : Addr) : (mEnv P L C).kindOf (Str.ofString "n") = some .local := by kernel_rfl
theorem me_range (P : Params) (L C : Addr) : (mEnv P L C).kindOf (Str.ofString "range") = some .globalImplicit := by kernel_rfl
theorem me_sp (P : Params) (L C : Addr) : (mEnv P L C).kindOf (Str.ofString "speeds") = some .cell := by kernel_rfl
theorem me_csp (P : Params) (L C : Addr) : (mEnv P L C).cells.lookup (Str.ofString "speeds") = some (L + 1 + 1) := by kernel_rfl
theorem me_glob (P : Params) (L C : Addr) : (mEnv P L C).globals = mainGlobals := by kernel_rfl
theorem me_blt (P : Params) (L C : Addr) : (mEnv P L C).builtins = builtinsNs := by kernel_rfl
/-- the time of a hand's piece -/
noncomputable def whenI (a b : Nat → Int) (k n : Nat) : Int := (n : Int) * a k * (576 / b k)
noncomputable abbrev tupO (xs : Array Value) : Obj := { cls := .type "tuple", data := .seq xs }
noncomputable def TimeV (a b : Nat → Int) (j : Nat) (h : Heap) (v : Value) : Prop := ∃ p, v = .ref p ∧ ∃ t1 t2 t3, h.get? p = some (tupO #[.int (whenI a b (j / 8) (j % 8)) t1, .int ((j / 8 : Nat) : Int) t2, .int ((j % 8 : Nat) : Int) t3])
set_option maxHeartbeats 1000000 in
/-- one tuple -/
theorem time_c {w : World} {A : Around} {h g : Heap} {gg : Array GenState} {d : Drawn} {t : Nat} {os : OsState} {L C : Addr} {m cm mC : Str → Option Value} {rest : List (Addr × Obj)} {ls : Addr} {a b : Nat → Int} {k n : Nat} {tk tn : Tok} {p3 p4 p5 p6 p7 p8 p9 p10 p11 p12 p13 p14 p15 p16 p17 p18 p19 p20 p21 p22 : Pos} {Q : Value → Shared → Prop}
    (cc : Cp g (lEnv w.params L) m cm C rest mC h) (sp : SpAt g ls a b) (S : Sp a b) (hcs : cm (Str.ofString "speeds") = some (.ref ls)) (hk : mC (Str.ofString "k") = some (.int (k : Int) tk)) (hn : mC (Str.ofString "n") = some (.int (n : Int) tn)) (k5 : k < 5) (n8 : n < 8)
    (q : ∀ g'' h'' t'' v, Keep g g'' → Cp g'' (lEnv w.params L) m cm C rest mC h'' → TimeV a b (k * 8 + n) g'' v → h.get? (adr v) = none → Q v ⟨h'', gg, d, t'', os⟩) :
    wpAny (model PP w) A (eval (.Tuple [.BinOp (.BinOp (nmE "n" p3) .Mult (.Subscript (.Subscript (nmE "speeds" p4) (nmE "k" p5) p6) (.Constant (.int 0) 0 p7) p8) p9) .Mult
        (.BinOp (.BinOp (.Constant (.int 24) 0 p10) .Pow (.Constant (.int 2) 0 p11) p12) .FloorDiv (.Subscript (.Subscript (nmE "speeds" p13) (nmE "k" p14) p15) (.Constant (.int 1) 0 p16) p17) p18) p19, nmE "k" p20, nmE "n" p21] 0 p22) (mEnv w.params L C)) Q (fun _ _ => False) ⟨h, gg, d, t, os⟩ := by
  have N : ∀ {x : String} {v : Value} {p : Pos} {t7 : Nat} {Q' : Value → Shared → Prop}, (mEnv w.params L C).kindOf (Str.ofString x) = some .local → (Str.ofString x == ("__debug__" : Str)) = false → mC (Str.ofString x) = some v → Q' v ⟨h, gg, d, t7, os⟩ → wpAny (model PP w) A (eval (nmE x p) (mEnv w.params L C)) Q' (fun _ _ => False) ⟨h, gg, d, t7, os⟩ :=
    fun kx hb hv hq => wpAny_Name (wpAny_loadName_local (me_kind _ _ _) kx cc.ns hv hq) hb
  have a0 := S.a0 k; have a5 := S.a5 k; have b0 := S.b0 k; have b4 := S.b4 k
  have SPk : ∀ {p1 p2 p3 p4 p5 : Pos} {j t7 : Nat} {Q' : Value → Shared → Prop}, j < 2 → (∀ t' t0, Q' (.int (if j = 0 then a k else b k) t0) ⟨h, gg, d, t', os⟩) →
      wpAny (model PP w) A (eval (.Subscript (.Subscript (nmE "speeds" p1) (nmE "k" p2) p3) (.Constant (.int (j : Int)) 0 p4) p5) (mEnv w.params L C)) Q' (fun _ _ => False) ⟨h, gg, d, t7, os⟩ :=
    fun hj hq => sp_c (s := ⟨h, gg, d, _, os⟩) (sp.keep cc.old) (me_kind _ _ _) (me_sp _ _ _) (me_csp _ _ _) (hcs ▸ cc.cell (lk_speeds _ _)) (me_k _ _ _) cc.ns hk k5 hj hq
  refine Tuple_ ?_
  refine args_cons ?_
  refine wpAny_BinOp ?_
  refine wpAny_BinOp ?_
  refine N (me_n _ _ _) (by decide) hn ?_
  refine SPk (j := 0) (by decide) (fun t1 u1 => ?_)
  rw [if_pos rfl]
  refine PyProof.Rows.mul_int ?_ (IntMulOk.of_left (intBits_le_64 (by omega) (by omega)))
  refine wpAny_BinOp ?_
  refine wpAny_BinOp ?_
  refine wpAny_Constant_int ?_
  refine wpAny_Constant_int ?_
  refine pow_c ?_
  refine SPk (j := 1) (by decide) (fun t2 u2 => ?_)
  rw [if_neg (by decide)]
  refine PyProof.Rows.floordiv_int (by omega) ?_ (Or.inl (PyProof.noPylong_small (by omega)))
  have ed : (576 : Int).fdiv (b k) = 576 / b k := by
    have e : b k = 1 ∨ b k = 2 ∨ b k = 3 ∨ b k = 4 := by omega
    rcases e with e | e | e | e <;> rw [e] <;> decide
  rw [ed]
  have d0 : 0 ≤ 576 / b k ∧ 576 / b k ≤ 576 := by
    have e : b k = 1 ∨ b k = 2 ∨ b k = 3 ∨ b k = 4 := by omega
    rcases e with e | e | e | e <;> rw [e] <;> decide
  refine PyProof.Rows.mul_int ?_ (IntMulOk.of_right (intBits_le_64 (by omega) (by omega)))
  refine args_cons ?_
  refine N (me_k _ _ _) (by decide) hk ?_
  refine args_cons ?_
  refine N (me_n _ _ _) (by decide) hn ?_
  refine args_nil ?_
  refine wpAny_newTuple ?_
  dsimp only
  generalize hvs : ([Value.int ((n : Int) * a k * (576 / b k)) _, Value.int (k : Int) tk, Value.int (n : Int) tn] : List Value) = vl
  have hp : (h.push { cls := .type "tuple", data := .seq vl.toArray }).get? h.objs.size = some (tupO vl.toArray) := Heap.get?_push_size _ rfl
  have kk : Keep h (h.push { cls := .type "tuple", data := .seq vl.toArray }) := fun b o e => Heap.get?_push_of_some _ e
  have np : h.get? h.objs.size = none := Heap.get?_none_of_le (Nat.le_refl _)
  generalize (h.push { cls := .type "tuple", data := .seq vl.toArray }) = h7 at hp kk ⊢
  generalize h.objs.size = p at hp np ⊢
  obtain ⟨g8, kg8, c8, e8⟩ := cc.alloc (le_cells_ok _ _) kk np hp
  have e1 : (k * 8 + n) / 8 = k := by omega
  have e2 : (k * 8 + n) % 8 = n := by omega
  refine q g8 h7 _ _ kg8 c8 ⟨p, rfl, ?_⟩ np
  rw [e1, e2]
  subst hvs
  exact ⟨_, _, _, e8⟩
end Mine
end
section
open PySem PySem.W PySem.W.X PyProof.Rows PySem.Calls
set_option Elab.async false
set_option maxRecDepth 100000
set_option linter.unusedVariables false
set_option pp.maxSteps 500
namespace Mine
theorem Cp.addFront {g h h' : Heap} {env : Env} {m cm mC : Str → Option Value} {C : Addr} {rest : List (Addr × Obj)} (c : Cp g env m cm C rest mC h) {a : Addr} {o : Obj} (k : Keep h h') (na : h.get? a = none) (ha : h'.get? a = some o) : Cp g env m cm C ((a, o) :: rest) mC h' := by
  obtain ⟨⟨oC, x⟩, n⟩ := c
  exact ⟨⟨oC, (x.add k na ha).perm (List.Perm.swap _ _ _)⟩, n.keeps k⟩
theorem Cp.apart {g h : Heap} {env : Env} {m cm mC : Str → Option Value} {C : Addr} {rest : List (Addr × Obj)} (c : Cp g env m cm C rest mC h) : ∀ p ∈ rest, C ≠ p.1 := by
  obtain ⟨⟨oC, x⟩, n⟩ := c
  have nd := x.nd
  simp only [List.map_cons, List.nodup_cons] at nd
  exact fun p hp q => nd.1 (q ▸ List.mem_map_of_mem hp)
/-- the i-th of the objects changed -/
theorem Cp.ext {g h h' : Heap} {env : Env} {m cm mC : Str → Option Value} {C : Addr} {rest : List (Addr × Obj)} (c : Cp g env m cm C rest mC h) (i : Nat) {a : Addr} {o o' : Obj} (hi : rest[i]? = some (a, o)) (k : Heap.ExtBut a h h') (e : h'.get? a = some o') : Cp g env m cm C (rest.set i (a, o')) mC h' := by
  have ap := c.apart (a, o) (List.mem_of_getElem? hi)
  obtain ⟨⟨oC, x⟩, n⟩ := c
  exact ⟨⟨oC, x.ext (i + 1) (by simpa using hi) k e⟩, n.extBut k ap⟩
/-- the first of the objects let go -/
theorem Cp.dropFront {g h h' : Heap} {env : Env} {m cm mC : Str → Option Value} {C : Addr} {rest : List (Addr × Obj)} {a : Addr} {o : Obj} (c : Cp g env m cm C ((a, o) :: rest) mC h) (k : Heap.ExtBut a h h') : Cp g env m cm C rest mC h' := by
  have ap := c.apart (a, o) (List.mem_cons_self ..)
  obtain ⟨⟨oC, x⟩, n⟩ := c
  have f := x.fo (a, o) (List.mem_cons_of_mem _ (List.mem_cons_self ..))
  have nd := x.nd
  simp only [List.map_cons, List.nodup_cons] at nd
  refine ⟨⟨oC, (x.sublist ((List.sublist_cons_self _ _).cons₂ _)).but k f.2.1 f.2.2.1 f.2.2.2 (fun p hp q => ?_)⟩, n.extBut k ap⟩
  rcases List.mem_cons.mp hp with rfl | hp
  · exact ap q
  · exact nd.2.1 (q ▸ List.mem_map_of_mem hp)
theorem Cp.at {g h : Heap} {env : Env} {m cm mC : Str → Option Value} {C : Addr} {rest : List (Addr × Obj)} (c : Cp g env m cm C rest mC h) (i : Nat) {a : Addr} {o : Obj} (hi : rest[i]? = some (a, o)) : h.get? a = some o := by
  obtain ⟨⟨oC, x⟩, n⟩ := c
  exact x.at (i + 1) (by simpa using hi)
theorem ri_eq (x l : Int) {h : Heap} {a : Addr} {o : Obj} (i : IsRangeIter h a x l 1) (e : h.get? a = some o) : o = riO x l := Option.some.inj (e.symm.trans i)
set_option maxHeartbeats 2000000 in
theorem times_c {w : World} {A : Around} {E : Value → Shared → Prop} {s : Shared} {g : Heap} {L : Addr} {m cm : Str → Option Value} {fs : List (Addr × Obj)} {ls : Addr} {a b : Nat → Int} {n₀ : Nat} {Q : Value → Shared → Prop}
    {p3 p4 p5 p6 p7 p8 p9 p10 p11 p12 p13 p14 p15 p16 p17 p18 p19 p20 p21 p22 p23 p24 p25 p26 p27 p28 p29 p30 p31 : Pos}
    (hA : Low A n₀) (B : Amb w g) (c : Wc g (lEnv w.params L) m cm fs s.heap) (sp : SpAt g ls a b) (S : Sp a b) (hcs : cm (Str.ofString "speeds") = some (.ref ls))
    (k : ∀ (g' : Heap) (D : Addr) (vs : List Value) (nn : Nat) (h' : Heap) (t' : Nat), Keep g g' → vs.length = 40 → (∀ (i : Nat) v, vs[i]? = some v → TimeV a b i g' v) → Wc g' (lEnv w.params L) m cm ((D, listOf vs.toArray nn) :: fs) h' → Q (.ref D) { s with heap := h', toks := t' }) :
    wpAny (model PP w) A (eval (comp2
    (.Tuple [.BinOp (.BinOp (nmE "n" p3) .Mult (.Subscript (.Subscript (nmE "speeds" p4) (nmE "k" p5) p6) (.Constant (.int 0) 0 p7) p8) p9) .Mult
        (.BinOp (.BinOp (.Constant (.int 24) 0 p10) .Pow (.Constant (.int 2) 0 p11) p12) .FloorDiv (.Subscript (.Subscript (nmE "speeds" p13) (nmE "k" p14) p15) (.Constant (.int 1) 0 p16) p17) p18) p19, nmE "k" p20, nmE "n" p21] 0 p22)
    (nmE "k" p23) (.Call (nmE "range" p24) [.Constant (.int 5) 0 p25] [] p26) (nmE "n" p27) (.Call (nmE "range" p28) [.Constant (.int 8) 0 p29] [] p30) mScp p31) (lEnv w.params L)) Q E s := by
  rw [eval_ListComp]
  refine wpAny_comprehension_free (use := none) rfl (fun _ => rfl) (mClos _ _) mScp_kind mScp_look ?_
  refine Call_ ?_
  refine nm_built B c.old (by kernel_rfl) (v := .type "range") boot_range ?_ (by decide) (le_kind _ _) (lk_g _ _ _ (by kernel_rfl!)) (le_glob _ _) (le_blt _ _)
  refine PyProof.Rows.callWith_type1 ?_
  refine args_cons ?_
  refine wpAny_Constant_int ?_
  refine args_nil ?_
  obtain ⟨hh, gg, dd, tt, oo⟩ := s
  dsimp only at *
  refine noE (hA.run (wpAny_mono (range5_x (Frag.In.keeps B.X c.old)) ?_ (fun _ _ x => x.elim)))
  rintro _ ⟨h1, gA, dA, t1, oA⟩ ⟨ra, ta, tb, rfl, hra, k1, rfl, rfl, rfl⟩
  refine wpAny_pyIter_range hra (by decide) ?_
  dsimp only
  have hit : IsRangeIter (h1.push { cls := .type "range_iterator", data := .fields #[rawInt 0, rawInt (Builtin.Range.rangeSize 0 5 1), rawInt 1] }) h1.objs.size 0 5 1 := Heap.get?_push_size _ rfl
  have k2 : Keep h1 (h1.push { cls := .type "range_iterator", data := .fields #[rawInt 0, rawInt (Builtin.Range.rangeSize 0 5 1), rawInt 1] }) := fun b o e => Heap.get?_push_of_some _ e
  have nit : h1.get? h1.objs.size = none := Heap.get?_none_of_le (Nat.le_refl _)
  generalize h1.push { cls := .type "range_iterator", data := .fields #[rawInt 0, rawInt (Builtin.Range.rangeSize 0 5 1), rawInt 1] } = h2 at hit k2 ⊢
  generalize h1.objs.size = it at hit nit ⊢
  have c2 := (c.keep k1).add k2 nit hit
  refine wpAny_newObj_type (wpAny_newFunctionEnv mScp_cell (by intro y hy; simp at hy) (fun h3 nsC hsb => ?_) mScp_kind)
  dsimp only at nsC hsb ⊢
  have hD : (h2.push { cls := .type "list", dict := none, data := .seq ([] : List Value).toArray }).get? h2.objs.size = some (listOf #[] 0) := Heap.get?_push_size _ rfl
  have kp : Keep h2 (h2.push { cls := .type "list", dict := none, data := .seq ([] : List Value).toArray }) := fun b o e => Heap.get?_push_of_some _ e
  have nD : h2.get? h2.objs.size = none := Heap.get?_none_of_le (Nat.le_refl _)
  generalize (h2.push { cls := .type "list", dict := none, data := .seq ([] : List Value).toArray }) = H2 at *
  generalize h2.objs.size = D at hD nD ⊢
  have c3 := c2.add kp nD hD
  have nC : H2.get? H2.objs.size = none := Heap.get?_none_of_le (Nat.le_refl _)
  have k3 : Keep H2 h3 := fun b o e => hsb.extBut b o (Nat.ne_of_lt (Heap.lt_size e)) (Heap.get?_push_of_some _ e)
  generalize H2.objs.size = C at nC nsC hsb ⊢
  obtain ⟨oC, esC, epC, hC, dC, rC⟩ := id nsC
  have c4 : Cp g (lEnv w.params L) m cm C ((D, listOf #[] 0) :: (it, riO 0 5) :: fs) (fun _ => none) h3 := ⟨⟨oC, c3.add k3 nC hC⟩, nsC⟩
  show codeAny _ _ (.compStart _ 0 (.ref it) (.ref D) (mEnv w.params L C)) _ _
  let I : Nat → Shared → Prop := fun n s' => ∃ (j : Nat) (h t : _) (mC : Str → Option Value) (vs : List Value) (nn : Nat) (g1 : Heap), n + j = 5 ∧ s' = ⟨h, gA, dA, t, oA⟩ ∧ Keep g g1 ∧ Cp g1 (lEnv w.params L) m cm C ((D, listOf vs.toArray nn) :: (it, riO (j : Int) ((5 - j : Nat) : Int)) :: fs) mC h ∧
      vs.length = j * 8 ∧ ∀ (i : Nat) v, vs[i]? = some v → TimeV a b i g1 v
  have hI : I 5 ⟨h3, gA, dA, t1 + ([] : List (Str × Value)).length, oA⟩ := ⟨0, h3, _, _, [], 0, g, rfl, rfl, fun _ _ e => e, c4, rfl, fun i v q => by simp at q⟩
  have hself : ∀ s (Q' : Value → Shared → Prop) E', I 5 s → Q' (.ref it) s → wpAny (model PP w) A (pyIter (.ref it)) Q' E' s := by
    rintro s Q' E' ⟨j, h, t, mC, vs, nn, g1, hj, rfl, kg, cc, hl, hx⟩ hq
    exact wpAny_pyIter_rangeiter (show IsRangeIter h it _ _ _ from cc.at 1 rfl) hq
  have loop : ∀ s, I 5 s → codeAny (model PP w) A (.compLoop (comp2
    (.Tuple [.BinOp (.BinOp (nmE "n" p3) .Mult (.Subscript (.Subscript (nmE "speeds" p4) (nmE "k" p5) p6) (.Constant (.int 0) 0 p7) p8) p9) .Mult
        (.BinOp (.BinOp (.Constant (.int 24) 0 p10) .Pow (.Constant (.int 2) 0 p11) p12) .FloorDiv (.Subscript (.Subscript (nmE "speeds" p13) (nmE "k" p14) p15) (.Constant (.int 1) 0 p16) p17) p18) p19, nmE "k" p20, nmE "n" p21] 0 p22)
    (nmE "k" p23) (.Call (nmE "range" p24) [.Constant (.int 5) 0 p25] [] p26) (nmE "n" p27) (.Call (nmE "range" p28) [.Constant (.int 8) 0 p29] [] p30) mScp p31) 0 (.ref it) (.ref D) (mEnv w.params L C)) (compPost (model PP w) A E none Q (.ref D) C) s := by
    intro s hs
    refine loop_2a I (fun _ _ => rfl) (fun _ _ => rfl) (fun _ => rfl) ?_ 5 hs
    clear hs hI c c2 c3 c4 hit hD nsC hC hra
    rintro n s' ⟨j, h, t, mC, vs, nn, g1, hj, rfl, kg, cc, hl, hx⟩
    have hii : IsRangeIter h it (j : Int) ((5 - j : Nat) : Int) 1 := cc.at 1 rfl
    rcases Nat.eq_zero_or_pos n with rfl | hn0
    · have j5 : j = 5 := by omega
      subst j5
      refine noE (wpAny_pyNext_range_end hA.hd hii (by decide) (fun h' x' => ?_))
      dsimp only
      have c5 : Cp g1 (lEnv w.params L) m cm C ((it, riO ((5 : Nat) : Int) ((5 - 5 : Nat) : Int)) :: (D, listOf vs.toArray nn) :: fs) mC h := by
        obtain ⟨⟨oC', x⟩, nc⟩ := cc
        exact ⟨⟨oC', x.perm ((List.Perm.swap _ _ _).cons _)⟩, nc⟩
      have c6 := c5.dropFront x'
      refine ⟨mC, c6.ns, fun h'' y' => ?_⟩
      exact k g1 D vs nn h'' t kg (by omega) hx (c6.out y')
    · refine noE (wpAny_pyNext_range_item hii (by omega) (fun h' hi' x' => ?_))
      dsimp only
      have c5 : Cp g1 (lEnv w.params L) m cm C ((D, listOf vs.toArray nn) :: (it, riO ((j : Int) + 1) (((5 - j : Nat) : Int) - 1)) :: fs) mC h' := cc.ext 1 rfl x'.extBut hi'
      refine wpAny_assign_Name (wpAny_storeName_local (me_k _ _ _) c5.ns (fun h6 hn6 x6 => ?_) (by rw [me_kind]; rfl))
      have c6 := c5.store hn6 x6
      refine Call_ ?_
      refine nm_built (B.keep kg) c6.old (by kernel_rfl) (v := .type "range") boot_range ?_ (by decide) (me_kind _ _ _) (me_range _ _ _) (me_glob _ _ _) (me_blt _ _ _)
      refine PyProof.Rows.callWith_type1 ?_
      refine args_cons ?_
      refine wpAny_Constant_int ?_
      refine args_nil ?_
      refine noE (hA.run (wpAny_mono (range8_x (Frag.In.keeps B.X (fun b o e => c6.old _ _ (kg _ _ e)))) ?_ (fun _ _ x => x.elim)))
      rintro _ ⟨h7, gA', dA', t7, oA'⟩ ⟨rb, tc, td, rfl, hrb, k7, rfl, rfl, rfl⟩
      refine wpAny_pyIter_range hrb (by decide) ?_
      dsimp only
      have hit2 : IsRangeIter (h7.push { cls := .type "range_iterator", data := .fields #[rawInt 0, rawInt (Builtin.Range.rangeSize 0 8 1), rawInt 1] }) h7.objs.size 0 8 1 := Heap.get?_push_size _ rfl
      have k8 : Keep h7 (h7.push { cls := .type "range_iterator", data := .fields #[rawInt 0, rawInt (Builtin.Range.rangeSize 0 8 1), rawInt 1] }) := fun b o e => Heap.get?_push_of_some _ e
      have nit2 : h7.get? h7.objs.size = none := Heap.get?_none_of_le (Nat.le_refl _)
      generalize h7.push { cls := .type "range_iterator", data := .fields #[rawInt 0, rawInt (Builtin.Range.rangeSize 0 8 1), rawInt 1] } = h8 at hit2 k8 ⊢
      generalize h7.objs.size = it2 at hit2 nit2 ⊢
      have c8 := (c6.keep k7).addFront k8 nit2 hit2
      have hkC : (fun y => if y = Str.ofString "k" then some (Value.int (j : Int) t) else mC y) (Str.ofString "k") = some (.int (j : Int) t) := if_pos rfl
      generalize hmk : (fun y => if y = Str.ofString "k" then some (Value.int (j : Int) t) else mC y) = mK at c8 hkC
      refine ⟨fun n' s' => ∃ (i : Nat) (h t : _) (mC : Str → Option Value) (vs : List Value) (nn : Nat) (g1 : Heap), n' + i = 8 ∧ s' = ⟨h, gA', dA', t, oA'⟩ ∧ Keep g g1 ∧ mC (Str.ofString "k") = mK (Str.ofString "k") ∧
          Cp g1 (lEnv w.params L) m cm C ((it2, riO (i : Int) ((8 - i : Nat) : Int)) :: (D, listOf vs.toArray nn) :: (it, riO ((j : Int) + 1) (((5 - j : Nat) : Int) - 1)) :: fs) mC h ∧
          vs.length = j * 8 + i ∧ ∀ (i : Nat) v, vs[i]? = some v → TimeV a b i g1 v, 8, ?_, ?_, ?_⟩
      · exact ⟨0, h8, _, mK, vs, nn, g1, rfl, rfl, kg, rfl, c8, by omega, hx⟩
      · rintro s Q' E' ⟨i, h, t, mC, vs, nn, g1, hj, rfl, kg, hm, cc, hl, hx⟩ hq
        exact wpAny_pyIter_rangeiter (show IsRangeIter h it2 _ _ _ from cc.at 0 rfl) hq
      · clear cc c5 c6 c8 hit2 hrb hii hx hl hi' hn6
        clear kg g1
        rintro n' s' ⟨i, h, t', mC', vs', nn', g1, hi, rfl, kg, hm, cc, hl, hx⟩
        have hjj : IsRangeIter h it2 (i : Int) ((8 - i : Nat) : Int) 1 := cc.at 0 rfl
        rcases Nat.eq_zero_or_pos n' with rfl | hn1
        · have i8 : i = 8 := by omega
          subst i8
          refine wpAny_pyNext_range_end hA.hd hjj (by decide) (fun h' x' => ?_)
          dsimp only
          have c9 := cc.dropFront x'
          have q1 : ((j + 1 : Nat) : Int) = (j : Int) + 1 := by omega
          have q2 : ((5 - (j + 1) : Nat) : Int) = ((5 - j : Nat) : Int) - 1 := by omega
          refine ⟨n - 1, by omega, j + 1, h', t', mC', vs', nn', g1, by omega, rfl, kg, ?_, by omega, hx⟩
          rw [q1, q2]; exact c9
        · refine wpAny_pyNext_range_item hjj (by omega) (fun h' hi' x' => ?_)
          dsimp only
          have c9 : Cp g1 (lEnv w.params L) m cm C ((it2, riO ((i : Int) + 1) (((8 - i : Nat) : Int) - 1)) :: (D, listOf vs'.toArray nn') :: (it, riO ((j : Int) + 1) (((5 - j : Nat) : Int) - 1)) :: fs) mC' h' := cc.ext 0 rfl x'.extBut hi'
          refine wpAny_assign_Name (wpAny_storeName_local (me_n _ _ _) c9.ns (fun h10 hn10 x10 => ?_) (by rw [me_kind]; rfl))
          have c10 := c9.store hn10 x10
          have hm2 : (fun y => if y = Str.ofString "n" then some (Value.int (i : Int) t') else mC' y) (Str.ofString "k") = mK (Str.ofString "k") := (if_neg (by decide)).trans hm
          have hkk : (fun y => if y = Str.ofString "n" then some (Value.int (i : Int) t') else mC' y) (Str.ofString "k") = some (.int (j : Int) t) := (if_neg (by decide)).trans (hm.trans hkC)
          refine time_c c10 (sp.keep kg) S hcs hkk (if_pos rfl) (by omega) (by omega) (fun g11 h11 t11 v kg11 c11 tv nv => ?_)
          refine append_c (c11.at 1 rfl) (by simp [hl]; omega) ?_
          intro h12 n12 x12 e12
          have c12 := c11.ext 1 rfl x12.extBut e12
          have e1 : vs'.toArray.push v = (vs' ++ [v]).toArray := by simp
          rw [e1] at c12
          have q1 : ((i + 1 : Nat) : Int) = (i : Int) + 1 := by omega
          have q2 : ((8 - (i + 1) : Nat) : Int) = ((8 - i : Nat) : Int) - 1 := by omega
          refine ⟨n' - 1, by omega, i + 1, h12, t11, (fun y => if y = Str.ofString "n" then some (Value.int (i : Int) t') else mC' y), vs' ++ [v], n12, g11, by omega, rfl, fun b o e => kg11 _ _ (kg _ _ e), hm2, ?_, by simp [hl]; omega, ?_⟩
          · rw [q1, q2]; exact c12
          · intro x y hy
            rcases Nat.lt_or_ge x vs'.length with q | q
            · rw [List.getElem?_append_left q] at hy
              obtain ⟨p, e1, t1, t2, t3, e2⟩ := hx x y hy
              exact ⟨p, e1, t1, t2, t3, kg11 _ _ e2⟩
            · rw [List.getElem?_append_right q] at hy
              have q0 : x - vs'.length = 0 := by
                rcases Nat.eq_zero_or_pos (x - vs'.length) with z | z
                · exact z
                · rw [List.getElem?_eq_none (by simp; omega)] at hy; cases hy
              rw [q0] at hy
              simp at hy
              subst hy
              have : x = j * 8 + i := by omega
              subst this
              exact tv
  exact codeAny_compStart_list (loop _ hI) (hself _ _ _ hI (loop _ hI))
end Mine
end
section
open PySem PySem.W PyProof.Rows
set_option Elab.async false
set_option linter.unusedVariables false
namespace Mine
/-- what a tree of questions gives where lt answers, its questions below n -/
noncomputable def Gives {α : Type} (n : Nat) (lt : Nat → Nat → Bool) : KasT α → (α → Prop) → Prop
  | .ret a, P => P a
  | .ask i j k, P => i < n ∧ j < n ∧ Gives n lt (k (lt i j)) P
theorem Gives.bind {α β : Type} {n : Nat} {lt : Nat → Nat → Bool} {f : α → KasT β} {P : β → Prop} : ∀ {t : KasT α}, Gives n lt t (fun a => Gives n lt (f a) P) → Gives n lt (t.bind f) P
  | .ret _, h => h
  | .ask i j k, h => ⟨h.1, h.2.1, Gives.bind (t := k (lt i j)) h.2.2⟩
theorem Gives.wp {α : Type} {n : Nat} {lt : Nat → Nat → Bool} {P : α → Prop} {cmp : Nat → Nat → (Bool → Shared → Prop) → Shared → Prop} {I : Shared → Prop} {Q : α → Shared → Prop}
    (hc : ∀ i j C s, i < n → j < n → I s → (∀ s', I s' → C (lt i j) s') → cmp i j C s) : ∀ {t : KasT α} {s : Shared}, Gives n lt t P → I s → (∀ a s', P a → I s' → Q a s') → t.kasWp cmp Q s
  | .ret a, s, h, hI, hq => hq a s h hI
  | .ask i j k, s, h, hI, hq => hc i j _ s h.1 h.2.1 hI fun s' hI' => Gives.wp hc (t := k (lt i j)) h.2.2 hI' hq
section
variable {n : Nat} {r : Nat → Int}
noncomputable abbrev ltR (r : Nat → Int) (i j : Nat) : Bool := decide (r i < r j)
/-- p's first k stand in order -/
noncomputable def SrtTo (r : Nat → Int) (p : Array Nat) (k : Nat) : Prop := ∀ i j, i < j → j < k → r (p.getD i 0) ≤ r (p.getD j 0)
structure PermOf (n : Nat) (p : Array Nat) : Prop where
  perm : p.toList.Perm (List.range n)
theorem PermOf.size {p : Array Nat} (h : PermOf n p) : p.size = n := by have := h.perm.length_eq; simpa using this
theorem PermOf.lt {p : Array Nat} (h : PermOf n p) {i : Nat} (hi : i < n) : p.getD i 0 < n := by
  have hs : i < p.size := by rw [h.size]; exact hi
  have e : p.getD i 0 = p[i] := by simp [Array.getD, hs]
  rw [e]
  have := h.perm.mem_iff.mp (show p[i] ∈ p.toList by simp)
  exact List.mem_range.mp this
theorem place_g {p : Array Nat} {k : Nat} (hp : PermOf n p) (hk : k < n) (hs : SrtTo r p k) {P : Nat → Prop} : ∀ (f l u : Nat), u ≤ k → l ≤ u → u - l ≤ f → (∀ i, i < l → r (p.getD i 0) ≤ r (p.getD k 0)) → (∀ i, u ≤ i → i < k → r (p.getD k 0) < r (p.getD i 0)) →
    (∀ l', l' ≤ k → (∀ i, i < l' → r (p.getD i 0) ≤ r (p.getD k 0)) → (∀ i, l' ≤ i → i < k → r (p.getD k 0) < r (p.getD i 0)) → P l') → Gives n (ltR r) (kas_place p k f l u) P
  | 0, l, u, hu, hl, hf, h1, h2, q => q l (by omega) h1 (fun i hi => h2 i (by omega))
  | f + 1, l, u, hu, hl, hf, h1, h2, q => by
    unfold kas_place
    by_cases hlu : l ≥ u
    · rw [if_pos hlu]
      exact q l (by omega) h1 (fun i hi => h2 i (by omega))
    · rw [if_neg hlu]
      refine ⟨hp.lt hk, hp.lt (by omega), ?_⟩
      by_cases hc : r (p.getD k 0) < r (p.getD ((l + u) / 2) 0)
      · rw [show ltR r (p.getD k 0) (p.getD ((l + u) / 2) 0) = true from decide_eq_true hc]; dsimp only; rw [if_pos rfl]
        refine place_g hp hk hs f l ((l + u) / 2) (by omega) (by omega) (by omega) h1 (fun i hi hik => ?_) q
        rcases Nat.lt_or_eq_of_le hi with hi | rfl
        · exact Int.lt_of_lt_of_le hc (hs _ _ hi hik)
        · exact hc
      · rw [show ltR r (p.getD k 0) (p.getD ((l + u) / 2) 0) = false from decide_eq_false hc]; dsimp only; rw [if_neg (by decide)]
        refine place_g hp hk hs f ((l + u) / 2 + 1) u hu (by omega) (by omega) (fun i hi => ?_) h2 q
        rcases Nat.lt_or_eq_of_le (Nat.lt_succ_iff.mp hi) with hi | rfl
        · exact Int.le_trans (hs _ _ hi (by omega)) (Int.not_lt.mp hc)
        · exact Int.not_lt.mp hc
theorem getD_bubble {p : Array Nat} {src d : Nat} (hs : src < p.size) (hd : d ≤ src) (k : Nat) : (bubble p src d).getD k 0 = if k = src - d then p.getD src 0 else if src - d < k ∧ k ≤ src then p.getD (k - 1) 0 else p.getD k 0 := by
  have e := getElem?_bubble hs d hd k
  have g : ∀ (a : Array Nat) (i : Nat), a.getD i 0 = (a[i]?).getD 0 := fun a i => by simp [Array.getD_eq_getD_getElem?]
  rw [g, e]
  by_cases h1 : k = src - d
  · rw [if_pos h1, if_pos h1, g]
  · rw [if_neg h1, if_neg h1]
    by_cases h2 : src - d < k ∧ k ≤ src
    · rw [if_pos h2, if_pos h2, g]
    · rw [if_neg h2, if_neg h2, g]
theorem bin_g {P : Array Nat → Prop} : ∀ (f : Nat) (p : Array Nat) (k : Nat), PermOf n p → SrtTo r p k → k + f = n → (∀ p', PermOf n p' → SrtTo r p' n → P p') → Gives n (ltR r) (kas_bin f p k) P
  | 0, p, k, hp, hs, hk, q => q p hp (by rw [← hk]; exact hs)
  | f + 1, p, k, hp, hs, hk, q => by
    show Gives n (ltR r) ((kas_place p k k 0 k).bind fun l => kas_bin f (bubble p k (k - l)) (k + 1)) P
    refine Gives.bind (place_g hp (by omega) hs k 0 k (Nat.le_refl _) (Nat.zero_le _) (by omega) (fun i hi => by omega) (fun i h1 h2 => by omega) (fun l hl h1 h2 => ?_))
    have hks : k < p.size := by rw [hp.size]; omega
    refine bin_g f _ (k + 1) ⟨(Array.perm_iff_toList_perm.mp (bubble_perm ..)).trans hp.perm⟩ ?_ (by omega) q
    intro i j hij hj
    have e : k - (k - l) = l := by omega
    have gi := getD_bubble (p := p) hks (d := k - l) (by omega) i
    have gj := getD_bubble (p := p) hks (d := k - l) (by omega) j
    rw [e] at gi gj
    rw [gi, gj]
    by_cases i1 : i = l
    · have j1 : ¬ j = l := by omega
      have j2 : l < j ∧ j ≤ k := by omega
      rw [if_pos i1, if_neg j1, if_pos j2]
      exact Int.le_of_lt (h2 _ (by omega) (by omega))
    · rw [if_neg i1]
      by_cases i2 : l < i ∧ i ≤ k
      · have j1 : ¬ j = l := by omega
        have j2 : l < j ∧ j ≤ k := by omega
        rw [if_pos i2, if_neg j1, if_pos j2]
        exact hs _ _ (by omega) (by omega)
      · rw [if_neg i2]
        by_cases j1 : j = l
        · rw [if_pos j1]; exact h1 _ (by omega)
        · rw [if_neg j1]
          by_cases j2 : l < j ∧ j ≤ k
          · rw [if_pos j2]
            exact hs _ _ (by omega) (by omega)
          · rw [if_neg j2]
            exact hs _ _ hij (by omega)
theorem range_getD {i : Nat} (h : i < n) : (List.toArray (List.range n)).getD i 0 = i := by simp [Array.getD, h]
theorem permOf_range : PermOf n (List.toArray (List.range n)) := ⟨List.Perm.refl _⟩
/-- an ascent from the start that ends at k -/
theorem asc_g {k : Nat} (hk : k < n) (up : ∀ i, 0 < i → i < k → r (i - 1) ≤ r i) (down : r k < r (k - 1)) {P : Nat → Prop} (q : P k) : ∀ (f m : Nat), 0 < m → m ≤ k → k < m + f → Gives n (ltR r) (kas_asc (List.toArray (List.range n)) f m) P
  | 0, m, h0, hm, hf => by omega
  | f + 1, m, h0, hm, hf => by
    unfold kas_asc
    rw [range_getD (by omega), range_getD (by omega)]
    refine ⟨by omega, by omega, ?_⟩
    by_cases e : m = k
    · subst e
      rw [show ltR r m (m - 1) = true from decide_eq_true down]; dsimp only; rw [if_pos rfl]
      exact q
    · rw [show ltR r m (m - 1) = false from decide_eq_false (Int.not_lt.mpr (up m h0 (by omega)))]; dsimp only; rw [if_neg (by decide)]
      exact asc_g hk up down q f (m + 1) (by omega) (by omega) (by omega)
theorem sort_g {k : Nat} (hk : k < n) (k1 : 1 < k) (up : ∀ i, 0 < i → i < k → r (i - 1) ≤ r i) (srt : ∀ i j, i < j → j < k → r i ≤ r j) (first : r 0 < r (k - 1)) (down : r k < r (k - 1)) {P : Array Nat → Prop} (q : ∀ p', PermOf n p' → SrtTo r p' n → P p') :
    Gives n (ltR r) (kas_sort n) P := by
  unfold kas_sort
  refine Gives.bind ?_
  unfold kas_count
  refine Gives.bind (asc_g hk up down ?_ (n - 1) 1 (by omega) (by omega) (by omega))
  have e : (k == n) = false := beq_eq_false_iff_ne.mpr (by omega)
  rw [e, if_neg (by decide), if_pos (by omega), range_getD (by omega), range_getD (by omega)]
  refine ⟨by omega, by omega, ?_⟩
  rw [show ltR r 0 (k - 1) = true from decide_eq_true first]; dsimp only; rw [if_pos rfl]
  show Gives n (ltR r) (if k < n then kas_bin (n - max k 1) (List.toArray (List.range n)) (max k 1) else .ret _) P
  rw [if_pos hk, Nat.max_eq_left (by omega)]
  refine bin_g (n - k) _ k permOf_range (fun i j hij hj => ?_) (by omega) q
  rw [range_getD (by omega), range_getD (by omega)]
  exact srt i j hij hj
end
end Mine
end
section
open PySem PySem.W PySem.W.X PyProof.Rows PySem.Calls
set_option Elab.async false
set_option maxRecDepth 100000
set_option linter.unusedVariables false
set_option pp.maxSteps 500
namespace Mine
/-- a time's tuple -/
noncomputable def TimeQ (a b : Nat → Int) (q : Nat × Nat) (h : Heap) (v : Value) : Prop := ∃ p, v = .ref p ∧ ∃ t1 t2 t3, h.get? p = some (tupO #[.int (whenI a b q.1 q.2) t1, .int (q.1 : Int) t2, .int (q.2 : Int) t3])
/-- the times in order -/
structure TimesAt (g : Heap) (l : Addr) (a b : Nat → Int) (tl : List (Nat × Nat)) : Prop where
  inc : tl.Pairwise fun p q => rk a b p < rk a b q
  perm : tl.Perm allKN
  list : ∃ (vs : List Value) (n : Nat), g.get? l = some (listOf vs.toArray n) ∧ vs.length = tl.length ∧ ∀ (i : Nat) v q, vs[i]? = some v → tl[i]? = some q → TimeQ a b q g v
noncomputable def allOf (h : Heap) (L : Addr) : List (Addr × Obj) := (List.range h.objs.size).filterMap fun a => if a = L then none else (h.get? a).map fun o => (a, o)
theorem allOf_mem {h : Heap} {L a : Addr} {o : Obj} (e : h.get? a = some o) (ne : a ≠ L) : (a, o) ∈ allOf h L := by
  refine List.mem_filterMap.mpr ⟨a, List.mem_range.mpr (Heap.lt_size e), ?_⟩
  rw [if_neg ne, e]; rfl
theorem allOf_get {h : Heap} {L : Addr} {p : Addr × Obj} (m : p ∈ allOf h L) : h.get? p.1 = some p.2 ∧ p.1 ≠ L := by
  obtain ⟨a, _, e⟩ := List.mem_filterMap.mp m
  by_cases q : a = L
  · rw [if_pos q] at e; cases e
  · rw [if_neg q] at e
    cases z : h.get? a with
    | none => rw [z] at e; cases e
    | some o => rw [z] at e; cases e; exact ⟨z, q⟩
noncomputable abbrev noHeap : Heap := {}
theorem noHeap_get (a : Addr) : noHeap.get? a = none := Heap.get?_none_of_le (Nat.zero_le _)
theorem Wc.fr0 {g h : Heap} {env : Env} {m cm : Str → Option Value} {fs : List (Addr × Obj)} (c : Wc g env m cm fs h) : Fr noHeap env.locals h m ∧ News noHeap env.locals h (allOf h env.locals) :=
  ⟨⟨c.ns, (fun b o e => by rw [noHeap_get] at e; cases e), Nat.zero_le _⟩, fun p hp => ⟨(allOf_get hp).1, (allOf_get hp).2, noHeap_get _⟩⟩
/-- all but the names stands -/
theorem Wc.unfr {g h h' : Heap} {env : Env} {m cm : Str → Option Value} {fs : List (Addr × Obj)} (c : Wc g env m cm fs h) (F : Fr noHeap env.locals h' m) (N : ∀ p ∈ allOf h env.locals, h'.get? p.1 = some p.2) : Wc g env m cm fs h' := by
  have keep : ∀ b o, b ≠ env.locals → h.get? b = some o → h'.get? b = some o := fun b o ne e => N _ (allOf_mem e ne)
  refine ⟨F.ns, fun b o e => keep b o (fun q => by rw [q, c.gL] at e; cases e) (c.old b o e), c.gL, fun n a e => ⟨?_, (c.cell n a e).2⟩, c.inj, fun p hp => ⟨keep _ _ (c.fo p hp).2.2.1 (c.fo p hp).1, (c.fo p hp).2⟩, c.nd⟩
  obtain ⟨o, eo, ed⟩ := (c.cell n a e).1
  exact ⟨o, keep _ _ (c.cell n a e).2.1 eo, ed⟩
theorem tups_of {h : Heap} : ∀ {vs : List Value}, (∀ v ∈ vs, ∃ p x t r, v = .ref p ∧ h.get? p = some (tupO (.mk (.int x t :: r)))) → ∃ fs, KatTups h vs fs ∧ fs.length = vs.length ∧ ∀ f ∈ fs, ∃ x t, f = .int x t
  | [], _ => ⟨[], KatTups.nil, rfl, fun f hf => by cases hf⟩
  | v :: vs, hv => by
    obtain ⟨fs, k, l, i⟩ := tups_of (vs := vs) fun u hu => hv u (List.mem_cons_of_mem _ hu)
    obtain ⟨p, x, t, r, rfl, e⟩ := hv v (List.mem_cons_self ..)
    refine ⟨.int x t :: fs, KatTups.cons e rfl rfl rfl k, by simp [l], fun f hf => ?_⟩
    rcases List.mem_cons.mp hf with rfl | hf
    · exact ⟨x, t, rfl⟩
    · exact i f hf
section
variable {w : World} {A : Around} {E : Value → Shared → Prop} {s : Shared}
theorem lex_c {p1 p2 : Addr} {w1 k1 n1 w2 k2 n2 : Int} {t1 t2 t3 u1 u2 u3 : Tok} {Q : Bool → Shared → Prop}
    (h1 : s.heap.get? p1 = some (tupO #[.int w1 t1, .int k1 t2, .int n1 t3])) (h2 : s.heap.get? p2 = some (tupO #[.int w2 u1, .int k2 u2, .int n2 u3]))
    (h : ∀ b, (b = true ↔ (w1 < w2 ∨ (w1 = w2 ∧ (k1 < k2 ∨ (k1 = k2 ∧ n1 < n2))))) → Q b s) : wpAny (model PP w) A (keyLt' (tuples' true) (.ref p1) (.ref p2)) Q E s := by
  refine kat_lt h1 rfl h2 rfl ?_
  show KatLex PP w A true _ Q [(.int w1 t1, .int w2 u1), (.int k1 t2, .int k2 u2), (.int n1 t3, .int n2 u3)] 0 s
  refine kat_cons (wpAny_eqBool_int (kat_go (fun e => kat_yes ?_) (fun e => kat_no ?_)))
  · rw [beq_iff_eq] at e
    refine kat_cons (wpAny_eqBool_int (kat_go (fun e2 => kat_yes ?_) (fun e2 => kat_no ?_)))
    · rw [beq_iff_eq] at e2
      refine kat_cons (wpAny_eqBool_int (kat_go (fun e3 => kat_yes ?_) (fun e3 => kat_no ?_)))
      · rw [beq_iff_eq] at e3
        refine kat_nil (h _ ?_)
        simp; omega
      · show wpAny (model PP w) A (oneLt' false (.int n1 t3) (.int n2 u3)) Q _ s
        refine kat_one _ _ (PyProof.Rows.lt_int ?_)
        refine h _ ?_
        rw [decide_eq_true_eq]; omega
    · rw [beq_eq_false_iff_ne] at e2
      show wpAny (model PP w) A (oneLt' false (.int k1 t2) (.int k2 u2)) Q _ s
      refine kat_one _ _ (PyProof.Rows.lt_int ?_)
      refine h _ ?_
      rw [decide_eq_true_eq]; omega
  · rw [beq_eq_false_iff_ne] at e
    show wpAny (model PP w) A (oneLt' true (.int w1 t1) (.int w2 u1)) Q _ s
    refine oneLt_int (h _ ?_)
    rw [decide_eq_true_eq]; omega
end
/-- a place's order -/
noncomputable def rJ (a b : Nat → Int) (j : Nat) : Int := rk a b (j / 8, j % 8)
theorem rJ_eq (a b : Nat → Int) (j : Nat) : rJ a b j = whenI a b (j / 8) (j % 8) * 5 + ((j / 8 : Nat) : Int) := rfl
theorem rJ_lex {a b : Nat → Int} (S : Sp a b) {i j : Nat} (hi : i < 40) (hj : j < 40) : (whenI a b (i / 8) (i % 8) < whenI a b (j / 8) (j % 8) ∨ (whenI a b (i / 8) (i % 8) = whenI a b (j / 8) (j % 8) ∧ (((i / 8 : Nat) : Int) < ((j / 8 : Nat) : Int) ∨ (((i / 8 : Nat) : Int) = ((j / 8 : Nat) : Int) ∧ ((i % 8 : Nat) : Int) < ((j % 8 : Nat) : Int))))) ↔ rJ a b i < rJ a b j := by
  have e1 := rJ_eq a b i
  have e2 := rJ_eq a b j
  have hi' : i / 8 < 5 := by omega
  have hj' : j / 8 < 5 := by omega
  by_cases q : rJ a b i = rJ a b j
  · have := rk_inj S (p := (i / 8, i % 8)) (q := (j / 8, j % 8)) hi' hj' q
    simp only [Prod.mk.injEq] at this
    omega
  · omega
theorem rJ_inj {a b : Nat → Int} (S : Sp a b) {i j : Nat} (hi : i < 40) (hj : j < 40) (h : rJ a b i = rJ a b j) : i = j := by
  have := rk_inj S (p := (i / 8, i % 8)) (q := (j / 8, j % 8)) (by simp only; omega) (by simp only; omega) h
  simp only [Prod.mk.injEq] at this
  omega
theorem sort_times {a b : Nat → Int} (S : Sp a b) {P : Array Nat → Prop} (q : ∀ p', PermOf 40 p' → SrtTo (rJ a b) p' 40 → P p') : Gives 40 (ltR (rJ a b)) (kas_sort 40) P := by
  have le : ∀ i j, i < j → j < 8 → rJ a b i ≤ rJ a b j := by
    intro i j h1 h2
    have e1 : i / 8 = 0 := by omega
    have e2 : j / 8 = 0 := by omega
    have e3 : i % 8 = i := by omega
    have e4 : j % 8 = j := by omega
    unfold rJ
    rw [e1, e2, e3, e4]
    exact rk_le S 0 (by omega)
  have r7 : 1 < rJ a b 7 := by
    show 1 < rk a b (0, 7)
    have h1 := rk_lt S 0 (show 0 < 1 by omega)
    have h2 := rk_lt S 0 (show 1 < 2 by omega)
    have h3 := rk_lt S 0 (show 2 < 7 by omega)
    have h0 : rk a b (0, 0) = 0 := by simp [rk]
    omega
  have r8 : rJ a b 8 = 1 := by show rk a b (1, 0) = 1; simp [rk]
  have r0 : rJ a b 0 = 0 := by show rk a b (0, 0) = 0; simp [rk]
  exact sort_g (n := 40) (k := 8) (by decide) (by decide) (fun i h1 h2 => le _ _ (by omega) h2) le (by show rJ a b 0 < rJ a b 7; omega) (by show rJ a b 8 < rJ a b 7; omega) q
theorem pairs_perm : ((List.range 40).map fun j => (j / 8, j % 8)) = allKN := by decide
/-- sorted(times) -/
theorem sorted_c {w : World} {A : Around} {E : Value → Shared → Prop} {s : Shared} {g : Heap} {env : Env} {m cm : Str → Option Value} {fs : List (Addr × Obj)} {a b : Nat → Int} {D : Addr} {vs : List Value} {nn : Nat} {Q : Value → Shared → Prop}
    (c : Wc g env m cm ((D, listOf vs.toArray nn) :: fs) s.heap) (hk : ∀ n a, (n, a) ∈ env.cells → ∃ n', env.cells.lookup n' = some a) (S : Sp a b) (h40 : vs.length = 40) (tv : ∀ (i : Nat) v, vs[i]? = some v → TimeV a b i g v)
    (k : ∀ g' D' tl h', Keep g g' → TimesAt g' D' a b tl → Wc g' env m cm fs h' → Q (.ref D') { s with heap := h' }) :
    wpAny (model PP w) A (call (.builtin "sorted") [.ref D]) Q E s := by
  obtain ⟨F, N⟩ := c.fr0
  have il : s.heap.IsList D vs.toArray := PySem.IsL.isList (c.at 0 rfl)
  refine kat_sorted F N il (by omega) (by omega) ?_
  intro D' e1 h' F' N' above
  have gN : ∀ p ∈ allOf s.heap env.locals, h'.get? p.1 = some p.2 := fun p hp => (N' p (List.mem_cons_of_mem _ hp)).1
  have old : Keep g h' := fun b o e => gN _ (allOf_mem (c.old b o e) (fun q => by rw [q, c.gL] at e; cases e))
  have tv' : ∀ i, i < 40 → TimeV a b i h' (vs.getD i Value.none) := by
    intro i hi
    have e : vs[i]? = some (vs.getD i Value.none) := by simp [show i < vs.length by omega]
    obtain ⟨p, e1, t1, t2, t3, e2⟩ := tv i _ e
    exact ⟨p, e1, t1, t2, t3, old _ _ e2⟩
  obtain ⟨fs', kt, kl, ki⟩ := tups_of (h := h') (vs := vs) (fun v hv => by
    obtain ⟨i, hi⟩ := List.mem_iff_getElem?.mp hv
    obtain ⟨p, e1, t1, t2, t3, e2⟩ := tv i v hi
    exact ⟨p, _, _, _, e1, old _ _ e2⟩)
  refine kat_kind (s := { s with heap := h' }) (T := .type "int") kt (by omega) (fun v hv => by obtain ⟨x, t, rfl⟩ := ki v hv; exact Looks.of_pure rfl) rfl ?_
  rw [show (Value.type "int" != Value.type "tuple") = true from by decide, h40]
  refine Gives.wp (n := 40) (lt := ltR (rJ a b)) (I := fun s' => s' = { s with heap := h' }) (P := fun p => PermOf 40 p ∧ SrtTo (rJ a b) p 40) ?_ (sort_times S fun p h1 h2 => ⟨h1, h2⟩) rfl ?_
  · rintro i j C s' hi hj rfl hC
    unfold kas_ask
    obtain ⟨p1, e1, t1, t2, t3, z1⟩ := tv' i hi
    obtain ⟨p2, e2, u1, u2, u3, z2⟩ := tv' j hj
    rw [e1, e2]
    refine lex_c z1 z2 (fun x hx => ?_)
    have : x = ltR (rJ a b) i j := by
      have z := hx.trans (rJ_lex S hi hj)
      cases x with
      | true => exact (decide_eq_true (z.mp rfl)).symm
      | false => exact (decide_eq_false (fun q => Bool.false_ne_true (z.mpr q))).symm
    rw [this]
    exact hC _ rfl
  · rintro p s' ⟨pp, ps⟩ rfl
    have np : ∀ q ∈ allOf s.heap env.locals, q.1 ≠ D' := fun q hq => Nat.ne_of_lt (above q hq)
    refine KasFin.intro F' N' (UpdF.head np) ?_
    intro h2 c2 F2 N2
    have gN2 : ∀ p ∈ allOf s.heap env.locals, h2.get? p.1 = some p.2 := fun p hp => (N2 p (List.mem_cons_of_mem _ hp)).1
    have hD' : h2.get? D' = some (listOf (p.toList.map fun i => vs.getD i Value.none).toArray c2) := (N2 _ (List.mem_cons_self ..)).1
    have neL : D' ≠ env.locals := (N2 _ (List.mem_cons_self ..)).2.1
    have c3 := (c.unfr F2 gN2).sublist (List.sublist_cons_self _ _)
    obtain ⟨g4, kg, c4, up⟩ := c3.rebase hk
    have e4 : g4.get? D' = some (listOf (p.toList.map fun i => vs.getD i Value.none).toArray c2) := by
      refine up D' _ hD' neL (fun n e => ?_) (fun q hq e => ?_)
      · obtain ⟨o, eo, _⟩ := (c.cell n D' e).1
        exact np _ (allOf_mem eo neL) rfl
      · have := (c.fo q (List.mem_cons_of_mem _ hq)).1
        exact np _ (allOf_mem this (fun z => neL (e ▸ z))) e
    refine k g4 D' (p.toList.map fun j => (j / 8, j % 8)) h2 kg ⟨?_, ?_, _, c2, e4, by simp, ?_⟩ c4
    · rw [List.pairwise_map]
      refine List.pairwise_iff_getElem.mpr fun i j hi hj hij => ?_
      have hi' : i < p.size := by simpa using hi
      have hj' : j < p.size := by simpa using hj
      have z := ps i j hij (by rw [← pp.size]; exact hj')
      have gi : p.getD i 0 = p.toList[i] := by simp [Array.getD, hi']
      have gj : p.getD j 0 = p.toList[j] := by simp [Array.getD, hj']
      rw [gi, gj] at z
      have li : p.toList[i] < 40 := by rw [← gi]; exact pp.lt (by rw [← pp.size]; exact hi')
      have lj : p.toList[j] < 40 := by rw [← gj]; exact pp.lt (by rw [← pp.size]; exact hj')
      show rJ a b _ < rJ a b _
      rcases Int.lt_or_eq_of_le z with z | z
      · exact z
      · have e := rJ_inj S li lj z
        have nd : p.toList.Nodup := pp.perm.nodup_iff.mpr List.nodup_range
        have := (List.getElem_inj (h₀ := hi) (h₁ := hj) nd).mp e
        omega
    · have := pp.perm.map (fun j => (j / 8, j % 8))
      rw [pairs_perm] at this
      exact this
    · intro i v q hv hq
      rw [List.getElem?_map] at hv hq
      cases z : p.toList[i]? with
      | none => rw [z] at hv; cases hv
      | some j =>
        rw [z] at hv hq
        cases hv; cases hq
        have lj : j < 40 := List.mem_range.mp (pp.perm.mem_iff.mp (List.mem_of_getElem? z))
        have e : vs[j]? = some (vs.getD j Value.none) := by simp [show j < vs.length by omega]
        obtain ⟨pa, e1, t1, t2, t3, e2⟩ := tv j _ e
        exact ⟨pa, e1, t1, t2, t3, kg _ _ e2⟩
end Mine
end
section
open PySem PySem.W PySem.W.X PyProof.Rows PySem.Calls
set_option Elab.async false
set_option maxRecDepth 100000
set_option linter.unusedVariables false
set_option pp.maxSteps 500
namespace Mine
set_option maxHeartbeats 400000 in
theorem l4_c {w : World} {A : Around} {s : Shared} {g : Heap} {L : Addr} {m cm : Str → Option Value} {fs : List (Addr × Obj)} {ls : Addr} {a b : Nat → Int} {n₀ : Nat} {Q : Flow → Shared → Prop} {E : Value → Shared → Prop}
    (hA : Low A n₀) (B : Amb w g) (c : Wc g (lEnv w.params L) m cm fs s.heap) (sp : SpAt g ls a b) (S : Sp a b) (hcs : cm (Str.ofString "speeds") = some (.ref ls))
    (k : ∀ g' D tl h' t', Keep g g' → TimesAt g' D a b tl → Wc g' (lEnv w.params L) (fun y => if y = Str.ofString "times" then some (.ref D) else m y) cm fs h' → Q .next { s with heap := h', toks := t' }) :
    wpAny (model PP w) A (exec (lB 4) (lEnv w.params L)) Q E s := by
  obtain ⟨p1, p2, p3, p4, p5, p6, p7, p8, p9, p10, p11, p12, p13, p14, p15, p16, p17, p18, p19, p20, p21, p22, p23, p24, p25, p26, p27, p28, p29, p30, p31, p32, p33, p34, e, _⟩ := lB4
  rw [e]
  refine wpAny_Assign_Name ?_ (by kernel_rfl!)
  refine Call_ ?_
  refine nm_built B c.old (by kernel_rfl) (v := .builtin "sorted") (by kernel_rfl) ?_ (by decide) (le_kind _ _) (lk_g _ _ _ (by kernel_rfl!)) (le_glob _ _) (le_blt _ _)
  refine PyProof.Rows.callWith_builtin1 ?_
  refine args_cons ?_
  refine times_c hA B c sp S hcs ?_
  intro g1 D vs nn h1 t1 kg v40 tv c1
  refine args_nil ?_
  refine sorted_c c1 (le_cells_ok _ _) S v40 tv ?_
  intro g2 D2 tl h2 kg2 ta c2
  refine ws_l c2 ?_ (le_kind _ _) (by kernel_rfl!)
  intro h3 c3
  exact k g2 D2 tl h3 _ (fun b o e => kg2 _ _ (kg _ _ e)) ta c3
end Mine
end
section
open PySem PySem.W PySem.W.X PyProof.Rows PySem.Calls
set_option Elab.async false
set_option maxRecDepth 100000
set_option linter.unusedVariables false
set_option pp.maxSteps 500
namespace Mine
/-- the keys and values of a written dict of strs -/
inductive AllPr : List (Option Expr) → List Expr → List (Str × Str) → Prop
  | nil : AllPr [] [] []
  | cons {p1 p2 ks vs k v r} : AllPr ks vs r → AllPr (some (.Constant (.str k) 0 p1) :: ks) (.Constant (.str v) 0 p2 :: vs) ((k, v) :: r)
theorem AllPr.all : ∀ {ks vs r}, AllPr ks vs r → ks.all (·.isSome) = true
  | _, _, _, .nil => rfl
  | _, _, _, .cons h => by simp [h.all]
theorem AllPr.len : ∀ {ks vs r}, AllPr ks vs r → ks.length = vs.length ∧ ks.length = r.length
  | _, _, _, .nil => ⟨rfl, rfl⟩
  | _, _, _, .cons h => by simp [h.len.1, ← h.len.2]
/-- a dict of strs -/
noncomputable def SDict (w : World) (h : Heap) (d : Addr) (kvs : List (Str × Str)) : Prop := ∃ f, h.MapOf (PySem.strKind PP w) d f ∧ ∀ k, match kvs.lookup k with | some v => ∃ t, f k = some (.str v t) | none => f k = none
inductive PrVal : List (Value × Value) → List (Str × Str) → Prop
  | nil : PrVal [] []
  | cons {t u k v r vs} : PrVal vs r → PrVal ((.str k t, .str v u) :: vs) ((k, v) :: r)
theorem PrVal.keys : ∀ {vs r}, PrVal vs r → allStrKeys vs = true ∧ (strPairs vs).map (·.1) = r.map (·.1)
  | _, _, .nil => ⟨rfl, rfl⟩
  | _, _, .cons h => ⟨h.keys.1, by simp [strPairs, h.keys.2]⟩
theorem PrVal.look : ∀ {vs r}, PrVal vs r → ∀ k, match r.lookup k with | some v => ∃ t, valueAt (strPairs vs) k = some (.str v t) | none => valueAt (strPairs vs) k = none
  | _, _, .nil, k => rfl
  | _, _, .cons (t := t) (u := u) (k := k') (v := v) h, k => by
    by_cases e : k = k'
    · subst e
      simp [List.lookup, valueAt, strPairs]
    · have e2 : (k == k') = false := beq_eq_false_iff_ne.mpr e
      have e3 : ¬ k' = k := fun q => e q.symm
      have ih := h.look k
      simp only [List.lookup, e2, valueAt, strPairs, List.find?, e3, decide_false]
      exact ih
section
variable {w : World} {A : Around} {E : Value → Shared → Prop} {env : Env}
theorem prs_c : ∀ {ks vs r} {s : Shared} {pos : Pos} {Q : List (Value × Value) → Shared → Prop}, AllPr ks vs r → (∀ l t', PrVal l r → Q l { s with toks := t' }) → wpAny (model PP w) A (evalPairs (pairTrees ks vs env pos)) Q E s
  | _, _, _, s, pos, Q, .nil, h => pairTrees_nil_walk (h [] s.toks .nil)
  | _, _, _, s, pos, Q, .cons hr, h => by
    refine pairTrees_cons_walk ?_
    refine wpAny_Constant_str ?_
    refine wpAny_Constant_str ?_
    exact prs_c hr (fun l t' hl => h _ t' (.cons hl))
theorem sdict_c {ks : List (Option Expr)} {vs : List Expr} {r : List (Str × Str)} {s : Shared} {pos : Pos} {Q : Value → Shared → Prop} (hp : AllPr ks vs r) (h0 : ks ≠ []) (h15 : ks.length ≤ 15) (nd : (r.map (·.1)).Nodup)
    (h : ∀ d h' t', Keep s.heap h' → s.heap.get? d = none → SDict w h' d r → Q (.ref d) { s with heap := h', toks := t' }) : wpAny (model PP w) A (eval (.Dict ks vs pos) env) Q E s := by
  refine wpAny_Dict_walk (knd := PySem.strKind PP w) hp.all hp.len.1 h0 h15 ?_
  refine prs_c hp (fun l t' hl => ?_)
  have hk := hl.keys
  refine display_done_str hk.1 (by rw [hk.2]; exact nd) (Heap.DictOf.new s.heap) (fun h' hd hs => ?_)
  refine h _ h' _ (fun b o e => ?_) (Heap.get?_none_of_le (Nat.le_refl _)) ⟨_, hd.mapOf, hl.look⟩
  exact hs.extBut b o (Nat.ne_of_lt (Heap.lt_size e)) (Heap.get?_push_of_some _ e)
theorem SDict.keep {h h' : Heap} {d : Addr} {r : List (Str × Str)} (x : SDict w h d r) (k : Keep h h') (old : ∃ o, h.get? d = some o) : SDict w h' d r := by
  obtain ⟨f, ⟨o, es, ep, e, rest⟩, hf⟩ := x
  exact ⟨f, ⟨o, es, ep, k _ _ e, rest⟩, hf⟩
theorem sd_in {h : Heap} {gg : Array GenState} {dr : Drawn} {t : Nat} {os : OsState} {d : Addr} {r : List (Str × Str)} {x : Str} {u : Tok} {Q : Value → Shared → Prop} (D : SDict w h d r) (hd : (d == sysModules) = false) (q : Q (.bool (r.lookup x).isSome) ⟨h, gg, dr, t + 1, os⟩) :
    wpAny (model PP w) A (compareOp .In (.str x u) (.ref d)) Q E ⟨h, gg, dr, t, os⟩ := by
  obtain ⟨f, hm, hf⟩ := D
  refine wpAny_in_of (knd := PySem.strKind PP w) (k := x) (by simp [PySem.strKind, Value.isStrOf]) hd hm ?_
  have z := hf x
  cases e : r.lookup x with
  | none => rw [e] at z q; dsimp only at z; rw [z]; exact q
  | some v => rw [e] at z q; dsimp only at z; obtain ⟨t, z⟩ := z; rw [z]; exact q
theorem sd_get {h : Heap} {gg : Array GenState} {dr : Drawn} {t : Nat} {os : OsState} {d : Addr} {r : List (Str × Str)} {x v : Str} {u : Tok} {Q : Value → Shared → Prop} (D : SDict w h d r) (e : r.lookup x = some v) (q : ∀ t', Q (.str v t') ⟨h, gg, dr, t + 1, os⟩) :
    wpAny (model PP w) A (getItem (.ref d) (.str x u)) Q E ⟨h, gg, dr, t, os⟩ := by
  obtain ⟨f, hm, hf⟩ := D
  have z := hf x
  rw [e] at z
  obtain ⟨t', z⟩ := z
  exact wpAny_getItem_of (knd := PySem.strKind PP w) (k := x) (by simp [PySem.strKind, Value.isStrOf]) hm z (q t')
end
end Mine
end
section
open PySem PySem.W PySem.W.X PyProof.Rows PySem.Calls
set_option Elab.async false
set_option maxRecDepth 100000
set_option linter.unusedVariables false
set_option pp.maxSteps 500
namespace Mine
noncomputable def vB : List Stmt := stBody (PP.main.body.getD 18 (.Pass default))
noncomputable def vS (i : Nat) : Stmt := vB.getD i (.Pass default)
theorem vB_eq : vB = [vS 0, vS 1, vS 2, vS 3] := by kernel_rfl
noncomputable def plainP : List (Str × Str) := [sP "&" "&amp;", sP "<" "&lt;", sP ">" "&gt;", sP "\"" "&quot;", sP "\r" "&#13;", sP "\n" "&#10;", sP "\t" "&#09;"]
noncomputable def canonP : List (Str × Str) := [sP "\r" "&#xD;", sP "\n" "&#xA;", sP "\t" "&#x9;"]
noncomputable def handS (k : Nat) : Str := [Str.ofString "&<>", Str.ofString "&<>\"\r\n\t", Str.ofString "&>\"", Str.ofString "&<>\r", Str.ofString "&<\"\r\n\t"].getD k (Str.ofString "")
noncomputable abbrev csE (x : String) (p : Pos) : Expr := .Constant (.str (Str.ofString x)) 0 p
theorem vS0 : ∃ ks vs p1 p2 p3, vS 0 = .Assign [nmE "plain" p1] (.Dict ks vs p2) p3 ∧ AllPr ks vs plainP ∧ ks ≠ [] ∧ ks.length ≤ 15 := ⟨_, _, _, _, _, rfl, .cons (.cons (.cons (.cons (.cons (.cons (.cons .nil)))))), List.cons_ne_nil _ _, Nat.le_of_ble_eq_true rfl⟩
theorem vS1 : ∃ ks vs p1 p2 p3, vS 1 = .Assign [nmE "canonical" p1] (.Dict ks vs p2) p3 ∧ AllPr ks vs canonP ∧ ks ≠ [] ∧ ks.length ≤ 15 := ⟨_, _, _, _, _, rfl, .cons (.cons (.cons .nil)), List.cons_ne_nil _ _, Nat.le_of_ble_eq_true rfl⟩
theorem vS2 : ∃ p1 p2 p3 p4 p5 p6 p7 p8 p9 p10 p11 p12 p13, vS 2 = .If (.Compare (nmE "sign" p1) [.NotIn] [.Subscript (.List [csE "&<>" p2, csE "&<>\"\r\n\t" p3, csE "&>\"" p4, csE "&<>\r" p5, csE "&<\"\r\n\t" p6] p7) (nmE "hand" p8) p9] p10) [.Return (some (nmE "sign" p11)) p12] [] p13 :=
  ⟨_, _, _, _, _, _, _, _, _, _, _, _, _, rfl⟩
theorem vS3 : ∃ p1 p2 p3 p4 p5 p6 p7 p8 p9 p10 p11 p12 p13 p14 p15, vS 3 = .Return (some (.IfExp (.BoolOp .And [.Compare (nmE "hand" p1) [.Gt] [.Constant (.int 2) 0 p2] p3, .Compare (nmE "sign" p4) [.In] [nmE "canonical" p5] p6] p7)
    (.Subscript (nmE "canonical" p8) (nmE "sign" p9) p10) (.Subscript (nmE "plain" p11) (nmE "sign" p12) p13) p14)) p15 := ⟨_, _, _, _, _, _, _, _, _, _, _, _, _, _, _, rfl⟩
/-- what it gives -/
noncomputable def wrD (k : Nat) (x : Str) : Option Str := if Txt.contains (handS k) x = true then (if decide (2 < k) && (canonP.lookup x).isSome then canonP.lookup x else plainP.lookup x) else some x
theorem wrD_all : ((List.range 5).all fun k => sgL.all fun c => wrD k ⟨#[c]⟩ == some ⟨(wr k c).toArray⟩) = true := by kernel_rfl
theorem wrD_at {k c : Nat} (hk : k < 5) (hc : c ∈ sgL) : wrD k ⟨#[c]⟩ = some ⟨(wr k c).toArray⟩ := by
  have h := wrD_all
  rw [List.all_eq_true] at h
  have h := h k (List.mem_range.mpr hk)
  rw [List.all_eq_true] at h
  exact beq_iff_eq.mp (h c hc)
theorem nodup_plain : (plainP.map (·.1)).Nodup := by decide
theorem nodup_canon : (canonP.map (·.1)).Nodup := by decide
theorem SDict.sameBut {w : World} {h h' : Heap} {d b : Addr} {r : List (Str × Str)} (x : SDict w h d r) (hs : Heap.SameBut b h h') (ne : d ≠ b) : SDict w h' d r := let ⟨f, hm, hf⟩ := x; ⟨f, hm.sameBut hs ne, hf⟩
theorem SDict.keep' {w : World} {h h' : Heap} {d : Addr} {r : List (Str × Str)} (x : SDict w h d r) (k : Keep h h') : SDict w h' d r := by
  obtain ⟨f, ⟨o, es, ep, e, rest⟩, hf⟩ := x
  exact ⟨f, ⟨o, es, ep, k _ _ e, rest⟩, hf⟩
theorem SDict.there {w : World} {h : Heap} {d : Addr} {r : List (Str × Str)} (x : SDict w h d r) : ∃ o, h.get? d = some o := by
  obtain ⟨f, ⟨o, es, ep, e, rest⟩, hf⟩ := x
  exact ⟨o, e⟩
theorem sub_dict {w : World} {A : Around} {E : Value → Shared → Prop} {value slice : Expr} {h : Heap} {gg : Array GenState} {dr : Drawn} {t : Nat} {os : OsState} {d : Addr} {r : List (Str × Str)} {x v : Str} {u : Tok} {Q : Value → Shared → Prop} (D : SDict w h d r) (e : r.lookup x = some v)
    (hs : subscripted slice false (.ref d) (.str x u) = operate [.ref d, .str x u] (getItem (.ref d) (.str x u))) (hg : ∀ r, letTemporaryGo value (.ref d) r = pure ())
    (q : ∀ t', Q (.str v t') ⟨h, gg, dr, t + 1, os⟩) : wpAny (model PP w) A (subscriptTail value slice (.ref d) (.str x u)) Q E ⟨h, gg, dr, t, os⟩ := by
  have hT : Shared.TypeIs ⟨h, gg, dr, t, os⟩ (.ref d) "dict" := by obtain ⟨f, hm, _⟩ := D; exact Heap.MapOf.typeIs (s := ⟨h, gg, dr, t, os⟩) hm
  exact subscriptTail_ops (T := "dict") hT slot_dict_getitem.lookup (sd_get D e q) hs hg
set_option maxHeartbeats 1000000 in
theorem written_b {w : World} {A' : Around} {env : Env} {g h₀ : Heap} {gg : Array GenState} {dd : Drawn} {tt : Nat} {oo : OsState} {m : Str → Option Value} {k : Nat} {x y : Str} {u v : Tok} {Q : Flow → Shared → Prop}
    (ek : env.scope.kind = .function) (eh : env.kindOf (Str.ofString "hand") = some .local) (es : env.kindOf (Str.ofString "sign") = some .local) (ep : env.kindOf (Str.ofString "plain") = some .local) (ec : env.kindOf (Str.ofString "canonical") = some .local)
    (F : Fr g env.locals h₀ m) (hm : ∃ o, g.get? sysModules = some o) (mh : m (Str.ofString "hand") = some (.int (k : Int) u)) (ms : m (Str.ofString "sign") = some (.str x v)) (hk : k < 5) (hW : wrD k x = some y)
    (q : ∀ h' t' u', Keep g h' → Q (.ret (.str y u')) ⟨h', gg, dd, t', oo⟩) {Bd : List Stmt} (hBd : Bd = vB) : wpAny (model PP w) A' (execs Bd env) Q (fun _ _ => False) ⟨h₀, gg, dd, tt, oo⟩ := by
  subst hBd
  have hmod : ∃ o, h₀.get? sysModules = some o := let ⟨o, e⟩ := hm; ⟨o, F.keep _ _ e⟩
  rw [vB_eq]
  refine wpAny_execs_cons ?_
  obtain ⟨ks0, vs0, p1, p2, p3, e, ap0, ne0, le0⟩ := vS0
  rw [e]
  refine wpAny_Assign_Name ?_
  refine sdict_c ap0 ne0 le0 nodup_plain (fun d1 h1 t1 k1 n1 D1 => ?_)
  have F1 := F.keptAll k1
  have hL1 : ∃ o, h₀.get? env.locals = some o := by obtain ⟨o, es, ep, e, _⟩ := F.ns; exact ⟨o, e⟩
  have ne1 : d1 ≠ env.locals := fun z => by obtain ⟨o, e⟩ := hL1; rw [z] at n1; rw [n1] at e; cases e
  refine wpAny_storeName_local ep F1.ns (fun h2 hn2 hs2 => ?_) (by rw [ek]; rfl)
  have F2 := F1.set hn2 hs2
  have D2 := D1.sameBut hs2 ne1
  dsimp only
  refine wpAny_execs_cons ?_
  obtain ⟨ks1, vs1, p1, p2, p3, e, ap1, nz1, le1⟩ := vS1
  rw [e]
  refine wpAny_Assign_Name ?_
  refine sdict_c ap1 nz1 le1 nodup_canon (fun d2 h3 t3 k3 n3 C3 => ?_)
  have F3 := F2.keptAll k3
  have D3 := D2.keep' k3
  have ne2 : d2 ≠ env.locals := fun z => by
    obtain ⟨o, es, ep, e, _⟩ := F2.ns
    rw [z] at n3; rw [n3] at e; cases e
  refine wpAny_storeName_local ec F3.ns (fun h4 hn4 hs4 => ?_) (by rw [ek]; rfl)
  have F4 := F3.set hn4 hs4
  have D4 := D3.sameBut hs4 ne1
  have C4 := C3.sameBut hs4 ne2
  have hmod2 : (d2 == sysModules) = false := by
    refine beq_eq_false_iff_ne.mpr fun z => ?_
    obtain ⟨o, e⟩ := hmod
    have e1 := k1 _ _ e
    by_cases zL : sysModules = env.locals
    · exact ne2 (z.trans zL)
    · have e2 := hs2.extBut _ _ zL e1
      rw [← z, n3] at e2; cases e2
  dsimp only
  refine wpAny_execs_cons ?_
  obtain ⟨p1, p2, p3, p4, p5, p6, p7, p8, p9, p10, p11, p12, p13, e⟩ := vS2
  rw [e]
  have hsn : (fun y => if y = Str.ofString "canonical" then some (Value.ref d2) else if y = Str.ofString "plain" then some (Value.ref d1) else m y) (Str.ofString "sign") = some (.str x v) := ms
  have hhn : (fun y => if y = Str.ofString "canonical" then some (Value.ref d2) else if y = Str.ofString "plain" then some (Value.ref d1) else m y) (Str.ofString "hand") = some (.int (k : Int) u) := mh
  have hpn : (fun y => if y = Str.ofString "canonical" then some (Value.ref d2) else if y = Str.ofString "plain" then some (Value.ref d1) else m y) (Str.ofString "plain") = some (.ref d1) := rfl
  have hcn : (fun y => if y = Str.ofString "canonical" then some (Value.ref d2) else if y = Str.ofString "plain" then some (Value.ref d1) else m y) (Str.ofString "canonical") = some (.ref d2) := if_pos rfl
  generalize (fun y => if y = Str.ofString "canonical" then some (Value.ref d2) else if y = Str.ofString "plain" then some (Value.ref d1) else m y) = mm at F4 hsn hhn hpn hcn
  refine wpAny_If ?_
  refine wpAny_isTrue_Compare1 ?_
  refine fr_name (g := g) F4 hsn ?_ ek es
  refine Subscript_ ?_
  refine List_ ?_
  refine args_cons ?_
  refine wpAny_Constant_str ?_
  refine args_cons ?_
  refine wpAny_Constant_str ?_
  refine args_cons ?_
  refine wpAny_Constant_str ?_
  refine args_cons ?_
  refine wpAny_Constant_str ?_
  refine args_cons ?_
  refine wpAny_Constant_str ?_
  refine args_nil ?_
  refine wpAny_newList ?_
  dsimp only
  generalize hvl : ([Value.str (Str.ofString "&<>") _, Value.str (Str.ofString "&<>\"\r\n\t") _, Value.str (Str.ofString "&>\"") _, Value.str (Str.ofString "&<>\r") _, Value.str (Str.ofString "&<\"\r\n\t") _] : List Value) = vl
  have hvk : ∃ t, vl[k]? = some (.str (handS k) t) := by
    subst hvl
    rcases (by omega : k = 0 ∨ k = 1 ∨ k = 2 ∨ k = 3 ∨ k = 4) with rfl | rfl | rfl | rfl | rfl <;> exact ⟨_, rfl⟩
  have hvn : vl.length = 5 := by subst hvl; rfl
  obtain ⟨tk, hvk⟩ := hvk
  have hp5 : (h4.push { cls := .type "list", data := .seq vl.toArray }).get? h4.objs.size = some (listOf vl.toArray 0) := Heap.get?_push_size _ rfl
  have k5 : Keep h4 (h4.push { cls := .type "list", data := .seq vl.toArray }) := fun b o e => Heap.get?_push_of_some _ e
  generalize (h4.push { cls := .type "list", data := .seq vl.toArray }) = h5 at hp5 k5 ⊢
  generalize h4.objs.size = lp at hp5 ⊢
  have F5 := F4.keptAll k5
  have D5 := D4.keep' k5
  have C5 := C4.keep' k5
  refine fr_name (g := g) F5 hhn ?_ ek eh
  refine kba_turn (value' := .Name (Str.ofString "_") ⟨0, 0, 0, 0⟩) (fun _ => rfl) ?_
  refine item_list (PySem.IsL.isList hp5) (Int.natCast_nonneg _) (by omega) (x := .str (handS k) tk) (by simp [hvk]) ?_ (by with_unfolding_all rfl) (fun _ => rfl)
  refine SB.notContains ?_
  refine wpAny_truthy_bool ?_
  unfold wrD at hW
  by_cases hco : Txt.contains (handS k) x = true
  · rw [if_pos hco] at hW
    rw [hco, if_neg (by decide)]
    refine wpAny_execs_nil ?_
    dsimp only
    refine wpAny_execs_cons ?_
    obtain ⟨p1, p2, p3, p4, p5, p6, p7, p8, p9, p10, p11, p12, p13, p14, p15, e⟩ := vS3
    rw [e]
    refine wpAny_Return_some ?_
    refine IfExp_ ?_
    refine isTrue_and ?_
    refine wpAny_isTrue_Compare1 ?_
    refine fr_name (g := g) F5 hhn ?_ ek eh
    refine wpAny_Constant_int ?_
    refine PyProof.Rows.gt_int ?_
    refine wpAny_truthy_bool ?_
    have fin : ∀ {t6 : Nat}, (canonP.lookup x).isSome = false ∨ ¬ 2 < k → wpAny (model PP w) A' (eval (.Subscript (nmE "plain" p11) (nmE "sign" p12) p13) env) (fun f s' => Q (.ret f) s') (fun _ _ => False) ⟨h5, gg, dd, t6, oo⟩ := by
      intro t6 hh
      have hl : plainP.lookup x = some y := by
        rw [if_neg] at hW
        · exact hW
        · rcases hh with z | z
          · simp [z]
          · simp [z]
      refine Subscript_ ?_
      refine fr_name (g := g) F5 hpn ?_ ek ep
      refine fr_name (g := g) F5 hsn ?_ ek es
      refine sub_dict D5 hl (by with_unfolding_all rfl) (fun _ => rfl) (fun t' => ?_)
      exact q h5 _ t' F5.keep
    by_cases h2 : 2 < k
    · rw [decide_eq_true (show (2 : Int) < (k : Int) by omega), if_pos rfl]
      refine isTrue_and ?_
      refine wpAny_isTrue_Compare1 ?_
      refine fr_name (g := g) F5 hsn ?_ ek es
      refine fr_name (g := g) F5 hcn ?_ ek ec
      refine sd_in C5 hmod2 ?_
      refine wpAny_truthy_bool ?_
      by_cases hs : (canonP.lookup x).isSome = true
      · rw [hs, if_pos rfl]
        refine isTrue_and_nil ?_
        rw [if_pos rfl]
        have hl : canonP.lookup x = some y := by
          rw [if_pos (by simp [h2, hs])] at hW
          exact hW
        refine Subscript_ ?_
        refine fr_name (g := g) F5 hcn ?_ ek ec
        refine fr_name (g := g) F5 hsn ?_ ek es
        refine sub_dict C5 hl (by with_unfolding_all rfl) (fun _ => rfl) (fun t' => ?_)
        exact q h5 _ t' F5.keep
      · have hs' : (canonP.lookup x).isSome = false := Bool.eq_false_iff.mpr hs
        rw [hs', if_neg (by decide), if_neg (by decide)]
        exact fin (Or.inl hs')
    · rw [decide_eq_false (show ¬ (2 : Int) < (k : Int) by omega), if_neg (by decide), if_neg (by decide)]
      exact fin (Or.inr h2)
  · rw [if_neg hco] at hW
    have hco' : Txt.contains (handS k) x = false := Bool.eq_false_iff.mpr hco
    have hxy : x = y := Option.some.inj hW
    rw [hco', if_pos (by rfl)]
    refine wpAny_execs_cons ?_
    refine wpAny_Return_some ?_
    refine fr_name (g := g) F5 hsn ?_ ek es
    dsimp only
    rw [hxy]
    exact q h5 _ v F5.keep
theorem written_x {w : World} {A : Around} {n : Nat} {s : Shared} {k : Nat} {x y : Str} {u v : Tok} {Q : Value → Shared → Prop} (hA : Low A (n + 1)) (X : (Kc w.params).In s.heap) (hk : k < 5) (hW : wrD k x = some y)
    (q : ∀ h' t' u', Keep s.heap h' → Q (.str y u') { s with heap := h', toks := t' }) : wpAny (model PP w) A (call (.ref 114) [.int (k : Int) u, .str x v]) Q (fun _ _ => False) s := by
  obtain ⟨Bd, hBd⟩ : ∃ Bd, Bd = vB := ⟨_, rfl⟩
  refine call_static (n := n) (a := 114) (body := Bd) (binds := [(Str.ofString "hand", .int (k : Int) u), (Str.ofString "sign", .str x v)]) hA X rfl rfl rfl (by rw [hBd]; kernel_rfl) (.of_eq rfl) (by decide) (locs rfl) ?_
  intro A' h₀ L hA' F
  obtain ⟨h0, gg, dd, tt, oo⟩ := s
  exact written_b rfl rfl rfl rfl rfl F ⟨_, X sysModules _ rfl⟩ rfl rfl hk hW q hBd
theorem written_c {w : World} {A : Around} {n : Nat} {s : Shared} {k c : Nat} {u v : Tok} {Q : Value → Shared → Prop} (hA : Low A (n + 1)) (X : (Kc w.params).In s.heap) (hk : k < 5) (hc : c ∈ sgL)
    (q : ∀ h' t' u', Keep s.heap h' → Q (.str ⟨(wr k c).toArray⟩ u') { s with heap := h', toks := t' }) : wpAny (model PP w) A (call (.ref 114) [.int (k : Int) u, .str ⟨#[c]⟩ v]) Q (fun _ _ => False) s :=
  written_x hA X hk (wrD_at hk hc) q
end Mine
end
section
open PySem PySem.W PySem.W.X PyProof.Rows PySem.Calls
set_option Elab.async false
set_option maxRecDepth 100000
set_option linter.unusedVariables false
set_option pp.maxSteps 500
namespace Mine
noncomputable def dScp : Scope := lcScp (lB 5)
theorem lB5 : ∃ p1 p2 p3 p4 p5 p6 p7 p8 p9 p10 p11 p12 p13 p14 p15 p16 p17 p18, lB 5 = .Assign [nmE "due" p1] (.ListComp (.List [nmE "k" p2, .Call (nmE "_law_written" p3) [nmE "k" p4, .Subscript (.Subscript (nmE "texts" p5) (nmE "k" p6) p7) (nmE "n" p8) p9] [] p10] p11)
    [⟨.Tuple [nmE "when" p12, nmE "k" p13, nmE "n" p14] 0 p15, nmE "times" p16, [], 0⟩] dScp p17) p18 := ⟨_, _, _, _, _, _, _, _, _, _, _, _, _, _, _, _, _, _, rfl⟩
theorem dScp_names : dScp.names = [(Str.ofString ".0", .local), (Str.ofString "when", .local), (Str.ofString "k", .local), (Str.ofString "n", .local), (Str.ofString "_law_written", .globalImplicit), (Str.ofString "texts", .free)] := by kernel_rfl
theorem dScp_kind : dScp.kind = .function := by kernel_rfl
theorem dScp_cell : ∀ y ∈ dScp.names, y.2 ≠ .cell := by
  rw [dScp_names]; intro y hy
  simp only [List.mem_cons, List.not_mem_nil, or_false] at hy
  rcases hy with rfl | rfl | rfl | rfl | rfl | rfl <;> simp
theorem dScp_look : ∀ y ∈ dScp.names, y.2 = .local → dScp.names.lookup y.1 = some .local := by
  rw [dScp_names]; intro y hy
  simp only [List.mem_cons, List.not_mem_nil, or_false] at hy
  rcases hy with rfl | rfl | rfl | rfl | rfl | rfl
  · intro _; kernel_rfl!
  · intro _; kernel_rfl!
  · intro _; kernel_rfl!
  · intro _; kernel_rfl!
  · intro h; cases h
  · intro h; cases h
noncomputable abbrev dCl (L : Addr) : List (Str × Addr) := [(Str.ofString "texts", L + 1)]
theorem dClos (P : Params) (L : Addr) : closureFor dScp (lEnv P L) = pure (dCl L) := by kernel_rfl
noncomputable def dEnv (P : Params) (L C : Addr) : Env := compEnvC dScp (dCl L) C (lEnv P L)
theorem de_kind (P : Params) (L C : Addr) : (dEnv P L C).scope.kind = .function := by kernel_rfl
theorem de_w (P : Params) (L C : Addr) : (dEnv P L C).kindOf (Str.ofString "when") = some .local := by kernel_rfl
theorem de_k (P : Params) (L C : Addr) : (dEnv P L C).kindOf (Str.ofString "k") = some .local := by kernel_rfl
theorem de_n (P : Params) (L C : Addr) : (dEnv P L C).kindOf (Str.ofString "n") = some .local := by kernel_rfl
theorem de_g (P : Params) (L C : Addr) : (dEnv P L C).kindOf (Str.ofString "_law_written") = some .globalImplicit := by kernel_rfl
theorem de_t (P : Params) (L C : Addr) : (dEnv P L C).kindOf (Str.ofString "texts") = some .cell := by kernel_rfl
theorem de_ct (P : Params) (L C : Addr) : (dEnv P L C).cells.lookup (Str.ofString "texts") = some (L + 1) := by kernel_rfl
theorem de_glob (P : Params) (L C : Addr) : (dEnv P L C).globals = mainGlobals := by kernel_rfl
theorem ad114 (P : Params) : nsIn (Kc P) mainGlobals (Str.ofString "_law_written") = some (some (.ref 114)) := by kernel_rfl
theorem rot_item : ((List.range 8).all fun r => (List.range 8).all fun n => Txt.item (rotS r) (n : Int) == ⟨#[sg r n]⟩) = true := by kernel_rfl
theorem rot_item' {r n : Nat} (hr : r < 8) (hn : n < 8) : Txt.item (rotS r) (n : Int) = ⟨#[sg r n]⟩ := by
  have h := rot_item
  rw [List.all_eq_true] at h
  have h := h r (List.mem_range.mpr hr)
  rw [List.all_eq_true] at h
  exact beq_iff_eq.mp (h n (List.mem_range.mpr hn))
theorem rot_len (r : Nat) : (rotS r).length = 8 := by simp [rotS, Str.length]
theorem sg_mem (r n : Nat) : sg r n ∈ sgL := by
  unfold sg
  have h : (r + n) % 8 < 8 := Nat.mod_lt _ (by decide)
  generalize (r + n) % 8 = j at h
  have all : ∀ j, j < 8 → sgL.getD j 0 ∈ sgL := by decide
  exact all j h
theorem tl_lt {tl : List (Nat × Nat)} (h : tl.Perm allKN) {i : Nat} {q : Nat × Nat} (e : tl[i]? = some q) : q.1 < 5 ∧ q.2 < 8 := (mem_allKN q).mp (h.mem_iff.mp (List.mem_of_getElem? e))
theorem tl_len {tl : List (Nat × Nat)} (h : tl.Perm allKN) : tl.length = 40 := by rw [h.length_eq]; rfl
/-- a list of told pieces -/
noncomputable def DueAt (g : Heap) (l : Addr) (r : Nat → Nat) (tl : List (Nat × Nat)) : Prop := ∃ (ts : List Addr) (n : Nat), g.get? l = some (listOf (ts.map Value.ref).toArray n) ∧ ts.length = tl.length ∧ ∀ (i : Nat) q p, ts[i]? = some q → tl[i]? = some p → ToldAt g q p.1 (pc p.1 (r p.1) p.2)
theorem lB5_sw (P : Params) (L : Addr) (t v p) (e : lB 5 = .Assign [t] v p) : swapsWith v (some t) p.line (lEnv P L) = pure true := by
  have h : swapsWith (sgV (lB 5)) (sgT (lB 5)).head? (pA (lB 5)).line (lEnv P L) = pure true := by kernel_rfl!
  rw [e] at h
  exact h
set_option maxHeartbeats 1000000 in
theorem l5_c {w : World} {A : Around} {s : Shared} {g : Heap} {L : Addr} {m cm : Str → Option Value} {fs : List (Addr × Obj)} {lt lti : Addr} {r : Nat → Nat} {a b : Nat → Int} {tl : List (Nat × Nat)} {n₀ : Nat} {Q : Flow → Shared → Prop} {E : Value → Shared → Prop}
    (hA : Low A (n₀ + 1)) (B : Amb w g) (c : Wc g (lEnv w.params L) m cm fs s.heap) (hct : cm (Str.ofString "texts") = some (.ref lt)) (T : WrAt g lt (fun i => rotS (r i))) (hr : ∀ k, r k < 8)
    (hmt : m (Str.ofString "times") = some (.ref lti)) (TA : TimesAt g lti a b tl)
    (k : ∀ g' D h' t', Keep g g' → DueAt g' D r tl → Wc g' (lEnv w.params L) (fun y => if y = Str.ofString "due" then some (.ref D) else m y) cm fs h' → Q .next { s with heap := h', toks := t' }) :
    wpAny (model PP w) A (exec (lB 5) (lEnv w.params L)) Q E s := by
  obtain ⟨p1, p2, p3, p4, p5, p6, p7, p8, p9, p10, p11, p12, p13, p14, p15, p16, p17, p18, e⟩ := lB5
  obtain ⟨inc, perm, vs, nv, ev, vl, vq⟩ := TA
  have l40 := tl_len perm
  rw [e]
  refine lc_assign (lB5_sw _ _ _ _ _ e) (le_kind _ _) (lk_l _ _ _ (by kernel_rfl!)) (P := fun i h v => ∃ p, v = .ref p ∧ ∀ q, tl[i]? = some q → ToldAt h p q.1 (pc q.1 (r q.1) q.2)) hA c (le_cells_ok _ _) (dClos _ _) dScp_cell dScp_kind dScp_look (PySem.IsL.isList ev) (by simp; omega) (fun _ => rfl)
    (fun Q' hq => wn_l c hmt hq (le_kind _ _) (by kernel_rfl!)) (fun i h h' v k ⟨p, e1, e2⟩ => ⟨p, e1, fun q hq => (e2 q hq).keep k⟩) ?_ ?_
  · intro i x g' C rest mC s' hx kg cc
    have hx' : vs[i]? = some x := by simpa using hx
    have il : i < tl.length := by
      rcases Nat.lt_or_ge i vs.length with z | z
      · omega
      · rw [List.getElem?_eq_none z] at hx'; cases hx'
    obtain ⟨q, hq⟩ : ∃ q, tl[i]? = some q := ⟨_, List.getElem?_eq_getElem il⟩
    obtain ⟨p, rfl, t1, t2, t3, ep⟩ := vq i x q hx' hq
    obtain ⟨q1, q2⟩ := tl_lt perm hq
    obtain ⟨kk, nn⟩ := q
    dsimp only at q1 q2 ep
    obtain ⟨hh, gg, dd, tt, oo⟩ := s'
    dsimp only at cc ⊢
    have ht : IsTup hh p #[.int (whenI a b kk nn) t1, .int (kk : Int) t2, .int (nn : Int) t3] := ⟨_, cc.old _ _ (kg _ _ ep), rfl, _, rfl⟩
    show wpAny _ _ (assign (.Tuple [nmE "when" p12, nmE "k" p13, nmE "n" p14] 0 p15) (dEnv w.params L C) _) _ _ _
    refine assign_Tuple_tuple hA.hd ht (by kernel_rfl!) (by kernel_rfl!) (fun h6 x6 => ?_)
    have k6 : Keep hh h6 := fun b o e => x6 b o (Nat.ne_of_lt (Heap.lt_size e)) e
    have c6 := cc.keep k6
    show wpAny _ _ (assignInOrder [assign (nmE "when" p12) (dEnv w.params L C), assign (nmE "k" p13) (dEnv w.params L C), assign (nmE "n" p14) (dEnv w.params L C)] [Value.int (whenI a b kk nn) t1, Value.int (kk : Int) t2, Value.int (nn : Int) t3]) _ _ _
    refine wpAny_bind (wpAny_holding (assign_Name ?_))
    refine wpAny_storeName_local (de_w _ _ _) c6.ns (fun h7 hn7 x7 => ?_) (by rw [de_kind]; rfl)
    have c7 := c6.store hn7 x7
    refine wpAny_bind (wpAny_holding (assign_Name ?_))
    refine wpAny_storeName_local (de_k _ _ _) c7.ns (fun h8 hn8 x8 => ?_) (by rw [de_kind]; rfl)
    have c8 := c7.store hn8 x8
    refine wpAny_bind (wpAny_holding (assign_Name ?_))
    refine wpAny_storeName_local (de_n _ _ _) c8.ns (fun h9 hn9 x9 => ?_) (by rw [de_kind]; rfl)
    have c9 := c8.store hn9 x9
    refine wpAny_pure ?_
    dsimp only
    have hk9 : (fun y => if y = Str.ofString "n" then some (Value.int (nn : Int) t3) else if y = Str.ofString "k" then some (Value.int (kk : Int) t2) else if y = Str.ofString "when" then some (Value.int (whenI a b kk nn) t1) else mC y) (Str.ofString "k") = some (.int (kk : Int) t2) := rfl
    have hn9' : (fun y => if y = Str.ofString "n" then some (Value.int (nn : Int) t3) else if y = Str.ofString "k" then some (Value.int (kk : Int) t2) else if y = Str.ofString "when" then some (Value.int (whenI a b kk nn) t1) else mC y) (Str.ofString "n") = some (.int (nn : Int) t3) := if_pos rfl
    generalize (fun y => if y = Str.ofString "n" then some (Value.int (nn : Int) t3) else if y = Str.ofString "k" then some (Value.int (kk : Int) t2) else if y = Str.ofString "when" then some (Value.int (whenI a b kk nn) t1) else mC y) = m9 at c9 hk9 hn9'
    have N : ∀ {h7 : Heap} {x : String} {v : Value} {p : Pos} {t7 : Nat} {Q' : Value → Shared → Prop}, Cp g' (lEnv w.params L) m cm C rest m9 h7 → (dEnv w.params L C).kindOf (Str.ofString x) = some .local → (Str.ofString x == ("__debug__" : Str)) = false → m9 (Str.ofString x) = some v → Q' v ⟨h7, gg, dd, t7, oo⟩ → wpAny (model PP w) A (eval (nmE x p) (dEnv w.params L C)) Q' (fun _ _ => False) ⟨h7, gg, dd, t7, oo⟩ :=
      fun cc kx hb hv hq => wpAny_Name (wpAny_loadName_local (de_kind _ _ _) kx cc.ns hv hq) hb
    obtain ⟨tvs, tn, etv, tv5, ftv⟩ := T.keep kg
    obtain ⟨tk, etk⟩ := ftv kk q1
    show wpAny _ _ (eval _ (dEnv w.params L C)) _ _ _
    refine List_ ?_
    refine args_cons ?_
    refine N c9 (de_k _ _ _) (by decide) hk9 ?_
    refine args_cons ?_
    refine Call_ ?_
    refine nm_glob (B.keep kg) c9.old (v := .ref 114) (ad114 _) ?_ (de_kind _ _ _) (de_g _ _ _) (de_glob _ _ _)
    refine cw_static (f := 114) (B.keep kg) rfl rfl ?_
    refine args_cons ?_
    refine N c9 (de_k _ _ _) (by decide) hk9 ?_
    refine args_cons ?_
    refine Subscript_ ?_
    refine Subscript_ ?_
    refine wpAny_Name (wpAny_loadName_cell (de_kind _ _ _) (de_t _ _ _) (de_ct _ _ _) (hct ▸ c9.cell (lk_texts _ _)) ?_) (by decide)
    refine N c9 (de_k _ _ _) (by decide) hk9 ?_
    refine item_list (PySem.IsL.isList (c9.old _ _ etv)) (Int.natCast_nonneg _) (by omega) (x := .str (rotS (r kk)) tk) (by simp [etk]) ?_ (by with_unfolding_all rfl) (fun _ => rfl)
    refine N c9 (de_n _ _ _) (by decide) hn9' ?_
    have rl := rot_len (r kk)
    refine item_str (by unfold fitsSsize; simp; omega) (by omega) (by omega) (fun t10 => ?_) (by with_unfolding_all rfl) (fun _ => rfl)
    rw [rot_item' (hr kk) q2]
    refine args_nil ⟨c9.old, ?_⟩
    refine written_c hA (Frag.In.keeps (B.keep kg).X c9.old) q1 (sg_mem _ _) (fun h11 t11 u11 k11 => ?_)
    have c11 := c9.keep k11
    refine args_nil ?_
    refine wpAny_newList ?_
    dsimp only
    have hp : (h11.push { cls := .type "list", data := .seq [Value.int (kk : Int) t2, Value.str ⟨(wr kk (sg (r kk) nn)).toArray⟩ u11].toArray }).get? h11.objs.size = some (listOf #[.int (kk : Int) t2, .str ⟨(wr kk (sg (r kk) nn)).toArray⟩ u11] 0) := Heap.get?_push_size _ rfl
    have k12 : Keep h11 (h11.push { cls := .type "list", data := .seq [Value.int (kk : Int) t2, Value.str ⟨(wr kk (sg (r kk) nn)).toArray⟩ u11].toArray }) := fun b o e => Heap.get?_push_of_some _ e
    have np : h11.get? h11.objs.size = none := Heap.get?_none_of_le (Nat.le_refl _)
    generalize (h11.push { cls := .type "list", data := .seq [Value.int (kk : Int) t2, Value.str ⟨(wr kk (sg (r kk) nn)).toArray⟩ u11].toArray }) = h12 at hp k12 ⊢
    generalize h11.objs.size = pq at hp np ⊢
    obtain ⟨g13, kg13, c13, e13⟩ := c11.alloc (le_cells_ok _ _) k12 np hp
    refine ⟨g13, _, h12, _, rfl, kg13, c13, pq, rfl, fun q hq' => ?_⟩
    rw [hq] at hq'
    cases hq'
    exact ⟨_, _, _, e13⟩
  · intro g' D ws nn h' t' kg wl hw c'
    obtain ⟨g8, kg8, c8, e8⟩ := c'.drop (le_cells_ok _ _)
    obtain ⟨ps, rfl, hps⟩ := refs_of hw
    exact k g8 D h' _ (fun b o e => kg8 _ _ (kg _ _ e)) ⟨ps, nn, e8, by simpa [vl] using wl, fun i p q hp hq => (hps i p hp q hq).keep kg8⟩ c8
end Mine
end
section
open PySem PySem.W PySem.W.X PyProof.Rows PySem.Calls
set_option Elab.async false
set_option maxRecDepth 100000
set_option linter.unusedVariables false
set_option pp.maxSteps 500
namespace Mine
theorem heapreplace_addr (P : Params) : nsIn (Kc P) mainGlobals (Str.ofString "heapreplace") = some (some (.ref 28)) := by kernel_rfl
theorem heappop_addr (P : Params) : nsIn (Kc P) mainGlobals (Str.ofString "heappop") = some (some (.ref 21)) := by kernel_rfl
set_option maxHeartbeats 400000 in
theorem i1_c {w : World} {A : Around} {s : Shared} {g : Heap} {L : Addr} {m cm : Str → Option Value} {fs : List (Addr × Obj)} {lh lk aK x0 y : Addr} {xs ks : List Addr} {n1 n2 i : Nat} {ti : Tok} {Q : Flow → Shared → Prop} {E : Value → Shared → Prop}
    (hA : Low A 20) (B : Amb w g) (kb : KB g aK) (c : Wc g (wEnv w.params L) m cm ((lh, listOf ((x0 :: xs).map Value.ref).toArray n1) :: (lk, listOf (ks.map Value.ref).toArray n2) :: fs) s.heap)
    (hch : cm (Str.ofString "heap") = some (.ref lh)) (hck : cm (Str.ofString "keys") = some (.ref lk)) (hmh : m (Str.ofString "hand") = some (.int (i : Int) ti)) (h5 : ks.length = 5) (i5 : i < 5) (hy : ks[i]? = some y)
    (hS : ∀ z ∈ xs, KeyOk g aK z) (hSy : KeyOk g aK y) (hz : xs.length < 100) (hp : Hp (rankOf g aK) (x0 :: xs))
    (k : ∀ (h' : Heap) (t' n' : Nat) (xs' : List Addr), xs'.Perm (y :: xs) → Hp (rankOf g aK) xs' →
      Wc g (wEnv w.params L) (fun z => if z = Str.ofString "gone" then some (.ref x0) else m z) cm ((lh, listOf (xs'.map Value.ref).toArray n') :: (lk, listOf (ks.map Value.ref).toArray n2) :: fs) h' → Q .next { s with heap := h', toks := t' }) :
    wpAny (model PP w) A (exec (wI 1) (wEnv w.params L)) Q E s := by
  obtain ⟨p1, p2, p3, p4, p5, p6, p7, p8, e⟩ := wI1
  obtain ⟨h0, gg, dd, tt, oo⟩ := s
  dsimp only at *
  rw [e]
  refine wpAny_Assign_Name ?_ (by kernel_rfl!)
  refine Call_ ?_
  refine nm_glob B c.old (v := .ref 28) (heapreplace_addr _) ?_ (we_kind _ _) (wk_g _ _ _ (by kernel_rfl!)) (we_glob _ _)
  refine cw_static (f := 28) B rfl rfl ?_
  refine args_cons ?_
  refine wn_c c (a := L + 1 + 1 + 1 + 1) (lheap _ _) hch ?_ (we_kind _ _) (by kernel_rfl!)
  refine args_cons ?_
  refine Subscript_ ?_
  refine wn_c c (a := L + 1 + 1 + 1) (lkeys _ _) hck ?_ (we_kind _ _) (by kernel_rfl!)
  refine wn_l c hmh ?_ (we_kind _ _) (by kernel_rfl!)
  refine item_list (PySem.IsL.isList (c.at 1 rfl)) (Int.natCast_nonneg _) (by simp; omega) (x := .ref y) (by simp [hy]) ?_ (by with_unfolding_all rfl) (fun _ => rfl)
  refine args_nil ⟨c.old, ?_⟩
  refine noE (heapreplace_c (g := g) (hA.less (by decide)) B c.old (c.fo _ (List.Mem.head _)).2.1 (lt_ok B.X kb) ⟨n1, c.at 0 rfl⟩ hS hSy hz ?_)
  rintro h' t' x' ⟨n', e'⟩
  have c1 := c.ext 0 rfl x' e'
  refine ws_l c1 ?_ (we_kind _ _) (by kernel_rfl!)
  intro h8 c8
  exact k h8 _ n' _ (suF_perm (Nat.zero_lt_succ _)) (suF_hp hp) c8
theorem last_of {α : Type} : ∀ (l : List α), l ≠ [] → ∃ ys z, l = ys ++ [z] := fun l h => ⟨l.dropLast, l.getLast h, (List.dropLast_concat_getLast h).symm⟩
set_option maxHeartbeats 400000 in
theorem o_c {w : World} {A : Around} {s : Shared} {g : Heap} {L : Addr} {m cm : Str → Option Value} {fs : List (Addr × Obj)} {lh aK x0 : Addr} {xs : List Addr} {n1 : Nat} {Q : Flow → Shared → Prop} {E : Value → Shared → Prop}
    (hA : Low A 20) (B : Amb w g) (kb : KB g aK) (c : Wc g (wEnv w.params L) m cm ((lh, listOf ((x0 :: xs).map Value.ref).toArray n1) :: fs) s.heap)
    (hch : cm (Str.ofString "heap") = some (.ref lh)) (hS : ∀ z ∈ x0 :: xs, KeyOk g aK z) (hz : xs.length < 100) (hp : Hp (rankOf g aK) (x0 :: xs))
    (k : ∀ (h' : Heap) (t' n' : Nat) (xs' : List Addr), xs'.Perm xs → Hp (rankOf g aK) xs' →
      Wc g (wEnv w.params L) (fun z => if z = Str.ofString "gone" then some (.ref x0) else m z) cm ((lh, listOf (xs'.map Value.ref).toArray n') :: fs) h' → Q .next { s with heap := h', toks := t' }) :
    wpAny (model PP w) A (exec wO (wEnv w.params L)) Q E s := by
  obtain ⟨p1, p2, p3, p4, p5, e⟩ := wO0
  obtain ⟨h0, gg, dd, tt, oo⟩ := s
  dsimp only at *
  obtain ⟨ys, z, ez⟩ := last_of (x0 :: xs) (by simp)
  rw [ez] at c hS hp
  have hl : ys.length = xs.length := by have := congrArg List.length ez; simp at this; omega
  rw [e]
  refine wpAny_Assign_Name ?_ (by kernel_rfl!)
  refine Call_ ?_
  refine nm_glob B c.old (v := .ref 21) (heappop_addr _) ?_ (we_kind _ _) (wk_g _ _ _ (by kernel_rfl!)) (we_glob _ _)
  refine cw_static (f := 21) B rfl rfl ?_
  refine args_cons ?_
  refine wn_c c (a := L + 1 + 1 + 1 + 1) (lheap _ _) hch ?_ (we_kind _ _) (by kernel_rfl!)
  refine args_nil ⟨c.old, ?_⟩
  refine noE (heappop_c (g := g) (hA.less (by decide)) B c.old (c.fo _ (List.Mem.head _)).2.1 (lt_ok B.X kb) ⟨n1, c.at 0 rfl⟩ (fun q hq => hS q (List.mem_append_left _ hq)) (hS z (List.mem_append_right _ (List.mem_singleton.mpr rfl))) (by omega) ?_ ?_)
  · rintro h' t' rfl x' ⟨n', e'⟩
    rw [List.nil_append] at ez
    cases ez
    have c1 := c.ext 0 rfl x' e'
    refine ws_l c1 ?_ (we_kind _ _) (by kernel_rfl!)
    intro h8 c8
    exact k h8 _ n' [] (List.Perm.refl _) trivial c8
  · rintro h' t' x zs rfl x' ⟨n', e'⟩
    rw [List.cons_append] at ez
    obtain ⟨rfl, rfl⟩ : x0 = x ∧ xs = zs ++ [z] := by cases ez; exact ⟨rfl, rfl⟩
    have c1 := c.ext 0 rfl x' e'
    refine ws_l c1 ?_ (we_kind _ _) (by kernel_rfl!)
    intro h8 c8
    refine k h8 _ n' _ ((suF_perm (Nat.zero_lt_succ _)).trans ?_) (suF_hp (hp_front hp)) c8
    exact (List.perm_append_singleton z zs).symm
end Mine
end
section
open PySem PySem.W PySem.W.X PyProof.Rows PySem.Calls
set_option Elab.async false
set_option maxRecDepth 100000
set_option linter.unusedVariables false
set_option pp.maxSteps 500
namespace Mine
set_option maxHeartbeats 400000 in
theorem b5_c {w : World} {A : Around} {s : Shared} {g : Heap} {L : Addr} {m cm : Str → Option Value} {fs : List (Addr × Obj)} {lh lk lt lc lp aK ls x0 : Addr} {ot : Obj} {xs ks : List Addr} {cs ps : List Value} {n1 n2 n4 n5 i : Nat} {fc fp : Nat → Int} {a b : Nat → Int} {x : Str} {ti tw : Tok} {Q : Flow → Shared → Prop} {E : Value → Shared → Prop}
    (hA : Low A 20) (B : Amb w g) (kb : KB g aK) (sp : SpAt g ls a b)
    (c : Wc g (wEnv w.params L) m cm ((lh, listOf ((x0 :: xs).map Value.ref).toArray n1) :: (lk, listOf (ks.map Value.ref).toArray n2) :: (lt, ot) :: (lc, listOf cs.toArray n4) :: (lp, listOf ps.toArray n5) :: fs) s.heap)
    (hck : cm (Str.ofString "key") = some (.ref aK)) (hcks : cm (Str.ofString "keys") = some (.ref lk)) (hcs : cm (Str.ofString "speeds") = some (.ref ls)) (hch : cm (Str.ofString "heap") = some (.ref lh))
    (hmh : m (Str.ofString "hand") = some (.int (i : Int) ti)) (hmc : m (Str.ofString "counts") = some (.ref lc)) (hmp : m (Str.ofString "places") = some (.ref lp)) (hmw : m (Str.ofString "writing") = some (.str x tw))
    (C : IntL cs fc) (P : IntL ps fp) (h5 : ks.length = 5) (i5 : i < 5) (hx : x.length ≤ 60) (ok : fp i < x.length → Tm.Ok ⟨fc i, a i, b i, i⟩)
    (hS : ∀ z ∈ x0 :: xs, KeyOk g aK z) (hz : xs.length < 100) (hp : Hp (rankOf g aK) (x0 :: xs))
    (k1 : fp i < x.length → ∀ (g' h' : Heap) (t' n1' n2' : Nat) (y : Addr) (xs' : List Addr), Keep g g' → IsKey g' aK y ⟨fc i, a i, b i, i⟩ → g.get? y = none → xs'.Perm (y :: xs) → Hp (rankOf g' aK) xs' →
      Wc g' (wEnv w.params L) (fun z => if z = Str.ofString "gone" then some (.ref x0) else m z) cm ((lh, listOf (xs'.map Value.ref).toArray n1') :: (lk, listOf ((ks.set i y).map Value.ref).toArray n2') :: (lt, ot) :: (lc, listOf cs.toArray n4) :: (lp, listOf ps.toArray n5) :: fs) h' → Q .next { s with heap := h', toks := t' })
    (k2 : ¬ fp i < x.length → ∀ (h' : Heap) (t' n1' : Nat) (xs' : List Addr), xs'.Perm xs → Hp (rankOf g aK) xs' →
      Wc g (wEnv w.params L) (fun z => if z = Str.ofString "gone" then some (.ref x0) else m z) cm ((lh, listOf (xs'.map Value.ref).toArray n1') :: (lk, listOf (ks.map Value.ref).toArray n2) :: (lt, ot) :: (lc, listOf cs.toArray n4) :: (lp, listOf ps.toArray n5) :: fs) h' → Q .next { s with heap := h', toks := t' }) :
    wpAny (model PP w) A (exec (wB 5) (wEnv w.params L)) Q E s := by
  obtain ⟨p1, p2, p3, p4, p5, p6, p7, p8, e⟩ := wB5
  obtain ⟨t1, e1⟩ := P.2 i i5
  have P1 := P.1
  obtain ⟨h0, gg, dd, tt, oo⟩ := s
  dsimp only at *
  rw [e]
  refine wpAny_If ?_
  refine wpAny_isTrue_Compare1 ?_
  refine Subscript_ ?_
  refine wn_l c hmp ?_ (we_kind _ _) (by kernel_rfl!)
  refine wn_l c hmh ?_ (we_kind _ _) (by kernel_rfl!)
  refine item_list (PySem.IsL.isList (c.at 4 rfl)) (Int.natCast_nonneg _) (by simp; omega) (x := .int (fp i) t1) (by simp [e1]) ?_ (by with_unfolding_all rfl) (fun _ => rfl)
  refine Call_ ?_
  refine nm_built B c.old (by kernel_rfl) (v := .builtin "len") boot_len ?_ (by decide) (we_kind _ _) (wk_g _ _ _ (by kernel_rfl!)) (we_glob _ _) (we_blt _ _)
  refine PyProof.Rows.callWith_builtin1 ?_
  refine args_cons ?_
  refine wn_l c hmw ?_ (we_kind _ _) (by kernel_rfl!)
  refine args_nil ?_
  refine PyProof.Rows.len_str (by omega) ?_
  refine PyProof.Rows.lt_int ?_
  refine wpAny_truthy_bool ?_
  by_cases hlt : fp i < x.length
  · rw [decide_eq_true hlt, if_pos rfl]
    refine wpAny_execs_cons ?_
    refine i0_c hA B kb sp c hck hcks hcs hmh hmc C h5 i5 ?_
    intro g2 h2 t2 n2' y kg ky ny c2
    dsimp only
    refine wpAny_execs_cons ?_
    have hy : (ks.set i y)[i]? = some y := by rw [List.getElem?_set_self (by omega)]
    have rk : ∀ z ∈ x0 :: xs, rankOf g aK z = rankOf g2 aK z := fun z hz => rank_keep (hS z hz) kg
    refine i1_c hA (B.keep kg) (kb.keep kg) c2 hch hcks hmh (by rw [List.length_set]; exact h5) i5 hy (fun z hz => (hS z (List.mem_cons_of_mem _ hz)).keep kg) ⟨_, ky, ok hlt⟩ hz (Hp.congr rk hp) ?_
    intro h3 t3 n3 xs' pm hp3 c3
    dsimp only
    refine wpAny_execs_nil ?_
    exact k1 hlt g2 h3 t3 n3 n2' y xs' kg ky ny pm hp3 c3
  · rw [decide_eq_false hlt, if_neg (by decide)]
    refine wpAny_execs_cons ?_
    refine o_c hA B kb c hch hS hz hp ?_
    intro h3 t3 n3 xs' pm hp3 c3
    dsimp only
    refine wpAny_execs_nil ?_
    exact k2 hlt h3 t3 n3 xs' pm hp3 c3
theorem b6_c {w : World} {A : Around} {s : Shared} {g : Heap} {L : Addr} {m cm : Str → Option Value} {fs : List (Addr × Obj)} {x0 : Addr} {Q : Flow → Shared → Prop} {E : Value → Shared → Prop}
    (c : Wc g (wEnv w.params L) m cm fs s.heap) (h1 : m (Str.ofString "gone") = some (.ref x0)) (h2 : m (Str.ofString "first") = some (.ref x0))
    (k : Q .next s) : wpAny (model PP w) A (exec (wB 6) (wEnv w.params L)) Q E s := by
  obtain ⟨p1, p2, p3, p4, p5, p6, e⟩ := wB6
  rw [e]
  refine wpAny_If ?_
  refine wpAny_isTrue_Compare1 ?_
  refine wn_l c h1 ?_ (we_kind _ _) (by kernel_rfl!)
  refine wn_l c h2 ?_ (we_kind _ _) (by kernel_rfl!)
  refine wpAny_isNot_ref_self ?_
  refine wpAny_truthy_bool ?_
  rw [if_neg (by decide)]
  exact wpAny_execs_nil k
end Mine
end
section
open PySem PySem.W PySem.W.X PyProof.Rows PySem.Calls
set_option Elab.async false
set_option maxRecDepth 100000
set_option linter.unusedVariables false
set_option pp.maxSteps 500
namespace Mine
/-- the keys and the heap of those that still have something to tell -/
structure Kx (g : Heap) (aK : Addr) (a b : Nat → Int) (ks xs : List Addr) (c : Nat → Nat) : Prop where
  len : ks.length = 5
  key : ∀ (j : Nat) x, ks[j]? = some x → ∃ q : Nat, q < 8 ∧ IsKey g aK x ⟨q, a j, b j, j⟩ ∧ (c j < 8 → q = c j)
  mem : ∀ x, x ∈ xs ↔ ∃ j, c j < 8 ∧ ks[j]? = some x
  nd : xs.Nodup
  hp : Hp (rankOf g aK) xs
section
variable {g g' : Heap} {aK : Addr} {a b : Nat → Int} {ks xs : List Addr} {c : Nat → Nat}
theorem lt5 (h : ks.length = 5) {j : Nat} {x : Addr} (e : ks[j]? = some x) : j < 5 := by
  rcases Nat.lt_or_ge j ks.length with q | q
  · omega
  · rw [List.getElem?_eq_none q] at e; cases e
theorem Kx.ok (k : Kx g aK a b ks xs c) (s : Sp a b) {x : Addr} (hx : x ∈ ks) : KeyOk g aK x := by
  obtain ⟨j, hj⟩ := List.mem_iff_getElem?.mp hx
  obtain ⟨q, q8, i, _⟩ := k.key j x hj
  have := lt5 k.len hj
  exact ⟨_, i, by simp only; omega, by simp only; omega, s.a0 j, s.a5 j, s.b0 j, s.b4 j, by simp only; omega, by simp only; omega⟩
theorem Kx.sub (k : Kx g aK a b ks xs c) {x : Addr} (hx : x ∈ xs) : x ∈ ks := by
  obtain ⟨j, _, hj⟩ := (k.mem x).mp hx
  exact List.mem_of_getElem? hj
theorem Kx.inj (k : Kx g aK a b ks xs c) {i j : Nat} {x : Addr} (hi : ks[i]? = some x) (hj : ks[j]? = some x) : j = i := by
  obtain ⟨q, _, k1, _⟩ := k.key i x hi
  obtain ⟨q', _, k2, _⟩ := k.key j x hj
  have := congrArg Tm.k (k1.one k2)
  simp only at this
  omega
theorem Kx.keep (k : Kx g aK a b ks xs c) (s : Sp a b) (kg : Keep g g') : Kx g' aK a b ks xs c where
  len := k.len
  key := fun j x e => let ⟨q, h1, h2, h3⟩ := k.key j x e; ⟨q, h1, h2.keep kg, h3⟩
  mem := k.mem
  nd := k.nd
  hp := Hp.congr (fun y hy => rank_keep (k.ok s (k.sub hy)) kg) k.hp
theorem Kx.rank (k : Kx g aK a b ks xs c) {j : Nat} {x : Addr} (e : ks[j]? = some x) (hc : c j < 8) : rankOf g aK x = rk a b (j, c j) := by
  obtain ⟨q, _, i, h⟩ := k.key j x e
  rw [rankOf_eq i, h hc]
  rfl
theorem Kx.min {x0 : Addr} (k : Kx g aK a b ks (x0 :: xs) c) {i : Nat} (hi : ks[i]? = some x0) (hc : c i < 8) : ∀ j, j < 5 → c j < 8 → rk a b (i, c i) ≤ rk a b (j, c j) := by
  intro j hj hcj
  obtain ⟨y, hy⟩ : ∃ y, ks[j]? = some y := ⟨_, List.getElem?_eq_getElem (by rw [k.len]; exact hj)⟩
  rw [← k.rank hi hc, ← k.rank hy hcj]
  exact k.hp.head y ((k.mem y).mpr ⟨j, hcj, hy⟩)
theorem Kx.replace {x0 y : Addr} {xs' : List Addr} {i : Nat} (k : Kx g aK a b ks (x0 :: xs) c) (s : Sp a b) (hi : ks[i]? = some x0) (hc : c i + 1 < 8) (kg : Keep g g') (ky : IsKey g' aK y ⟨((c i + 1 : Nat) : Int), a i, b i, i⟩) (ny : g.get? y = none)
    (pm : xs'.Perm (y :: xs)) (hp : Hp (rankOf g' aK) xs') : Kx g' aK a b (ks.set i y) xs' (fun j => if j = i then c i + 1 else c j) := by
  have i5 := lt5 k.len hi
  have ney : ∀ z ∈ ks, z ≠ y := by
    rintro z hz rfl
    obtain ⟨j, hj⟩ := List.mem_iff_getElem?.mp hz
    obtain ⟨q, _, ⟨l, dx, t1, t2, t3, t4, e, h1, _⟩, _⟩ := k.key j z hj
    rw [ny] at h1; cases h1
  have nd := k.nd
  rw [List.nodup_cons] at nd
  refine ⟨by rw [List.length_set]; exact k.len, fun j x e => ?_, fun z => ?_, ?_, hp⟩
  · rw [List.getElem?_set] at e
    by_cases q : i = j
    · subst q
      rw [if_pos rfl, if_pos (by rw [k.len]; exact i5)] at e
      cases e
      exact ⟨c i + 1, hc, ky, fun _ => (if_pos rfl).symm⟩
    · rw [if_neg q] at e
      obtain ⟨q', h1, h2, h3⟩ := k.key j x e
      refine ⟨q', h1, h2.keep kg, fun h => ?_⟩
      have q2 : ¬ j = i := fun z => q z.symm
      simp only [if_neg q2] at h ⊢
      exact h3 h
  · rw [pm.mem_iff, List.mem_cons]
    constructor
    · rintro (rfl | hz)
      · exact ⟨i, by simp only [if_pos]; exact hc, by rw [List.getElem?_set, if_pos rfl, if_pos (by rw [k.len]; exact i5)]⟩
      · obtain ⟨j, h1, h2⟩ := (k.mem z).mp (List.mem_cons_of_mem _ hz)
        have ne : ¬ i = j := fun q => by subst q; rw [hi] at h2; cases h2; exact nd.1 hz
        have ne' : ¬ j = i := fun q => ne q.symm
        exact ⟨j, by simp only [if_neg ne']; exact h1, by rw [List.getElem?_set, if_neg ne]; exact h2⟩
    · rintro ⟨j, h1, h2⟩
      rw [List.getElem?_set] at h2
      by_cases q : i = j
      · subst q
        rw [if_pos rfl, if_pos (by rw [k.len]; exact i5)] at h2
        cases h2
        exact Or.inl rfl
      · rw [if_neg q] at h2
        have q2 : ¬ j = i := fun z => q z.symm
        simp only [if_neg q2] at h1
        rcases List.mem_cons.mp ((k.mem z).mpr ⟨j, h1, h2⟩) with rfl | hz
        · exact absurd (k.inj hi h2) q2
        · exact Or.inr hz
  · refine pm.nodup_iff.mpr (List.nodup_cons.mpr ⟨fun hy => ney y (k.sub (List.mem_cons_of_mem _ hy)) rfl, nd.2⟩)
theorem Kx.pop {x0 : Addr} {xs' : List Addr} {i : Nat} (k : Kx g aK a b ks (x0 :: xs) c) (hi : ks[i]? = some x0) (hc : c i + 1 = 8)
    (pm : xs'.Perm xs) (hp : Hp (rankOf g aK) xs') : Kx g aK a b ks xs' (fun j => if j = i then c i + 1 else c j) := by
  have nd := k.nd
  rw [List.nodup_cons] at nd
  refine ⟨k.len, fun j x e => ?_, fun z => ?_, pm.nodup_iff.mpr nd.2, hp⟩
  · obtain ⟨q', h1, h2, h3⟩ := k.key j x e
    refine ⟨q', h1, h2, fun h => ?_⟩
    by_cases q : j = i
    · simp only [if_pos q] at h; omega
    · simp only [if_neg q] at h ⊢; exact h3 h
  · rw [pm.mem_iff]
    constructor
    · intro hz
      obtain ⟨j, h1, h2⟩ := (k.mem z).mp (List.mem_cons_of_mem _ hz)
      have ne : ¬ j = i := fun q => by subst q; rw [hi] at h2; cases h2; exact nd.1 hz
      exact ⟨j, by simp only [if_neg ne]; exact h1, h2⟩
    · rintro ⟨j, h1, h2⟩
      by_cases q : j = i
      · simp only [if_pos q] at h1; omega
      · simp only [if_neg q] at h1
        rcases List.mem_cons.mp ((k.mem z).mpr ⟨j, h1, h2⟩) with rfl | hz
        · exact absurd (k.inj hi h2) q
        · exact hz
theorem Kx.done (k : Kx g aK a b ks [] c) (hc : ∀ j, c j ≤ 8) : ∀ j, j < 5 → c j = 8 := by
  intro j hj
  rcases Nat.lt_or_ge (c j) 8 with h | h
  · obtain ⟨y, hy⟩ : ∃ y, ks[j]? = some y := ⟨_, List.getElem?_eq_getElem (by rw [k.len]; exact hj)⟩
    have := (k.mem y).mpr ⟨j, h, hy⟩
    cases this
  · have := hc j; omega
theorem Kx.start (h5 : ks.length = 5) (hk : ∀ (j : Nat) x, ks[j]? = some x → IsKey g aK x ⟨0, a j, b j, j⟩) : Kx g aK a b ks (hfGo (rankOf g aK) 2 ks.reverse) (fun _ => 0) := by
  have inj : ∀ (i j : Nat) (x : Addr), ks[i]? = some x → ks[j]? = some x → j = i := by
    intro i j x hi hj
    have := congrArg Tm.k ((hk i x hi).one (hk j x hj))
    simp only at this
    omega
  have pm : (hfGo (rankOf g aK) 2 ks.reverse).Perm ks := hfGo_perm.trans (List.reverse_perm _)
  refine ⟨h5, fun j x e => ⟨0, by decide, hk j x e, fun _ => rfl⟩, fun z => ?_, ?_, ?_⟩
  · rw [pm.mem_iff]
    constructor
    · intro hz
      obtain ⟨j, hj⟩ := List.mem_iff_getElem?.mp hz
      exact ⟨j, by decide, hj⟩
    · rintro ⟨j, _, hj⟩
      exact List.mem_of_getElem? hj
  · refine pm.nodup_iff.mpr ?_
    refine List.pairwise_iff_getElem.mpr fun i j hi hj hij e => ?_
    have hj' : ks[j]? = some ks[j] := List.getElem?_eq_getElem hj
    have hi' : ks[i]? = some ks[j] := by rw [List.getElem?_eq_getElem hi, e]
    have := inj i j _ hi' hj'
    omega
  · obtain ⟨v, w, x, y, z, e⟩ : ∃ v w x y z, ks.reverse = [v, w, x, y, z] := by
      have h : ks.reverse.length = 5 := by rw [List.length_reverse]; exact h5
      match ks.reverse, h with
      | [v, w, x, y, z], _ => exact ⟨v, w, x, y, z, rfl⟩
    rw [e]
    exact hfGo_hp
end
end Mine
end
section
open PySem PySem.W PySem.W.X PyProof.Rows PySem.Calls
set_option Elab.async false
set_option maxRecDepth 100000
set_option linter.unusedVariables false
set_option pp.maxSteps 500
namespace Mine
theorem wT4 : ∃ p1 p2 p3 p4 p5 p6 p7 p8 p9 p10 p11 p12, wBd.getD 4 (.Pass default) = .While (.BoolOp .And [.Compare (.Call (nmE "len" p1) [nmE "heap" p2] [] p3) [.Gt] [.Constant (.int 0) 0 p4] p5, .Compare (.Call (nmE "len" p6) [nmE "told" p7] [] p8) [.Lt] [.Constant (.int 99) 0 p9] p10] p11) whB [] p12 := ⟨_, _, _, _, _, _, _, _, _, _, _, _, rfl⟩
theorem wT5 : ∃ p1 p2, wBd.getD 5 (.Pass default) = .Return (some (nmE "told" p1)) p2 := ⟨_, _, rfl⟩
theorem whB_eq : whB = [wB 0, wB 1, wB 2, wB 3, wB 4, wB 5, wB 6] := by kernel_rfl
/-- the loop's state -/
noncomputable def WI (w : World) (g0 : Heap) (L aK ls lw lk lh lt lc lp : Addr) (a b : Nat → Int) (r : Nat → Nat) (cm : Str → Option Value) (fs : List (Addr × Obj)) (s : Shared) (n : Nat) (s' : Shared) : Prop :=
  ∃ (g h : Heap) (t : Nat) (m : Str → Option Value) (xs ks ts : List Addr) (cs ps : List Value) (n1 n2 n3 n4 n5 : Nat) (tl : List (Nat × Nat)) (c : Nat → Nat),
    s' = { s with heap := h, toks := t } ∧ n = 40 - tl.length ∧ Keep g0 g ∧
    Wc g (wEnv w.params L) m cm ((lh, listOf (xs.map Value.ref).toArray n1) :: (lk, listOf (ks.map Value.ref).toArray n2) :: (lt, listOf (ts.map Value.ref).toArray n3) :: (lc, listOf cs.toArray n4) :: (lp, listOf ps.toArray n5) :: fs) h ∧
    m (Str.ofString "told") = some (.ref lt) ∧ m (Str.ofString "counts") = some (.ref lc) ∧ m (Str.ofString "places") = some (.ref lp) ∧ m (Str.ofString "writings") = some (.ref lw) ∧
    Mg a b tl c ∧ IntL cs (fun k => (c k : Int)) ∧ IntL ps (fun k => ((upto k (r k) (c k)).length : Int)) ∧ Kx g aK a b ks xs c ∧
    ts.length = tl.length ∧ ∀ (i : Nat) q p, ts[i]? = some q → tl[i]? = some p → ToldAt g q p.1 (pc p.1 (r p.1) p.2)
theorem full (i r : Nat) : (upto i r 8).length = (wS i r).length := by simp [wS, Str.length]
set_option maxHeartbeats 1000000 in
theorem turn_c {w : World} {A : Around} {s : Shared} {g g0 h : Heap} {t : Nat} {L aK ls lw lk lh lt lc lp : Addr} {a b : Nat → Int} {r : Nat → Nat} {m cm : Str → Option Value} {x0 : Addr} {xs ks ts : List Addr} {cs ps : List Value} {n1 n2 n3 n4 n5 : Nat} {tl : List (Nat × Nat)} {c : Nat → Nat} {fs : List (Addr × Obj)} {E : Value → Shared → Prop}
    (hA : Low A 20) (B0 : Amb w g0) (kb0 : KB g0 aK) (sp0 : SpAt g0 ls a b) (W0 : WrAt g0 lw (fun i => wS i (r i))) (S : Sp a b) (hr : ∀ k, r k < 8)
    (hck : cm (Str.ofString "key") = some (.ref aK)) (hcks : cm (Str.ofString "keys") = some (.ref lk)) (hcs : cm (Str.ofString "speeds") = some (.ref ls)) (hch : cm (Str.ofString "heap") = some (.ref lh))
    (kg : Keep g0 g) (cc : Wc g (wEnv w.params L) m cm ((lh, listOf ((x0 :: xs).map Value.ref).toArray n1) :: (lk, listOf (ks.map Value.ref).toArray n2) :: (lt, listOf (ts.map Value.ref).toArray n3) :: (lc, listOf cs.toArray n4) :: (lp, listOf ps.toArray n5) :: fs) h)
    (m1 : m (Str.ofString "told") = some (.ref lt)) (m2 : m (Str.ofString "counts") = some (.ref lc)) (m3 : m (Str.ofString "places") = some (.ref lp)) (m4 : m (Str.ofString "writings") = some (.ref lw))
    (M : Mg a b tl c) (C : IntL cs (fun k => (c k : Int))) (P : IntL ps (fun k => ((upto k (r k) (c k)).length : Int))) (K : Kx g aK a b ks (x0 :: xs) c)
    (hl : ts.length = tl.length) (ht : ∀ (i : Nat) q p, ts[i]? = some q → tl[i]? = some p → ToldAt g q p.1 (pc p.1 (r p.1) p.2)) :
    wpAny (model PP w) A (execs whB (wEnv w.params L)) (fun f s₃ => f = .next ∧ ∃ n', n' < 40 - tl.length ∧ WI w g0 L aK ls lw lk lh lt lc lp a b r cm fs s n' s₃) E { s with heap := h, toks := t } := by
  obtain ⟨i, hc, hi⟩ := (K.mem x0).mp (List.mem_cons_self ..)
  have i5 := lt5 K.len hi
  have hz := M.len
  have F := pcFacts i5 (hr i) hc
  rw [whB_eq]
  refine wpAny_execs_cons ?_
  refine b0_c hA (B0.keep kg) cc hcks hch K.len hi (fun j hj => K.inj hi hj) (fun y hy => let ⟨m, x, _⟩ := K.ok S hy; ⟨m, x⟩) ?_
  intro h1 t1 u1 c1
  dsimp only
  refine wpAny_execs_cons ?_
  refine b1_c (lh := lh) hA c1 (x := fun i => wS i (r i)) (y := x0) (i := i) (List.Mem.tail _ (List.Mem.head _)) (List.Mem.tail _ (List.Mem.tail _ (List.Mem.tail _ (List.Mem.tail _ (List.Mem.head _))))) hcks (if_pos rfl) m4 m3 (W0.keep kg) P K.len i5 hi ?_
  intro h2 t2 u2 v2 c2
  dsimp only
  refine wpAny_execs_cons ?_
  refine b2_c hA c2 (i := i) (r := r i) (n := c i) (if_pos rfl) rfl i5 (hr i) hc ?_
  intro h3 t3 u3 c3
  dsimp only
  refine wpAny_execs_cons ?_
  refine b3_c hA c3 (i := i) (x := pc i (r i) (c i)) rfl (if_pos rfl) m1 (by omega) ?_
  intro g4 h4 t4 n3' q kg4 tq c4
  dsimp only
  refine wpAny_execs_cons ?_
  have kg04 : Keep g0 g4 := fun b o e => kg4 _ _ (kg b o e)
  have K4 := K.keep S kg4
  refine b4_c hA (B0.keep kg04) c4 (fc := fun k => (c k : Int)) (fp := fun k => ((upto k (r k) (c k)).length : Int)) (i := i) (x := pc i (r i) (c i)) rfl (if_pos rfl) rfl m2 m3 i5 C P (by have := F.fit; have := F.len; omega) ?_
  intro h5 t5 n4' n5' cs' ps' C' P' c5
  dsimp only
  have eC : (fun j => if j = i then (c i : Int) + 1 else (c j : Int)) = (fun j => (((if j = i then c i + 1 else c j : Nat)) : Int)) := by
    funext j; split <;> omega
  have eP : (fun j => if j = i then ((upto i (r i) (c i)).length : Int) + ((pc i (r i) (c i)).length : Int) else ((upto j (r j) (c j)).length : Int)) = (fun j => ((upto j (r j) (if j = i then c i + 1 else c j)).length : Int)) := by
    funext j
    by_cases q : j = i
    · subst q
      rw [if_pos rfl, if_pos rfl, F.next, List.length_append]; omega
    · rw [if_neg q, if_neg q]
  rw [eC] at C'
  rw [eP] at P'
  have M' := M.step S i5 hc (K.min hi hc)
  have hl' : (ts ++ [q]).length = (tl ++ [(i, c i)]).length := by simp [hl]
  have ht' : ∀ (j : Nat) q' p, (ts ++ [q])[j]? = some q' → (tl ++ [(i, c i)])[j]? = some p → ToldAt g4 q' p.1 (pc p.1 (r p.1) p.2) := by
    intro j q' p e1 e2
    rcases Nat.lt_or_ge j ts.length with z | z
    · rw [List.getElem?_append_left z] at e1
      rw [List.getElem?_append_left (by omega)] at e2
      exact (ht j q' p e1 e2).keep kg4
    · rw [List.getElem?_append_right z] at e1
      rw [List.getElem?_append_right (by omega)] at e2
      have z0 : j - ts.length = 0 := by
        rcases Nat.eq_zero_or_pos (j - ts.length) with z0 | z0
        · exact z0
        · rw [List.getElem?_eq_none (by simp; omega)] at e1; cases e1
      have z1 : j - tl.length = 0 := by omega
      rw [z0] at e1; rw [z1] at e2
      simp at e1 e2
      subst e1 e2
      exact tq
  have M'l := M'.len
  have lt40 : 40 - (tl ++ [(i, c i)]).length < 40 - tl.length := by simp at M'l ⊢; omega
  have hlt : (if i = i then c i + 1 else c i) = c i + 1 := if_pos rfl
  have ci8 : ((upto i (r i) (if i = i then c i + 1 else c i)).length : Int) < ((wS i (r i)).length : Int) ↔ c i + 1 < 8 := by
    rw [hlt, F.next]
    by_cases z : c i + 1 < 8
    · have F2 := pcFacts i5 (hr i) z
      have e1 := F2.c0
      have e2 := F2.fit
      rw [F.next] at e2
      simp only [List.length_append] at e2 ⊢
      omega
    · have e8 : c i + 1 = 8 := by omega
      have e2 := full i (r i)
      rw [← e8, F.next] at e2
      simp only [List.length_append] at e2 ⊢
      omega
  refine wpAny_execs_cons ?_
  refine b5_c hA (B0.keep kg04) (kb0.keep kg04) (sp0.keep kg04) c5 hck hcks hcs hch (i := i) (x := wS i (r i)) rfl m2 m3 rfl C' P' K.len i5 F.len ?_ (fun z hz => K4.ok S (K4.sub hz)) ?_ K4.hp ?_ ?_
  · intro z
    have z := ci8.mp z
    refine ⟨?_, ?_, S.a0 i, S.a5 i, S.b0 i, S.b4 i, ?_, ?_⟩
    · show (0 : Int) ≤ (((if i = i then c i + 1 else c i : Nat)) : Int); omega
    · show (((if i = i then c i + 1 else c i : Nat)) : Int) < 9; rw [hlt]; omega
    · show (0 : Int) ≤ (i : Int); omega
    · show (i : Int) < 5; omega
  · have : (x0 :: xs).length ≤ 5 := by
      have := nodup_len K.nd (l' := ks) (fun z hz => K.sub hz)
      rw [K.len] at this; exact this
    simp at this; omega
  · intro z g6 h6 t6 n1' n2' y xs' kg6 ky ny pm hp6 c6
    have z := ci8.mp z
    dsimp only
    refine wpAny_execs_cons ?_
    refine b6_c c6 (x0 := x0) (if_pos rfl) rfl ?_
    dsimp only
    refine wpAny_execs_nil ?_
    refine ⟨rfl, _, lt40, g6, h6, t6, _, xs', ks.set i y, ts ++ [q], cs', ps', n1', n2', n3', n4', n5', tl ++ [(i, c i)], _, rfl, rfl, (fun b o e => kg6 _ _ (kg04 b o e)), c6, m1, m2, m3, m4, M', C', P', ?_, hl', fun j q' p e1 e2 => (ht' j q' p e1 e2).keep kg6⟩
    exact K4.replace S hi z kg6 (by rw [hlt] at ky; exact ky) ny pm hp6
  · intro z h6 t6 n1' xs' pm hp6 c6
    have z : ¬ c i + 1 < 8 := fun q => z (ci8.mpr q)
    dsimp only
    refine wpAny_execs_cons ?_
    refine b6_c c6 (x0 := x0) (if_pos rfl) rfl ?_
    dsimp only
    refine wpAny_execs_nil ?_
    refine ⟨rfl, _, lt40, g4, h6, t6, _, xs', ks, ts ++ [q], cs', ps', n1', n2, n3', n4', n5', tl ++ [(i, c i)], _, rfl, rfl, kg04, c6, m1, m2, m3, m4, M', C', P', ?_, hl', ht'⟩
    exact K4.pop hi (by omega) pm hp6
end Mine
end
section
open PySem PySem.W PySem.W.X PyProof.Rows PySem.Calls
set_option Elab.async false
set_option maxRecDepth 100000
set_option linter.unusedVariables false
set_option pp.maxSteps 500
namespace Mine
theorem wk_wr (P : Params) (L : Addr) : (wEnv P L).kindOf (Str.ofString "writings") = some .local := by kernel_rfl
theorem wk_sp (P : Params) (L : Addr) : (wEnv P L).kindOf (Str.ofString "speeds") = some .cell := by kernel_rfl
noncomputable abbrev wBinds (lw ls : Addr) : List (Str × Value) := [(Str.ofString "writings", .ref lw), (Str.ofString "speeds", .ref ls)]
theorem wbl (P : Params) (L lw ls : Addr) : bindL (wEnv P L).kindOf (wBinds lw ls) (fun _ => none) = fun y => if y = Str.ofString "writings" then some (.ref lw) else none := by
  unfold wBinds
  rw [bindL, bindL, bindL, wk_wr, wk_sp, if_pos rfl, if_neg (by decide)]
theorem wbc (P : Params) (L lw ls : Addr) : bindC (wEnv P L).kindOf (wBinds lw ls) (fun _ => none) = fun y => if y = Str.ofString "speeds" then some (.ref ls) else none := by
  unfold wBinds
  rw [bindC, bindC, bindC, wk_wr, wk_sp, if_pos rfl, if_neg (by decide)]
theorem wLoc1 (P : Params) : (fdW P).scope.names.lookup (Str.ofString "writings") = some .local := by kernel_rfl
theorem wLoc2 (P : Params) : (fdW P).scope.names.lookup (Str.ofString "speeds") = some .cell := by kernel_rfl
theorem wLoc3 (P : Params) (n : Nat) : ((cellsFrom (n + 1) (fdW P).scope.names []).lookup (Str.ofString "speeds")).isSome = true := by kernel_rfl
theorem l121 (P : Params) : ((Kc P).lookup 121).map (·.cls) = some (.type "function") := by kernel_rfl
/-- what was told: the pieces in the order of the times -/
structure Told (g : Heap) (l : Addr) (a b : Nat → Int) (r : Nat → Nat) (tl : List (Nat × Nat)) : Prop where
  inc : tl.Pairwise fun p q => rk a b p < rk a b q
  perm : tl.Perm allKN
  list : ∃ (ts : List Addr) (n : Nat), g.get? l = some (listOf (ts.map Value.ref).toArray n) ∧ ts.length = tl.length ∧ ∀ (i : Nat) q p, ts[i]? = some q → tl[i]? = some p → ToldAt g q p.1 (pc p.1 (r p.1) p.2)
set_option maxHeartbeats 1000000 in
theorem woven_c {w : World} {A : Around} {h : Heap} {gg : Array GenState} {d : Drawn} {t : Nat} {os : OsState} {lw ls : Addr} {a b : Nat → Int} {r : Nat → Nat} {Q : Value → Shared → Prop}
    (hA : Low A 22) (B : Amb w (h.hide 51)) (h51 : h.get? 51 = some (tabObj #[])) (sp : SpAt (h.hide 51) ls a b) (W : WrAt (h.hide 51) lw (fun i => wS i (r i))) (S : Sp a b) (hr : ∀ k, r k < 8)
    (k : ∀ l h' t' tl, Keep (h.hide 51) h' → (∃ vs, h'.get? 51 = some (tabObj vs)) → Told h' l a b r tl → Q (.ref l) ⟨h', gg, d, t', os⟩) :
    wpAny (model PP w) A (call (.ref 126) [.ref lw, .ref ls]) Q (fun _ _ => False) ⟨h, gg, d, t, os⟩ := by
  have X : (Kc w.params).In h := Frag.In.keeps B.X (fun b o e => Heap.of_hide e)
  refine wpAny_call (codeAny_call_cells (fd := fdW w.params) (body := wBody) hA.room (X _ _ (lW w.params)) (dW w.params) (nolimit_of X) (codeRec_of X (codeW _)) (bW w.params) (baW w.params _ _) (cW w.params) ?_ ?_ (by rw [sW]; kernel_rfl!) (by rw [sW]; kernel_rfl!) (by rw [sW]; kernel_rfl!))
  · intro x hx
    rcases List.mem_cons.mp hx with rfl | hx
    · exact Or.inl (wLoc1 _)
    rcases List.mem_cons.mp hx with rfl | hx
    · exact Or.inr ⟨wLoc2 _, wLoc3 _ _⟩
    · cases hx
  intro s₁ ic
  obtain ⟨h1, t1, rfl, k1⟩ := ic.done
  have c0 := Wc.ofCall ic
  generalize hL : h.objs.size = L at ic c0 ⊢
  dsimp only at c0 k1 hL ⊢
  change Wc h (wEnv w.params L) (bindL (wEnv w.params L).kindOf (wBinds lw ls) (fun _ => none)) (bindC (wEnv w.params L).kindOf (wBinds lw ls) (fun _ => none)) [] h1 at c0
  rw [wbl, wbc] at c0
  have nL : L ≠ 51 := fun q => by rw [← hL] at q; have z := Heap.lt_size h51; rw [q] at z; exact Nat.lt_irrefl _ z
  have hA1 : Low (A.deeper (wEnv w.params L)) 21 := hA.deeper _
  have ne121 : ls ≠ 121 := by
    rintro rfl
    obtain ⟨ps, n, e, _⟩ := sp
    have := l121 w.params
    cases q : (Kc w.params).lookup 121 with
    | none => rw [q] at this; cases this
    | some o =>
      rw [q] at this
      have e' := B.X _ _ q
      rw [e] at e'; cases e'
      simp at this
  rw [show (callEnvC (fdW w.params) L 126) = wEnv w.params L from rfl]
  refine noE ?_
  rw [wBody_eq]
  have c1 := c0.sub (g' := h.hide 51) (fun b o e => Heap.of_hide e)
  have h51' : h1.get? 51 = some (tabObj #[]) := k1 _ _ h51
  refine wpAny_execs_cons ?_
  refine w1_c hA1 B c1 h51' (Heap.hide_self _ _) (fun p hp => by cases hp) (by rw [if_neg (by decide)]) (fun n => by
    split
    · intro e; cases e; exact ne121 rfl
    · intro e; cases e) (fun p hp => by cases hp) ?_
  intro g2 aK lp lc lt v51 h2 t2 z1 z2 kg2 kb c2
  have hA2 : Low (A.deeper (wEnv w.params L)) 20 := hA1.less (by decide)
  dsimp only
  refine wpAny_execs_cons ?_
  refine w2_c hA2 (B.keep kg2) c2 kb (sp.keep kg2) (if_pos rfl) rfl ?_
  intro g3 lk ks n2 h3 t3 kg3 hk5 hks c3
  dsimp only
  refine wpAny_execs_cons ?_
  refine w3_c hA2 (B.keep (fun b o e => kg3 _ _ (kg2 _ _ e))) c3 (if_pos rfl) hk5 ?_
  intro lh h4 t4 c4
  dsimp only
  refine wpAny_execs_cons ?_
  have K0 := Kx.start (g := g3) (aK := aK) (a := a) (b := b) hk5 hks
  have B3 : Amb w g3 := B.keep (fun b o e => kg3 _ _ (kg2 _ _ e))
  refine w4_c hA2 B3 (kb.keep kg3) c4 (if_pos rfl) (by rw [List.length_reverse]; exact hk5) (fun y hy => K0.ok S (List.mem_reverse.mp hy)) ?_
  intro h5 t5 n1 c5
  dsimp only
  refine wpAny_execs_cons ?_
  rw [wT_eq]
  obtain ⟨p1, p2, p3, p4, p5, p6, p7, p8, p9, p10, p11, p12, e⟩ := wT4
  rw [e]
  have kg03 : Keep (h.hide 51) g3 := fun b o e => kg3 _ _ (kg2 _ _ e)
  have ck : ∀ (x : Str) v, (fun y => if y = Str.ofString "heap" then some (Value.ref lh) else if y = Str.ofString "keys" then some (.ref lk) else if y = Str.ofString "key" then some (.ref aK) else if y = Str.ofString "speeds" then some (.ref ls) else none) x = some v → True := fun _ _ _ => trivial
  generalize hcm : (fun y => if y = Str.ofString "heap" then some (Value.ref lh) else if y = Str.ofString "keys" then some (.ref lk) else if y = Str.ofString "key" then some (.ref aK) else if y = Str.ofString "speeds" then some (.ref ls) else none) = cm at c5
  have hch : cm (Str.ofString "heap") = some (.ref lh) := by rw [← hcm]; exact if_pos rfl
  have hcks : cm (Str.ofString "keys") = some (.ref lk) := by rw [← hcm]; rfl
  have hck : cm (Str.ofString "key") = some (.ref aK) := by rw [← hcm]; rfl
  have hcs : cm (Str.ofString "speeds") = some (.ref ls) := by rw [← hcm]; rfl
  have kb3 := kb.keep kg3
  have sp3 := sp.keep kg03
  have W3 := W.keep kg03
  clear ck hcm c0 c1 c2 c3 c4
  generalize hs5 : ({ heap := h1, gens := gg, drawn := d, toks := t1, os := os } : Shared) = s0
  refine wpAny_mono (Q := fun fl s' => fl = .next ∧ ∃ (g h : Heap) (t : Nat) (m : Str → Option Value) (ks ts : List Addr) (cs ps : List Value) (n1 n2 n3 n4 n5 : Nat) (tl : List (Nat × Nat)) (c : Nat → Nat),
      s' = ⟨h, gg, d, t, os⟩ ∧ Keep g3 g ∧ Wc g (wEnv w.params L) m cm ((lh, listOf (([] : List Addr).map Value.ref).toArray n1) :: (lk, listOf (ks.map Value.ref).toArray n2) :: (lt, listOf (ts.map Value.ref).toArray n3) :: (lc, listOf cs.toArray n4) :: (lp, listOf ps.toArray n5) :: [(51, tabObj v51)]) h ∧
      m (Str.ofString "told") = some (.ref lt) ∧ Mg a b tl c ∧ Kx g aK a b ks [] c ∧ ts.length = tl.length ∧ ∀ (i : Nat) q p, ts[i]? = some q → tl[i]? = some p → ToldAt g q p.1 (pc p.1 (r p.1) p.2)) (wpAny_While ?_) ?_ (fun _ _ x => x)
  · refine codeAny_whileLoop (fun n s' => WI w g3 L aK ls lw lk lh lt lc lp a b r cm [(51, tabObj v51)] ⟨h1, gg, d, t1, os⟩ n s') ?_ 40 ?_
    · rintro n s' ⟨g, hh, tt, m, xs, ks, ts, cs, ps, m1, m2, m3, m4, m5, tl, c, rfl, rfl, kg, cc, e1, e2, e3, e4, M, C, P, K, hl, ht⟩
      have hz := M.len
      have x5 : xs.length ≤ 5 := by
        have := nodup_len K.nd (l' := ks) (fun z hz => K.sub hz)
        rw [K.len] at this; exact this
      have B' : Amb w g := B3.keep kg
      refine isTrue_and ?_
      refine wpAny_isTrue_Compare1 ?_
      refine Call_ ?_
      refine nm_built B' cc.old (by kernel_rfl) (v := .builtin "len") boot_len ?_ (by decide) (we_kind _ _) (wk_g _ _ _ (by kernel_rfl!)) (we_glob _ _) (we_blt _ _)
      refine PyProof.Rows.callWith_builtin1 ?_
      refine args_cons ?_
      refine wn_c cc (a := L + 1 + 1 + 1 + 1) (lheap _ _) hch ?_ (we_kind _ _) (by kernel_rfl!)
      refine args_nil ?_
      refine len_list (PySem.IsL.isList (cc.at 0 rfl)) (by simp; omega) ?_
      refine wpAny_Constant_int ?_
      refine PyProof.Rows.gt_int ?_
      refine wpAny_truthy_bool ?_
      cases xs with
      | nil =>
        rw [decide_eq_false (by simp), if_neg (by decide), if_neg (by decide)]
        refine wpAny_execs_nil ?_
        exact ⟨rfl, g, hh, _, m, ks, ts, cs, ps, m1, m2, m3, m4, m5, tl, c, rfl, kg, cc, e1, M, K, hl, ht⟩
      | cons x0 xs =>
        rw [decide_eq_true (by simp), if_pos rfl]
        refine isTrue_and ?_
        refine wpAny_isTrue_Compare1 ?_
        refine Call_ ?_
        refine nm_built B' cc.old (by kernel_rfl) (v := .builtin "len") boot_len ?_ (by decide) (we_kind _ _) (wk_g _ _ _ (by kernel_rfl!)) (we_glob _ _) (we_blt _ _)
        refine PyProof.Rows.callWith_builtin1 ?_
        refine args_cons ?_
        refine wn_l cc e1 ?_ (we_kind _ _) (by kernel_rfl!)
        refine args_nil ?_
        refine len_list (PySem.IsL.isList (cc.at 2 rfl)) (by simp; omega) ?_
        refine wpAny_Constant_int ?_
        refine PyProof.Rows.lt_int ?_
        refine wpAny_truthy_bool ?_
        rw [decide_eq_true (by simp; omega), if_pos rfl]
        refine isTrue_and_nil ?_
        rw [if_pos rfl]
        refine wpAny_mono (turn_c (s := ⟨h1, gg, d, t1, os⟩) hA2 B3 kb3 sp3 W3 S hr hck hcks hcs hch kg cc e1 e2 e3 e4 M C P K hl ht) ?_ (fun _ _ x => x)
        rintro f s3 ⟨rfl, n', hn', hw⟩
        exact ⟨n', hn', hw⟩
    · refine ⟨g3, h5, _, _, _, ks, [], _, _, n1, n2, 0, 0, 0, [], (fun _ => 0), rfl, rfl, (fun _ _ e => e), c5, ?_, ?_, ?_, ?_, Mg.start a b, ?_, ?_, K0, rfl, fun i q p e => by simp at e⟩
      · exact if_pos rfl
      · rfl
      · rfl
      · rfl
      · refine ⟨rfl, fun i hi => ?_⟩
        rcases (by omega : i = 0 ∨ i = 1 ∨ i = 2 ∨ i = 3 ∨ i = 4) with rfl | rfl | rfl | rfl | rfl <;> exact ⟨_, rfl⟩
      · refine ⟨rfl, fun i hi => ?_⟩
        rcases (by omega : i = 0 ∨ i = 1 ∨ i = 2 ∨ i = 3 ∨ i = 4) with rfl | rfl | rfl | rfl | rfl <;> exact ⟨_, rfl⟩
  · rintro fl s' ⟨rfl, g, hh, tt, m, ks, ts, cs, ps, m1, m2, m3, m4, m5, tl, c, rfl, kg, cc, e1, M, K, hl, ht⟩
    dsimp only
    refine wpAny_execs_cons ?_
    rw [wT_eq]
    obtain ⟨p1, p2, e⟩ := wT5
    rw [e]
    refine wpAny_Return_some ?_
    refine wn_l cc e1 ?_ (we_kind _ _) (by kernel_rfl!)
    refine k lt hh _ tl (fun b o e => cc.old _ _ (kg _ _ (kg03 _ _ e))) ⟨_, cc.at 5 rfl⟩ ⟨M.inc, M.done (K.done M.le), ts, m3, cc.at 2 rfl, hl, fun i q p e1 e2 => (ht i q p e1 e2).keep cc.old⟩
end Mine
end
section
open PySem PySem.W PySem.W.X PyProof.Rows PySem.Calls PySem.SeqAt
set_option Elab.async false
set_option maxRecDepth 100000
set_option linter.unusedVariables false
set_option pp.maxSteps 500
namespace Mine
theorem lB6 : ∃ p1 p2 p3 p4 p5 p6, lB 6 = .Assign [nmE "woven" p1] (.Call (nmE "_law_woven" p2) [nmE "writings" p3, nmE "speeds" p4] [] p5) p6 := ⟨_, _, _, _, _, _, rfl⟩
theorem lB7 : ∃ p1 p2 p3 p4 p5 p6, lB 7 = .If (.Compare (nmE "woven" p1) [.NotEq] [nmE "due" p2] p3) [.Return (some (.Constant (.bool false) 0 p4)) p5] [] p6 := ⟨_, _, _, _, _, _, rfl⟩
theorem ad126 (P : Params) : nsIn (Kc P) mainGlobals (Str.ofString "_law_woven") = some (some (.ref 126)) := by kernel_rfl
/-- the lists that stand go into the base -/
theorem Wc.upLists {g h : Heap} {env : Env} {m cm : Str → Option Value} {fs : List (Addr × Obj)} (c : Wc g env m cm fs h) (hk : ∀ n a, (n, a) ∈ env.cells → ∃ n', env.cells.lookup n' = some a) (hfs : ∀ p ∈ fs, p.2.cls = .none) :
    ∃ g', Keep g g' ∧ Wc g' env m cm fs h ∧ ∀ a vs n, h.get? a = some (listOf vs n) → g'.get? a = some (listOf vs n) := by
  obtain ⟨g', kg, c', up⟩ := c.rebase hk
  refine ⟨g', kg, c', fun a vs n e => up a _ e (fun q => ?_) (fun x q => ?_) (fun p hp q => ?_)⟩
  · obtain ⟨o, es, ep, e', ed, _⟩ := c.ns
    rw [← q, e] at e'; cases e'; cases ed
  · obtain ⟨o, e', ed⟩ := (c.cell x a q).1
    rw [e] at e'; cases e'; cases ed
  · have e' := (c.fo p hp).1
    rw [q, e] at e'
    have z := hfs p hp
    rw [← Option.some.inj e'] at z
    cases z
theorem Told.up {g h : Heap} {l : Addr} {a b : Nat → Int} {r : Nat → Nat} {tl : List (Nat × Nat)} (t : Told h l a b r tl) (up : ∀ a vs n, h.get? a = some (listOf vs n) → g.get? a = some (listOf vs n)) : Told g l a b r tl := by
  obtain ⟨i, p, ts, n, e, hl, ht⟩ := t
  refine ⟨i, p, ts, n, up _ _ _ e, hl, fun j q x e1 e2 => ?_⟩
  obtain ⟨t1, t2, n', e'⟩ := ht j q x e1 e2
  exact ⟨t1, t2, n', up _ _ _ e'⟩
set_option maxHeartbeats 400000 in
theorem l6_c {w : World} {A : Around} {s : Shared} {g : Heap} {L : Addr} {m cm : Str → Option Value} {fs : List (Addr × Obj)} {lw ls : Addr} {a b : Nat → Int} {r : Nat → Nat} {Q : Flow → Shared → Prop} {E : Value → Shared → Prop}
    (hA : Low A 22) (B : Amb w g) (c : Wc g (lEnv w.params L) m cm ((51, tabObj #[]) :: fs) s.heap) (hfs : ∀ p ∈ fs, p.2.cls = .none) (sp : SpAt g ls a b) (W : WrAt g lw (fun i => wS i (r i))) (S : Sp a b) (hr : ∀ k, r k < 8)
    (hmw : m (Str.ofString "writings") = some (.ref lw)) (hcs : cm (Str.ofString "speeds") = some (.ref ls))
    (k : ∀ g' D tl vs h' t', Keep g g' → Told g' D a b r tl → Wc g' (lEnv w.params L) (fun y => if y = Str.ofString "woven" then some (.ref D) else m y) cm ((51, tabObj vs) :: fs) h' → Q .next { s with heap := h', toks := t' }) :
    wpAny (model PP w) A (exec (lB 6) (lEnv w.params L)) Q E s := by
  obtain ⟨p1, p2, p3, p4, p5, p6, e⟩ := lB6
  obtain ⟨h0, gg, dd, tt, oo⟩ := s
  dsimp only at *
  rw [e]
  have h51 : h0.get? 51 = some (tabObj #[]) := c.at 0 rfl
  have g51 : g.get? 51 = none := (c.fo (51, tabObj #[]) (List.mem_cons_self ..)).2.1
  have kh : Keep g (h0.hide 51) := fun b o e => (Heap.hide_ne h0 (fun q => by rw [q, g51] at e; cases e)).trans (c.old b o e)
  refine wpAny_Assign_Name ?_ (by kernel_rfl!)
  refine Call_ ?_
  refine nm_glob B c.old (v := .ref 126) (ad126 _) ?_ (le_kind _ _) (lk_g _ _ _ (by kernel_rfl!)) (le_glob _ _)
  refine cw_static (f := 126) B rfl rfl ?_
  refine args_cons ?_
  refine wn_l c hmw ?_ (le_kind _ _) (by kernel_rfl!)
  refine args_cons ?_
  refine wn_c c (lk_speeds _ _) hcs ?_ (le_kind _ _) (by kernel_rfl!)
  refine args_nil ⟨c.old, ?_⟩
  refine noE (woven_c hA (B.keep kh) h51 (sp.keep kh) (W.keep kh) S hr ?_)
  rintro l h1 t1 tl k1 ⟨vs, e51⟩ tdl
  have x1 : Heap.ExtBut 51 h0 h1 := fun b o ne e => k1 b o ((Heap.hide_ne h0 ne).trans e)
  have c1 : Wc g (lEnv w.params L) m cm ((51, tabObj vs) :: fs) h1 := c.ext 0 rfl x1 e51
  obtain ⟨g2, kg2, c2, up⟩ := c1.upLists (le_cells_ok _ _) (fun p hp => by
    rcases List.mem_cons.mp hp with rfl | hp
    · rfl
    · exact hfs p hp)
  refine ws_l c2 ?_ (le_kind _ _) (by kernel_rfl!)
  intro h3 c3
  exact k g2 l tl vs h3 _ kg2 (tdl.up up) c3
noncomputable def pieceD (r : Nat → Nat) (p : Nat × Nat) : PyData := .list [.int (p.1 : Int), .str ⟨(pc p.1 (r p.1) p.2).toArray⟩]
theorem told_reads {h : Heap} {r : Nat → Nat} : ∀ {ts : List Addr} {tl : List (Nat × Nat)}, ts.length = tl.length → (∀ (i : Nat) q p, ts[i]? = some q → tl[i]? = some p → ToldAt h q p.1 (pc p.1 (r p.1) p.2)) → ∃ as, ReadsAll h (ts.map Value.ref) (tl.map (pieceD r)) as
  | [], [], _, _ => ⟨[], .nil⟩
  | [], _ :: _, hl, _ => by simp at hl
  | _ :: _, [], hl, _ => by simp at hl
  | q :: ts, p :: tl, hl, ht => by
    obtain ⟨as, ih⟩ := told_reads (ts := ts) (tl := tl) (by simpa using hl) (fun i q' p' e1 e2 => ht (i + 1) q' p' (by simpa using e1) (by simpa using e2))
    obtain ⟨t1, t2, n, e⟩ := ht 0 q p rfl rfl
    exact ⟨_, .cons (.list e rfl rfl (.cons (.int _ _) (.cons (.str _ _) .nil))) ih⟩
theorem wr_ok : ((List.range 5).all fun k => sgL.all fun c => PyData.strOk ⟨(wr k c).toArray⟩) = true := by kernel_rfl
theorem pc_ok {r : Nat → Nat} {p : Nat × Nat} (h : p.1 < 5) : PyData.strOk ⟨(pc p.1 (r p.1) p.2).toArray⟩ = true := by
  have z := wr_ok
  rw [List.all_eq_true] at z
  have z := z p.1 (List.mem_range.mpr h)
  rw [List.all_eq_true] at z
  exact z _ (sg_mem _ _)
theorem piece_data {r : Nat → Nat} : ∀ {tl : List (Nat × Nat)}, (∀ p ∈ tl, p.1 < 5) → PyData.canLayAll0 (tl.map (pieceD r)) = true ∧ PyData.depthAll (tl.map (pieceD r)) ≤ 1 ∧ PyData.eqvAll (tl.map (pieceD r)) (tl.map (pieceD r)) = true
  | [], _ => ⟨by simp [PyData.canLayAll0], by simp [PyData.depthAll], by simp [PyData.eqvAll]⟩
  | p :: tl, h => by
    obtain ⟨h1, h2, h3⟩ := piece_data (r := r) (tl := tl) (fun q hq => h q (List.mem_cons_of_mem _ hq))
    have ok := pc_ok (r := r) (h p (List.mem_cons_self ..))
    refine ⟨?_, ?_, ?_⟩
    · simp only [List.map_cons, PyData.canLayAll0, pieceD, PyData.canLay0, ok, h1, Bool.and_true, Bool.true_and]
    · simp only [List.map_cons, PyData.depthAll, pieceD, PyData.depth]; omega
    · simp only [List.map_cons, PyData.eqvAll, pieceD, PyData.eqv, h3, beq_self_eq_true, Bool.and_true, Bool.true_and]
theorem piece_shaped {r : Nat → Nat} {tl : List (Nat × Nat)} (h : ∀ p ∈ tl, p.1 < 5) : shaped (.list (tl.map (pieceD r))) = true := by
  obtain ⟨h1, h2, _⟩ := piece_data (r := r) h
  show (PyData.canLay0 (.list (tl.map (pieceD r))) && decide (PyData.depth (.list (tl.map (pieceD r))) ≤ 64)) = true
  rw [Bool.and_eq_true]
  exact ⟨by simp only [PyData.canLay0]; exact h1, decide_eq_true (by simp only [PyData.depth]; omega)⟩
theorem l7_c {w : World} {A : Around} {s : Shared} {g : Heap} {L : Addr} {m cm : Str → Option Value} {fs : List (Addr × Obj)} {D1 D2 : Addr} {r : Nat → Nat} {tl : List (Nat × Nat)} {n₀ : Nat} {Q : Flow → Shared → Prop} {E : Value → Shared → Prop}
    (hA : Low A n₀) (c : Wc g (lEnv w.params L) m cm fs s.heap) (h5 : ∀ p ∈ tl, p.1 < 5) (hw : DueAt g D1 r tl) (hd : DueAt g D2 r tl)
    (h1 : m (Str.ofString "woven") = some (.ref D1)) (h2 : m (Str.ofString "due") = some (.ref D2)) (k : Q .next s) :
    wpAny (model PP w) A (exec (lB 7) (lEnv w.params L)) Q E s := by
  obtain ⟨p1, p2, p3, p4, p5, p6, e⟩ := lB7
  rw [e]
  have rd : ∀ {D : Addr}, DueAt g D r tl → ∃ as, Reads s.heap (.ref D) (.list (tl.map (pieceD r))) as := by
    rintro D ⟨ts, n, e, hl, ht⟩
    obtain ⟨as, ra⟩ := told_reads (h := s.heap) hl (fun i q p e1 e2 => (ht i q p e1 e2).keep c.old)
    exact ⟨_, .list (c.old _ _ e) rfl rfl ra⟩
  obtain ⟨as1, r1⟩ := rd hw
  obtain ⟨as2, r2⟩ := rd hd
  refine wpAny_If ?_
  refine wpAny_isTrue_Compare1 ?_
  refine wn_l c h1 ?_ (le_kind _ _) (by kernel_rfl!)
  refine wn_l c h2 ?_ (le_kind _ _) (by kernel_rfl!)
  refine ne_dataH r1 r2 (piece_shaped h5) (piece_shaped h5) (by have := hA.un; show A.units + 64 < 9900; omega) ?_
  have z : PyData.eqv (.list (tl.map (pieceD r))) (.list (tl.map (pieceD r))) = true := by simp only [PyData.eqv]; exact (piece_data h5).2.2
  rw [z]
  refine wpAny_truthy_bool ?_
  rw [if_neg (by decide)]
  exact wpAny_execs_nil k
end Mine
end
section
open PySem PySem.W PySem.W.X PyProof.Rows PySem.Calls
set_option Elab.async false
set_option maxRecDepth 100000
set_option linter.unusedVariables false
set_option pp.maxSteps 500
namespace Mine
/-- the scope of [piece for hand, piece in ..] -/
structure PcScp (sc : Scope) : Prop where
  names : sc.names = [(Str.ofString ".0", .local), (Str.ofString "hand", .local), (Str.ofString "piece", .local)]
  kind : sc.kind = .function
section
variable {sc : Scope}
theorem PcScp.cell (z : PcScp sc) : ∀ y ∈ sc.names, y.2 ≠ .cell := by
  rw [z.names]; intro y hy
  simp only [List.mem_cons, List.not_mem_nil, or_false] at hy
  rcases hy with rfl | rfl | rfl <;> simp
theorem PcScp.look (z : PcScp sc) : ∀ y ∈ sc.names, y.2 = .local → sc.names.lookup y.1 = some .local := by
  rw [z.names]; intro y hy
  simp only [List.mem_cons, List.not_mem_nil, or_false] at hy
  rcases hy with rfl | rfl | rfl
  · intro _; kernel_rfl!
  · intro _; kernel_rfl!
  · intro _; kernel_rfl!
theorem PcScp.h (z : PcScp sc) (C : Addr) (env : Env) : (compEnvC sc [] C env).kindOf (Str.ofString "hand") = some .local :=
  lookup_relabel_local (by rw [z.names]; kernel_rfl!)
theorem PcScp.p (z : PcScp sc) (C : Addr) (env : Env) : (compEnvC sc [] C env).kindOf (Str.ofString "piece") = some .local :=
  lookup_relabel_local (by rw [z.names]; kernel_rfl!)
theorem PcScp.k (z : PcScp sc) (C : Addr) (env : Env) : (compEnvC sc [] C env).scope.kind = .function := z.kind
end
/-- assign a pair's two names from a list -/
theorem assign_list2 {w : World} {A : Around} {E : Value → Shared → Prop} {s : Shared} {env : Env} {elts : List Expr} {k} {pos : Pos} {l : Addr} {items : Array Value} {Q : Unit → Shared → Prop} (hh : A.handled = none) (hl : s.heap.IsList l items) (hn : (assignEach elts env).length = items.size)
    (hstar : (assignEach elts env).findIdx? (·.1) = none) (h : ∀ h', Heap.ExtBut s.heap.objs.size s.heap h' → wpAny (model PP w) A (assignInOrder ((assignEach elts env).map (·.2)) items.toList) Q E { s with heap := h' }) :
    wpAny (model PP w) A (assign (.Tuple elts k pos) env (.ref l)) Q E s := by
  rw [assign_Tuple]
  refine wpAny_bind (wpAny_standAt ?_)
  unfold unpack
  rw [hn, hstar]
  exact wpAny_bind (wpAny_holding (kun_itemsOf hh hl h))
/-- the pieces of a list of told ones -/
theorem pl_c {w : World} {A : Around} {E : Value → Shared → Prop} {s : Shared} {g : Heap} {env : Env} {m cm : Str → Option Value} {fs : List (Addr × Obj)} {D : Addr} {x : String} {r : Nat → Nat} {tl : List (Nat × Nat)} {n₀ : Nat} {Q : Value → Shared → Prop} {sc : Scope} {p1 p2 p3 p4 p5 p6 : Pos}
    (hA : Low A n₀) (c : Wc g env m cm fs s.heap) (hck : ∀ n a, (n, a) ∈ env.cells → ∃ n', env.cells.lookup n' = some a) (ek : env.scope.kind = .function) (ex : env.kindOf (Str.ofString x) = some .local) (hx : (Str.ofString x == ("__debug__" : Str)) = false) (Z : PcScp sc) (hclos : closureFor sc env = pure [])
    (hd : DueAt g D r tl) (h64 : tl.length ≤ 64) (hm : m (Str.ofString x) = some (.ref D))
    (k : ∀ (g' : Heap) (P : Addr) (vs : List Value) (nn : Nat) (h' : Heap) (t' : Nat), Keep g g' → vs.length = tl.length → (∀ (i : Nat) v, vs[i]? = some v → ∃ u, ∀ q, tl[i]? = some q → v = .str ⟨(pc q.1 (r q.1) q.2).toArray⟩ u) → Wc g' env m cm ((P, listOf vs.toArray nn) :: fs) h' → Q (.ref P) { s with heap := h', toks := t' }) :
    wpAny (model PP w) A (eval (.ListComp (nmE "piece" p1) [⟨.Tuple [nmE "hand" p2, nmE "piece" p3] 0 p4, nmE x p5, [], 0⟩] sc p6) env) Q E s := by
  obtain ⟨ts, n, e, hl, ht⟩ := hd
  refine lc_list (P := fun i h v => ∃ u, ∀ q, tl[i]? = some q → v = .str ⟨(pc q.1 (r q.1) q.2).toArray⟩ u) hA c hck hclos Z.cell Z.kind Z.look (PySem.IsL.isList e) (by simp; omega) (fun _ => rfl) (fun Q' hq => wn_l c hm hq ek ex hx) (fun i h h' v k z => z) ?_ ?_
  · intro i y g' C rest mC s' hy kg cc
    have hy' : (ts.map Value.ref)[i]? = some y := by simpa using hy
    obtain ⟨q, hq, rfl⟩ : ∃ q, ts[i]? = some q ∧ Value.ref q = y := by
      rw [List.getElem?_map] at hy'
      cases e : ts[i]? with
      | none => rw [e] at hy'; cases hy'
      | some q => rw [e] at hy'; exact ⟨q, rfl, Option.some.inj hy'⟩
    have il : i < tl.length := by
      rcases Nat.lt_or_ge i ts.length with z | z
      · omega
      · rw [List.getElem?_eq_none z] at hq; cases hq
    obtain ⟨p, hp⟩ : ∃ p, tl[i]? = some p := ⟨_, List.getElem?_eq_getElem il⟩
    obtain ⟨t1, t2, n', e'⟩ := ht i q p hq hp
    obtain ⟨hh, gg, dd, tt, oo⟩ := s'
    dsimp only at cc ⊢
    have hL : hh.IsList q #[.int (p.1 : Int) t1, .str ⟨(pc p.1 (r p.1) p.2).toArray⟩ t2] := PySem.IsL.isList (cc.old _ _ (kg _ _ e'))
    refine assign_list2 hA.hd hL rfl rfl (fun h6 x6 => ?_)
    have k6 : Keep hh h6 := fun b o e => x6 b o (Nat.ne_of_lt (Heap.lt_size e)) e
    have c6 := cc.keep k6
    show wpAny _ _ (assignInOrder [assign (nmE "hand" p2) (compEnvC sc [] C env), assign (nmE "piece" p3) (compEnvC sc [] C env)] [.int (p.1 : Int) t1, .str ⟨(pc p.1 (r p.1) p.2).toArray⟩ t2]) _ _ _
    refine wpAny_bind (wpAny_holding (assign_Name ?_))
    refine wpAny_storeName_local (Z.h _ _) c6.ns (fun h7 hn7 x7 => ?_) (by rw [Z.k]; rfl)
    have c7 := c6.store hn7 x7
    refine wpAny_bind (wpAny_holding (assign_Name ?_))
    refine wpAny_storeName_local (Z.p _ _) c7.ns (fun h8 hn8 x8 => ?_) (by rw [Z.k]; rfl)
    have c8 := c7.store hn8 x8
    refine wpAny_pure ?_
    dsimp only
    refine wpAny_Name (wpAny_loadName_local Z.kind (Z.p _ _) c8.ns (if_pos rfl) ?_) (by decide)
    refine ⟨g', _, h8, _, rfl, fun _ _ e => e, c8, t2, fun q hq' => ?_⟩
    rw [hp] at hq'
    cases hq'
    rfl
  · intro g' P vs nn h' t' kg vl vp cc
    exact k g' P vs nn h' t' kg (by simpa [hl] using vl) vp cc
end Mine
end
section
open PySem PySem.W PySem.W.X PyProof.Rows PySem.Calls
set_option Elab.async false
set_option maxRecDepth 100000
set_option linter.unusedVariables false
set_option pp.maxSteps 500
namespace Mine
section
variable {prog : Program} {w : World} {A : Around} {E : Value → Shared → Prop} {s : Shared}
/-- iter(v) -/
theorem iter_c {v : Value} {Q : Value → Shared → Prop} (h : wpAny (model prog w) A.in1 (pyIter v) Q E s) : wpAny (model prog w) A (call (.builtin "iter") [v]) Q E s := by
  refine call_function_entry (by decide +kernel) (by decide +kernel) kdk_entry_iter (kdk_args_iter _) ?_
  unfold Builtin.«iter»
  refine wpAny_bind (m := someArgs "iter" 1 2 _) (wpAny_of_eq (a := [v]) (by first | rfl | kernel_rfl!) ?_)
  show wpAny _ _ (pyIter v >>= _) _ _ _
  exact wpAny_bind (wpAny_mono h (fun it s' h' => wpAny_pure ⟨_, rfl, h'⟩) fun _ _ e => e)
/-- next(it) of a list's iterator -/
theorem next_c {it l : Addr} {i : Nat} {items : Array Value} {x : Value} {Q : Value → Shared → Prop} (hit : s.heap.IsListIter it l i) (hl : s.heap.IsList l items) (hx : items[i]? = some x)
    (hQ : ∀ h', h'.IsListIter it l (i + 1) → Heap.SameBut it s.heap h' → Q x { s with heap := h' }) : wpAny (model prog w) A (call (.builtin "next") [.ref it]) Q E s := by
  refine call_function_entry (by decide +kernel) (by decide +kernel) kdk_entry_next (kdk_args_next _) ?_
  unfold Builtin.«next»
  refine wpAny_bind (m := someArgs "next" 1 2 _) (wpAny_of_eq (a := [Value.ref it]) (by first | rfl | kernel_rfl!) ?_)
  dsimp only
  refine wpAny_bind (wpAny_specialOf (name := Str.ofString "__next__") hit.typeIs slot_listiter_next.lookup ?_)
  refine wpAny_ite_split (fun hab => absurd hab (by decide)) (fun _ => ?_)
  obtain ⟨o, ho, hc, hd⟩ := id hit
  obtain ⟨ol, hol, _, nl, hdl⟩ := hl
  refine wpAny_bind (wpAny_callSpecial?_slot (name := Str.ofString "__next__") hit.typeIs slot_listiter_next (wpAny_call_entry slot_listiter_next hit.typeIs entry_listiter_next ?_ (args_listiter_next _)))
  show wpAny _ _ (field (.ref it) 0 >>= _) _ _ s
  refine wpAny_bind (wpAny_field ho hd (x := .ref l) rfl ?_)
  refine wpAny_ite_split (fun hab => absurd hab Bool.false_ne_true) (fun _ => ?_)
  show wpAny _ _ (field (.ref it) 1 >>= _) _ _ s
  refine wpAny_bind (wpAny_field ho hd (x := .int i 0) rfl ?_)
  show wpAny _ _ (seqItems? (.ref l) >>= _) _ _ s
  refine wpAny_bind (wpAny_seqItems hol hdl ?_)
  simp only [Int.toNat_natCast, hx]
  have e1 := Obj.data_mapFields hd (·.setIfInBounds 1 (rawInt ((i : Int) + 1)))
  refine wpAny_bind (wpAny_setField ho hd (by simp) (wpAny_pure ⟨x, rfl, wpAny_pure ⟨_, rfl, hQ _ ⟨_, Heap.get?_update_self _ ho (Obj.isFreed_of_fields e1), (Obj.cls_mapFields ..).trans hc, ?_⟩ (Heap.SameBut.update ..)⟩⟩))
  rw [e1]; simp [rawInt]
end
noncomputable def rdB : List Stmt := stBody (PP.main.body.getD 9 (.Pass default))
noncomputable def rS (i : Nat) : Stmt := rdB.getD i (.Pass default)
theorem rdB_eq : rdB = [rS 0, rS 1, rS 2, rS 3] := by kernel_rfl
theorem rS0 : ∃ p1 p2 p3 p4 p5, rS 0 = .Assign [nmE "it" p1] (.Call (nmE "iter" p2) [nmE "sequence" p3] [] p4) p5 := ⟨_, _, _, _, _, rfl⟩
theorem rS1 : ∃ hd p1 p2 p3 p4 p5 p6 p7 p8 p9 p10 p11 p12 p13, rS 1 = .If (.Compare (nmE "initial" p1) [.Is] [nmE "_initial_missing" p2] p3) [.Try [.Assign [nmE "value" p4] (.Call (nmE "next" p5) [nmE "it" p6] [] p7) p8] [hd] [] [] p9] [.Assign [nmE "value" p10] (nmE "initial" p11) p12] p13 :=
  ⟨_, _, _, _, _, _, _, _, _, _, _, _, _, _, rfl⟩
theorem rS2 : ∃ p1 p2 p3 p4 p5 p6 p7 p8 p9, rS 2 = .For (nmE "element" p1) (nmE "it" p2) [.Assign [nmE "value" p3] (.Call (nmE "function" p4) [nmE "value" p5, nmE "element" p6] [] p7) p8] [] p9 := ⟨_, _, _, _, _, _, _, _, _, rfl⟩
theorem rS3 : ∃ p1 p2, rS 3 = .Return (some (nmE "value" p1)) p2 := ⟨_, _, rfl⟩
structure RdE (env : Env) : Prop where
  kind : env.scope.kind = .function
  f : env.kindOf (Str.ofString "function") = some .local
  sq : env.kindOf (Str.ofString "sequence") = some .local
  ini : env.kindOf (Str.ofString "initial") = some .local
  it : env.kindOf (Str.ofString "it") = some .local
  va : env.kindOf (Str.ofString "value") = some .local
  el : env.kindOf (Str.ofString "element") = some .local
  git : env.kindOf (Str.ofString "iter") = some .globalImplicit
  gnx : env.kindOf (Str.ofString "next") = some .globalImplicit
  gim : env.kindOf (Str.ofString "_initial_missing") = some .globalImplicit
  glob : env.globals = mainGlobals
  blt : env.builtins = builtinsNs
/-- the lists stand -/
noncomputable abbrev KeepL (h h' : Heap) : Prop := ∀ b vs n, h.get? b = some (listOf vs n) → h'.get? b = some (listOf vs n)
section
variable {w : World} {A : Around} {env : Env} {g : Heap} {gg : Array GenState} {dd : Drawn} {oo : OsState} {fa I : Addr} {of : Obj} {fd : FuncData} {fp : List Addr} {n n₀ : Nat} {P : Nat → Value → Prop} {St : Nat → Heap → Prop} {V : Nat → Heap → Value → Prop} {Q : Flow → Shared → Prop}
theorem KeepL.ns {h h' : Heap} {L : Addr} {m : Str → Option Value} (hn : h.Ns L m) (hs : Heap.SameBut L h h') : KeepL h h' := fun b vs n e => hs.extBut b _ (fun z => by
  obtain ⟨o, es, ep, e', ed, _⟩ := hn
  rw [z, e'] at e; cases e; cases ed) e
set_option maxHeartbeats 400000 in
/-- the loop and the return -/
theorem rd_loop (R : RdE env) (W : Walks PP w A I fp [I] n P St) (fL : env.locals ∉ fp) (gI : g.get? I = none) (hfo : g.get? fa = some of) (hfd : of.data = .func fd) (hSt : ∀ i h, St i h → ∀ vs k, h.get? I ≠ some (listOf vs k))
    (hV : ∀ i h h' v, KeepL h h' → V i h v → V i h' v)
    (hf : ∀ (i : Nat) (s' : Shared) (v x : Value) (Q' : Value → Shared → Prop), i < n → Keep g s'.heap → V i s'.heap v → P i x → (∀ h' t' v', Keep s'.heap h' → V (i + 1) h' v' → Q' v' { s' with heap := h', toks := t' }) → wpAny (model PP w) A (call (.ref fa) [v, x]) Q' (fun _ _ => False) s')
    {i₀ : Nat} {h : Heap} {t : Nat} {m : Str → Option Value} {v : Value} (hi : i₀ ≤ n) (F : Fr g env.locals h m) (st : St i₀ h) (mf : m (Str.ofString "function") = some (.ref fa)) (mi : m (Str.ofString "it") = some (.ref I)) (mv : m (Str.ofString "value") = some v) (hv : V i₀ h v)
    (q : ∀ h' t' v', Keep g h' → V n h' v' → Q (.ret v') ⟨h', gg, dd, t', oo⟩) : wpAny (model PP w) A (execs [rS 2, rS 3] env) Q (fun _ _ => False) ⟨h, gg, dd, t, oo⟩ := by
  obtain ⟨p1, p2, p3, p4, p5, p6, p7, p8, p9, e⟩ := rS2
  have IL : env.locals ≠ I := fun z => fL (by rw [z]; exact W.sub I (List.mem_cons_self ..))
  have frI : ∀ {h h' : Heap} {m : Str → Option Value}, Fr g env.locals h m → (∀ b o, b ∉ [I] → h.get? b = some o → h'.get? b = some o) → Fr g env.locals h' m := fun {h h' m} F k' =>
    ⟨F.ns.at' (fun o e => k' _ _ (by simp [IL]) e), fun b o e => k' b o (fun z => by rw [List.mem_singleton.mp z, gI] at e; cases e) (F.keep b o e), F.above⟩
  have klI : ∀ {h h' : Heap} {i : Nat}, St i h → (∀ b o, b ∉ [I] → h.get? b = some o → h'.get? b = some o) → KeepL h h' := fun {h h' i} st k' b vs k e => k' b _ (fun z => by
    rw [List.mem_singleton.mp z] at e; exact hSt i h st vs k e) e
  refine wpAny_execs_cons ?_
  rw [e]
  refine wpAny_For ?_
  refine fr_name (g := g) F mi ?_ R.kind R.it
  refine W.self i₀ _ _ _ st ?_
  refine codeAny_forLoop (fun k s' => ∃ (i : Nat) (h : Heap) (t : Nat) (m : Str → Option Value) (v : Value), k + i = n ∧ s' = ⟨h, gg, dd, t, oo⟩ ∧ Fr g env.locals h m ∧ St i h ∧ m (Str.ofString "function") = some (.ref fa) ∧ m (Str.ofString "value") = some v ∧ V i h v) ?_ (n - i₀)
    ⟨i₀, h, t, m, v, by omega, rfl, F, st, mf, mv, hv⟩
  clear hi F st mf mi mv hv
  rintro k s' ⟨i, h, t, m, v, hk, rfl, F, st, mf, mv, hv⟩
  rcases Nat.eq_zero_or_pos k with rfl | hk0
  · have : i = n := by omega
    subst this
    refine W.done _ _ _ st (fun h' t' k' => ?_)
    dsimp only
    refine wpAny_execs_nil ?_
    dsimp only
    have F' := frI F k'
    obtain ⟨p1, p2, e⟩ := rS3
    refine wpAny_execs_cons ?_
    rw [e]
    refine wpAny_Return_some ?_
    refine fr_name (g := g) F' mv ?_ R.kind R.va
    exact q h' t' v F'.keep (hV _ _ _ _ (klI st k') hv)
  · refine W.item i _ _ _ (by omega) st (fun x h' t' hx st' k' => ?_)
    dsimp only
    have F' := frI F k'
    have hv' := hV _ _ _ _ (klI st k') hv
    refine wpAny_assign_Name (wpAny_storeName_local R.el F'.ns (fun h2 hn2 hs2 => ?_) (by rw [R.kind]; rfl))
    have F2 := F'.set hn2 hs2
    have st2 : St (i + 1) h2 := W.frame _ _ _ st' (fun b hb o e => hs2.extBut b o (fun z => fL (z ▸ hb)) e)
    have hv2 := hV _ _ _ _ (KeepL.ns F'.ns hs2) hv'
    refine wpAny_execs_cons ?_
    refine wpAny_Assign_Name ?_
    refine Call_ ?_
    refine fr_name (g := g) F2 ((if_neg (by decide)).trans mf) ?_ R.kind R.f
    refine callWith_def hfd ?_
    refine args_cons ?_
    refine fr_name (g := g) F2 ((if_neg (by decide)).trans mv) ?_ R.kind R.va
    refine args_cons ?_
    refine fr_name (g := g) F2 (if_pos rfl) ?_ R.kind R.el
    refine args_nil ⟨F2.keep _ _ hfo, ?_⟩
    refine noE (hf i _ v x _ (by omega) F2.keep hv2 hx (fun h3 t3 v3 k3 hv3 => ?_))
    have F3 := F2.keptAll k3
    have st3 : St (i + 1) h3 := W.frame _ _ _ st2 (fun b hb o e => k3 _ _ e)
    refine wpAny_storeName_local R.va F3.ns (fun h4 hn4 hs4 => ?_) (by rw [R.kind]; rfl)
    have F4 := F3.set hn4 hs4
    have st4 : St (i + 1) h4 := W.frame _ _ _ st3 (fun b hb o e => hs4.extBut b o (fun z => fL (z ▸ hb)) e)
    have hv4 := hV _ _ _ _ (KeepL.ns F3.ns hs4) hv3
    dsimp only
    refine wpAny_execs_nil ?_
    exact ⟨k - 1, by omega, i + 1, h4, _, _, v3, by omega, rfl, F4, st4, (if_neg (by decide)).trans ((if_neg (by decide)).trans mf), if_pos rfl, hv4⟩
end
end Mine
end
section
open PySem PySem.W PySem.W.X PyProof.Rows PySem.Calls
set_option Elab.async false
set_option maxRecDepth 100000
set_option linter.unusedVariables false
set_option pp.maxSteps 500
namespace Mine
theorem ad57 (P : Params) : nsIn (Kc P) mainGlobals (Str.ofString "_initial_missing") = some (some (.ref 57)) := by kernel_rfl
noncomputable def fdR (P : Params) : FuncData := match (Kc P).lookup 65 with | some o => (match o.data with | .func f => f | _ => default) | none => default
noncomputable def objR (P : Params) : Obj := ((Kc P).lookup 65).getD default
theorem lR (P : Params) : (Kc P).lookup 65 = some (objR P) := by kernel_rfl
theorem dR (P : Params) : (objR P).data = .func (fdR P) := by kernel_rfl
theorem bR' (P : Params) : (fdR P).body = .stmts rdB := by kernel_rfl
theorem codeR (P : Params) : codeIn (Kc P) (fdR P).code (fdR P).qualname = true := by kernel_rfl
noncomputable def rEnv (P : Params) (L : Addr) : Env := callEnv (fdR P) L 65
theorem rE (P : Params) (L : Addr) : RdE (rEnv P L) := ⟨by kernel_rfl, by kernel_rfl, by kernel_rfl, by kernel_rfl, by kernel_rfl, by kernel_rfl, by kernel_rfl, by kernel_rfl, by kernel_rfl, by kernel_rfl, by kernel_rfl, by kernel_rfl⟩
theorem rE_loc (P : Params) (L : Addr) : (rEnv P L).locals = L := rfl
noncomputable abbrev rBinds (f q i : Value) : List (Str × Value) := [(Str.ofString "function", f), (Str.ofString "sequence", q), (Str.ofString "initial", i)]
theorem rLoc1 (P : Params) : (fdR P).scope.names.lookup (Str.ofString "function") = some .local := by kernel_rfl
theorem rLoc2 (P : Params) : (fdR P).scope.names.lookup (Str.ofString "sequence") = some .local := by kernel_rfl
theorem rLoc3 (P : Params) : (fdR P).scope.names.lookup (Str.ofString "initial") = some .local := by kernel_rfl
theorem rCellB (P : Params) : (fdR P).scope.names.all (fun x => x.2 != .cell) = true := by kernel_rfl
theorem rCell (P : Params) : ∀ x ∈ (fdR P).scope.names, x.2 ≠ .cell := fun x hx => by
  have := List.all_eq_true.mp (rCellB P) x hx
  simpa using this
theorem rLocs (P : Params) (f q i : Value) : ∀ x ∈ rBinds f q i, (fdR P).scope.names.lookup x.1 = some .local := by
  intro x hx
  rcases List.mem_cons.mp hx with rfl | hx
  · exact rLoc1 P
  rcases List.mem_cons.mp hx with rfl | hx
  · exact rLoc2 P
  rcases List.mem_cons.mp hx with rfl | hx
  · exact rLoc3 P
  · cases hx
noncomputable def rDf (P : Params) : Addr := match (fdR P).defaults with | .ref a => a | _ => 0
theorem rDf_eq (P : Params) : (fdR P).defaults = .ref (rDf P) := by kernel_rfl
theorem rDf_l (P : Params) : (Kc P).lookup (rDf P) = some (Obj.mk (.type "tuple") none (.seq #[.ref 57] 0) #[]) := by kernel_rfl
theorem rBind2 {w : World} {s : Shared} (X : (Kc w.params).In s.heap) (f q : Value) : BindsTo s (fdR w.params) ⟨[f, q], []⟩ (rBinds f q (.ref 57)) :=
  BindsTo.of_defaults (rDf_eq _) (X _ _ (rDf_l _)) rfl (by with_unfolding_all rfl) (by kernel_rfl)
theorem rBind3 {w : World} {s : Shared} (X : (Kc w.params).In s.heap) (f q i : Value) : BindsTo s (fdR w.params) ⟨[f, q, i], []⟩ (rBinds f q i) :=
  BindsTo.of_defaults (rDf_eq _) (X _ _ (rDf_l _)) rfl (by with_unfolding_all rfl) (by kernel_rfl)
theorem rCo (P : Params) : (fdR P).scope.isCoroutine = false := by kernel_rfl
theorem rGen (P : Params) : (fdR P).scope.isGenerator = false := by kernel_rfl
theorem rKind (P : Params) : (fdR P).scope.kind = .function := by kernel_rfl
end Mine
end
section
open PySem PySem.W PySem.W.X PyProof.Rows PySem.Calls
set_option Elab.async false
set_option maxRecDepth 100000
set_option linter.unusedVariables false
set_option pp.maxSteps 500
namespace Mine
section
variable {w : World} {A : Around} {n₀ : Nat} {s : Shared} {fa : Addr} {of : Obj} {fd : FuncData} {V : Nat → Heap → Value → Prop} {Q : Value → Shared → Prop}
set_option maxHeartbeats 400000 in
/-- reduce(f, list) -/
theorem rdl_c {l : Addr} {items : Array Value} (hA : Low A (n₀ + 1)) (B : Amb w s.heap) (hl : s.heap.IsList l items) (h1 : 1 ≤ items.size) (hfo : s.heap.get? fa = some of) (hfd : of.data = .func fd)
    (hV : ∀ i h h' v, KeepL h h' → V i h v → V i h' v) (hv0 : ∀ h x, items[0]? = some x → V 1 h x)
    (hf : ∀ (A' : Around) (i : Nat) (s' : Shared) (v x : Value) (Q' : Value → Shared → Prop), Low A' n₀ → i < items.size → Keep s.heap s'.heap → V i s'.heap v → items[i]? = some x → (∀ h' t' v', Keep s'.heap h' → V (i + 1) h' v' → Q' v' { s' with heap := h', toks := t' }) → wpAny (model PP w) A' (call (.ref fa) [v, x]) Q' (fun _ _ => False) s')
    (q : ∀ h' t' v', Keep s.heap h' → V items.size h' v' → Q v' { s with heap := h', toks := t' }) : wpAny (model PP w) A (call (.ref 65) [.ref fa, .ref l]) Q (fun _ _ => False) s := by
  obtain ⟨Bd, hBd⟩ : ∃ Bd, Bd = rdB := ⟨_, rfl⟩
  refine call_static (n := n₀) (a := 65) (body := Bd) hA B.X (lR _) (dR _) (codeR _) (by rw [hBd]; exact bR' _) (rBind2 B.X _ _) (rCell _) (rLocs _ _ _ _) ?_ (rCo _) (rGen _) (rKind _)
  intro A' h₀ L hA' F
  obtain ⟨g, gg, dd, tt, oo⟩ := s
  dsimp only at *
  have R := rE w.params L
  rw [show callEnv (fdR w.params) L 65 = rEnv w.params L from rfl]
  have m1 : (fun x => (rBinds (.ref fa) (.ref l) (.ref 57)).reverse.lookup x) (Str.ofString "function") = some (.ref fa) := by kernel_rfl!
  have m2 : (fun x => (rBinds (.ref fa) (.ref l) (.ref 57)).reverse.lookup x) (Str.ofString "sequence") = some (.ref l) := by kernel_rfl!
  have m3 : (fun x => (rBinds (.ref fa) (.ref l) (.ref 57)).reverse.lookup x) (Str.ofString "initial") = some (.ref 57) := by kernel_rfl!
  generalize (fun x => (rBinds (.ref fa) (.ref l) (.ref 57)).reverse.lookup x) = m at F m1 m2 m3
  generalize tt + (rBinds (.ref fa) (.ref l) (.ref 57)).length = t0
  change Fr g (rEnv w.params L).locals h₀ m at F
  generalize rEnv w.params L = env at R F ⊢
  rw [hBd, rdB_eq]
  refine wpAny_execs_cons ?_
  obtain ⟨p1, p2, p3, p4, p5, e⟩ := rS0
  rw [e]
  refine wpAny_Assign_Name ?_
  refine Call_ ?_
  refine nm_built B F.keep (by kernel_rfl) (v := .builtin "iter") boot_iter ?_ (by decide) R.kind R.git R.glob R.blt
  refine PyProof.Rows.callWith_builtin1 ?_
  refine args_cons ?_
  refine fr_name (g := g) F m2 ?_ R.kind R.sq
  refine args_nil ?_
  refine iter_c ?_
  have il : ∀ {h' : Heap}, Keep g h' → h'.IsList l items := fun {h'} k => by
    obtain ⟨o, ho, hc, nn, hd⟩ := hl
    exact ⟨o, k _ _ ho, hc, nn, hd⟩
  obtain ⟨ol, hol, _⟩ := id hl
  have ll : (l : Nat) < g.objs.size := Heap.lt_size hol
  have Fa : g.objs.size ≤ (env.locals : Nat) := F.above
  have Fn : (env.locals : Nat) < h₀.objs.size := F.ns.lt
  refine wpAny_pyIter_list (il F.keep) ?_
  have hI : (h₀.push { cls := .type "list_iterator", data := .fields #[.ref l, .int 0 0] }).IsListIter h₀.objs.size l 0 := ⟨_, Heap.get?_push_size _ rfl, rfl, rfl⟩
  have k1 : Keep h₀ (h₀.push { cls := .type "list_iterator", data := .fields #[.ref l, .int 0 0] }) := fun b o e => Heap.get?_push_of_some _ e
  have gI : g.get? h₀.objs.size = none := Heap.get?_none_of_le (Nat.le_trans F.above (Nat.le_of_lt F.ns.lt))
  have IL : h₀.objs.size ≠ env.locals := Nat.ne_of_gt Fn
  have Il : h₀.objs.size ≠ l := Nat.ne_of_gt (Nat.lt_of_lt_of_le ll (Nat.le_trans F.above (Nat.le_of_lt F.ns.lt)))
  have Ll : env.locals ≠ l := Nat.ne_of_gt (Nat.lt_of_lt_of_le ll F.above)
  generalize (h₀.push { cls := .type "list_iterator", data := .fields #[.ref l, .int 0 0] }) = h1' at hI k1 ⊢
  generalize h₀.objs.size = I at hI gI IL Il ⊢
  have F1 := F.keptAll k1
  refine wpAny_storeName_local R.it F1.ns (fun h2 hn2 hs2 => ?_) (by rw [R.kind]; rfl)
  have F2 := F1.set hn2 hs2
  have hI2 : h2.IsListIter I l 0 := by obtain ⟨o, e, r⟩ := hI; exact ⟨o, hs2.extBut _ _ IL e, r⟩
  dsimp only
  refine wpAny_execs_cons ?_
  obtain ⟨hd, p1, p2, p3, p4, p5, p6, p7, p8, p9, p10, p11, p12, p13, e⟩ := rS1
  rw [e]
  refine wpAny_If ?_
  refine wpAny_isTrue_Compare1 ?_
  refine fr_name (g := g) F2 ((if_neg (by decide)).trans m3) ?_ R.kind R.ini
  refine nm_glob B F2.keep (v := .ref 57) (ad57 _) ?_ R.kind R.gim R.glob
  refine wpAny_is_ref_self ?_
  refine wpAny_truthy_bool ?_
  rw [if_pos rfl]
  refine wpAny_execs_cons ?_
  refine wpAny_Try_except ?_
  refine noE ?_
  refine wpAny_execs_cons ?_
  refine wpAny_Assign_Name ?_
  refine Call_ ?_
  refine nm_built B F2.keep (by kernel_rfl) (v := .builtin "next") boot_next ?_ (by decide) R.kind R.gnx R.glob R.blt
  refine PyProof.Rows.callWith_builtin1 ?_
  refine args_cons ?_
  refine fr_name (g := g) F2 (if_pos rfl) ?_ R.kind R.it
  refine args_nil ?_
  obtain ⟨x, hx⟩ : ∃ x, items[0]? = some x := ⟨_, Array.getElem?_eq_getElem (by omega)⟩
  refine next_c hI2 (il F2.keep) hx (fun h3 hI3 hs3 => ?_)
  have F3 : Fr g env.locals h3 _ := ⟨F2.ns.sameBut hs3 (Ne.symm IL), fun b o e => hs3.extBut b o (fun z => by rw [z, gI] at e; cases e) (F2.keep b o e), F2.above⟩
  refine wpAny_storeName_local R.va F3.ns (fun h4 hn4 hs4 => ?_) (by rw [R.kind]; rfl)
  have F4 := F3.set hn4 hs4
  have hI4 : h4.IsListIter I l 1 := by obtain ⟨o, e, r⟩ := hI3; exact ⟨o, hs4.extBut _ _ IL e, r⟩
  dsimp only
  refine wpAny_execs_nil ?_
  dsimp only
  refine wpAny_execs_nil ?_
  dsimp only
  refine wpAny_execs_nil ?_
  dsimp only
  have W : Walks PP w A' I [I, l] [I] items.size (fun i v => items[i]? = some v) (fun i h => h.IsListIter I l i ∧ h.IsList l items) := Walks.list hA'.hd I l (Ne.symm Il) items
  refine rd_loop (gg := gg) (dd := dd) (oo := oo) R W ?_ gI hfo hfd ?_ hV (fun i s' v x Q' => hf A' i s' v x Q' hA') h1 F4 ⟨hI4, il F4.keep⟩ ?_ ?_ (if_pos rfl) (hv0 _ _ hx) (fun h' t' v' k' v'' => q h' t' v' k' v'')
  · intro hm
    rcases List.mem_cons.mp hm with z | hm
    · exact IL z.symm
    · exact Ll (List.mem_singleton.mp hm)
  · rintro i h ⟨⟨o, e, hc, _⟩, _⟩ vs k e'
    rw [e] at e'; cases e'; simp at hc
  · exact (if_neg (by decide)).trans ((if_neg (by decide)).trans m1)
  · exact (if_neg (by decide)).trans (if_pos rfl)
set_option maxHeartbeats 400000 in
/-- reduce(f, text, start) -/
theorem rds_c {x : Str} {tx : Tok} {i0 : Addr} {v0 : Array Value} {nn : Nat} (hA : Low A (n₀ + 1)) (B : Amb w s.heap) (hx : x.cps.all (· < 128) = true) (hi0 : s.heap.get? i0 = some (listOf v0 nn)) (hfo : s.heap.get? fa = some of) (hfd : of.data = .func fd)
    (hV : ∀ i h h' v, KeepL h h' → V i h v → V i h' v) (hv0 : V 0 s.heap (.ref i0))
    (hf : ∀ (A' : Around) (i : Nat) (s' : Shared) (v y : Value) (Q' : Value → Shared → Prop), Low A' n₀ → i < x.cps.size → Keep s.heap s'.heap → V i s'.heap v → SignAt x i y → (∀ h' t' v', Keep s'.heap h' → V (i + 1) h' v' → Q' v' { s' with heap := h', toks := t' }) → wpAny (model PP w) A' (call (.ref fa) [v, y]) Q' (fun _ _ => False) s')
    (q : ∀ h' t' v', Keep s.heap h' → V x.cps.size h' v' → Q v' { s with heap := h', toks := t' }) : wpAny (model PP w) A (call (.ref 65) [.ref fa, .str x tx, .ref i0]) Q (fun _ _ => False) s := by
  obtain ⟨Bd, hBd⟩ : ∃ Bd, Bd = rdB := ⟨_, rfl⟩
  refine call_static (n := n₀) (a := 65) (body := Bd) hA B.X (lR _) (dR _) (codeR _) (by rw [hBd]; exact bR' _) (rBind3 B.X _ _ _) (rCell _) (rLocs _ _ _ _) ?_ (rCo _) (rGen _) (rKind _)
  intro A' h₀ L hA' F
  obtain ⟨g, gg, dd, tt, oo⟩ := s
  dsimp only at *
  have R := rE w.params L
  rw [show callEnv (fdR w.params) L 65 = rEnv w.params L from rfl]
  have m1 : (fun y => (rBinds (.ref fa) (.str x tx) (.ref i0)).reverse.lookup y) (Str.ofString "function") = some (.ref fa) := by kernel_rfl!
  have m2 : (fun y => (rBinds (.ref fa) (.str x tx) (.ref i0)).reverse.lookup y) (Str.ofString "sequence") = some (.str x tx) := by kernel_rfl!
  have m3 : (fun y => (rBinds (.ref fa) (.str x tx) (.ref i0)).reverse.lookup y) (Str.ofString "initial") = some (.ref i0) := by kernel_rfl!
  have o57 : ∃ o, (Kc w.params).lookup 57 = some o ∧ o.cls ≠ .type "list" := ⟨_, rfl, by decide⟩
  generalize (fun y => (rBinds (.ref fa) (.str x tx) (.ref i0)).reverse.lookup y) = m at F m1 m2 m3
  generalize tt + (rBinds (.ref fa) (.str x tx) (.ref i0)).length = t0
  change Fr g (rEnv w.params L).locals h₀ m at F
  generalize rEnv w.params L = env at R F ⊢
  rw [hBd, rdB_eq]
  refine wpAny_execs_cons ?_
  obtain ⟨p1, p2, p3, p4, p5, e⟩ := rS0
  rw [e]
  refine wpAny_Assign_Name ?_
  refine Call_ ?_
  refine nm_built B F.keep (by kernel_rfl) (v := .builtin "iter") boot_iter ?_ (by decide) R.kind R.git R.glob R.blt
  refine PyProof.Rows.callWith_builtin1 ?_
  refine args_cons ?_
  refine fr_name (g := g) F m2 ?_ R.kind R.sq
  refine args_nil ?_
  refine iter_c ?_
  have Fa : g.objs.size ≤ (env.locals : Nat) := F.above
  have Fn : (env.locals : Nat) < h₀.objs.size := F.ns.lt
  refine wpAny_pyIter_ascii hx ?_
  have st0 : (h₀.push { cls := .type "str_ascii_iterator", data := .fields #[.str x tx, .int 0 0] }).IsStrIter h₀.objs.size "str_ascii_iterator" x tx 0 := ⟨_, Heap.get?_push_size _ rfl, rfl, rfl⟩
  have k1 : Keep h₀ (h₀.push { cls := .type "str_ascii_iterator", data := .fields #[.str x tx, .int 0 0] }) := fun b o e => Heap.get?_push_of_some _ e
  have gI : g.get? h₀.objs.size = none := Heap.get?_none_of_le (Nat.le_trans F.above (Nat.le_of_lt F.ns.lt))
  have IL : h₀.objs.size ≠ env.locals := Nat.ne_of_gt Fn
  generalize (h₀.push { cls := .type "str_ascii_iterator", data := .fields #[.str x tx, .int 0 0] }) = h1' at st0 k1 ⊢
  generalize h₀.objs.size = I at st0 gI IL ⊢
  have F1 := F.keptAll k1
  have li0 : i0 < (g.objs.size : Nat) := Heap.lt_size hi0
  refine wpAny_storeName_local R.it F1.ns (fun h2 hn2 hs2 => ?_) (by rw [R.kind]; rfl)
  have F2 := F1.set hn2 hs2
  have W' := Walks.strAscii (prog := PP) (w := w) hA'.hd I x tx
  have st2 : h2.IsStrIter I "str_ascii_iterator" x tx 0 := W'.frame _ _ _ st0 (fun b hb o e => hs2.extBut b o (fun z => IL ((List.mem_singleton.mp hb).symm.trans z)) e)
  dsimp only
  refine wpAny_execs_cons ?_
  obtain ⟨hd, p1, p2, p3, p4, p5, p6, p7, p8, p9, p10, p11, p12, p13, e⟩ := rS1
  rw [e]
  refine wpAny_If ?_
  refine wpAny_isTrue_Compare1 ?_
  refine fr_name (g := g) F2 ((if_neg (by decide)).trans m3) ?_ R.kind R.ini
  refine nm_glob B F2.keep (v := .ref 57) (ad57 _) ?_ R.kind R.gim R.glob
  obtain ⟨o5, e5, n5⟩ := o57
  have g57 := B.X _ _ e5
  have ne57 : i0 ≠ 57 := fun z => by rw [z, g57] at hi0; cases hi0; exact n5 rfl
  refine wpAny_is_ref_other ne57 (F2.keep _ _ hi0) (F2.keep _ _ g57) (by simp) ?_
  refine wpAny_truthy_bool ?_
  rw [if_neg (by decide)]
  refine wpAny_execs_cons ?_
  refine wpAny_Assign_Name ?_
  refine fr_name (g := g) F2 ((if_neg (by decide)).trans m3) ?_ R.kind R.ini
  refine wpAny_storeName_local R.va F2.ns (fun h4 hn4 hs4 => ?_) (by rw [R.kind]; rfl)
  have F4 := F2.set hn4 hs4
  have st4 : h4.IsStrIter I "str_ascii_iterator" x tx 0 := W'.frame _ _ _ st2 (fun b hb o e => hs4.extBut b o (fun z => IL ((List.mem_singleton.mp hb).symm.trans z)) e)
  dsimp only
  refine wpAny_execs_nil ?_
  dsimp only
  refine rd_loop (gg := gg) (dd := dd) (oo := oo) R W' ?_ gI hfo hfd ?_ hV (fun i s' v y Q' => hf A' i s' v y Q' hA') (Nat.zero_le _) F4 st4 ?_ ?_ (if_pos rfl) (hV _ _ _ _ (fun b vs k e => F4.keep _ _ e) hv0) (fun h' t' v' k' v'' => q h' t' v' k' v'')
  · intro hm
    exact IL (List.mem_singleton.mp hm).symm
  · rintro i h ⟨o, e, hc, _⟩ vs k e'
    rw [e] at e'; cases e'; simp at hc
  · exact (if_neg (by decide)).trans ((if_neg (by decide)).trans m1)
  · exact (if_neg (by decide)).trans (if_pos rfl)
end
end Mine
end
section
open PySem PySem.W PySem.W.X PyProof.Rows PySem.Calls
set_option Elab.async false
set_option maxRecDepth 100000
set_option linter.unusedVariables false
set_option pp.maxSteps 500
namespace Mine
noncomputable def uB : List Stmt := stBody (PP.main.body.getD 21 (.Pass default))
noncomputable def uS (i : Nat) : Stmt := uB.getD i (.Pass default)
theorem uB_eq : uB = [uS 0, uS 1, uS 2, uS 3, uS 4] := by kernel_rfl
noncomputable def namesP : List (Str × Str) := [sP "&amp;" "&", sP "&lt;" "<", sP "&gt;" ">", sP "&quot;" "\""]
noncomputable def numbP : List (Str × Str) := [sP "&#13;" "\r", sP "&#10;" "\n", sP "&#09;" "\t", sP "&#xD;" "\r", sP "&#xA;" "\n", sP "&#x9;" "\t"]
theorem uS0 : ∃ ks vs p1 p2 p3, uS 0 = .Assign [nmE "names" p1] (.Dict ks vs p2) p3 ∧ AllPr ks vs namesP ∧ ks ≠ [] ∧ ks.length ≤ 15 := ⟨_, _, _, _, _, rfl, .cons (.cons (.cons (.cons .nil))), List.cons_ne_nil _ _, Nat.le_of_ble_eq_true rfl⟩
theorem uS1 : ∃ ks vs p1 p2 p3, uS 1 = .Assign [nmE "numbers" p1] (.Dict ks vs p2) p3 ∧ AllPr ks vs numbP ∧ ks ≠ [] ∧ ks.length ≤ 15 := ⟨_, _, _, _, _, rfl, .cons (.cons (.cons (.cons (.cons (.cons .nil))))), List.cons_ne_nil _ _, Nat.le_of_ble_eq_true rfl⟩
theorem nodup_names : (namesP.map (·.1)).Nodup := by decide
theorem nodup_numb : (numbP.map (·.1)).Nodup := by decide
noncomputable abbrev stE (i : Int) (a b c : Pos) : Expr := .Subscript (nmE "state" a) (.Constant (.int i) 0 b) c
theorem uS2 : ∃ p1 p2 p3 p4 p5 p6 p7 p8 p9 p10 p11 p12 p13 p14 p15 p16 p17 p18, uS 2 = .If (.BoolOp .And [.Compare (stE 1 p1 p2 p3) [.Eq] [csE "" p4] p5, .Compare (nmE "sign" p6) [.NotEq] [csE "&" p7] p8] p9)
    [.Return (some (.List [.BinOp (stE 0 p10 p11 p12) .Add (nmE "sign" p13) p14, csE "" p15] p16)) p17] [] p18 := ⟨_, _, _, _, _, _, _, _, _, _, _, _, _, _, _, _, _, _, rfl⟩
theorem uS3 : ∃ p1 p2 p3 p4 p5 p6 p7 p8 p9 p10 p11 p12 p13 p14, uS 3 = .If (.Compare (nmE "sign" p1) [.NotEq] [csE ";" p2] p3) [.Return (some (.List [stE 0 p4 p5 p6, .BinOp (stE 1 p7 p8 p9) .Add (nmE "sign" p10) p11] p12)) p13] [] p14 := ⟨_, _, _, _, _, _, _, _, _, _, _, _, _, _, rfl⟩
theorem uS4 : ∃ p1 p2 p3 p4 p5 p6 p7 p8 p9 p10 p11 p12 p13 p14 p15 p16 p17 p18 p19 p20 p21 p22 p23 p24, uS 4 = .Return (some (.List [.BinOp (stE 0 p1 p2 p3) .Add (.Call (.Attribute (nmE "names" p4) (Str.ofString "get") p5) [.BinOp (stE 1 p6 p7 p8) .Add (nmE "sign" p9) p10,
    .Call (.Attribute (nmE "numbers" p11) (Str.ofString "get") p12) [.BinOp (stE 1 p13 p14 p15) .Add (nmE "sign" p16) p17, csE "?" p18] [] p19] [] p20) p21, csE "" p22] p23)) p24 ∧ p5.endLine = p20.line ∧ p12.endLine = p19.line := ⟨_, _, _, _, _, _, _, _, _, _, _, _, _, _, _, _, _, _, _, _, _, _, _, _, rfl, rfl, rfl⟩
noncomputable abbrev mkS (l : List Nat) : Str := ⟨l.toArray⟩
theorem mk_add (a b : List Nat) : mkS a ++ mkS b = mkS (a ++ b) := by
  show (⟨a.toArray ++ b.toArray⟩ : Str) = _
  simp
/-- a reference's sign -/
noncomputable def lookS (y : List Nat) : Str := match namesP.lookup (mkS y) with | some v => v | none => (match numbP.lookup (mkS y) with | some v => v | none => Str.ofString "?")
noncomputable def lookN (y : List Nat) : List Nat := (lookS y).cps.toList
theorem look_eq (y : List Nat) : lookS y = mkS (lookN y) := by
  unfold lookN mkS
  cases lookS y
  simp
theorem names_one : ∀ p ∈ namesP, p.2.cps.toList.length ≤ 1 := by decide
theorem numb_one : ∀ p ∈ numbP, p.2.cps.toList.length ≤ 1 := by decide
theorem look_len (y : List Nat) : (lookN y).length ≤ 1 := by
  unfold lookN lookS
  cases e : namesP.lookup (mkS y) with
  | some v => exact names_one _ (mem_of_lookup e)
  | none =>
    dsimp only
    cases e2 : numbP.lookup (mkS y) with
    | some v => exact numb_one _ (mem_of_lookup e2)
    | none => dsimp only; decide
/-- one sign read -/
noncomputable def rdStep (s : List Nat × List Nat) (c : Nat) : List Nat × List Nat :=
  if s.2 = [] ∧ c ≠ 38 then (s.1 ++ [c], []) else if c ≠ 59 then (s.1, s.2 ++ [c]) else (s.1 ++ lookN (s.2 ++ [c]), [])
/-- a reader's state -/
noncomputable def StateV (o p : List Nat) (h : Heap) (v : Value) : Prop := ∃ a t u n, v = .ref a ∧ h.get? a = some (listOf #[.str (mkS o) t, .str (mkS p) u] n)
theorem dget_c {w : World} {A : Around} {E : Value → Shared → Prop} {env : Env} {h : Heap} {gg : Array GenState} {dr : Drawn} {t : Nat} {os : OsState} {d : Addr} {r : List (Str × Str)} {x dv : Str} {a1 a2 : Expr} {pos : Pos} {nm : String} {p0 p : Pos} {Q : Value → Shared → Prop} (hl : p.endLine = pos.line)
    (D : SDict w h d r) (hd : (d == sysModules) = false) (hn : ∀ (Q' : Value → Shared → Prop), Q' (.ref d) ⟨h, gg, dr, t, os⟩ → wpAny (model PP w) A (eval (nmE nm p0) env) Q' E ⟨h, gg, dr, t, os⟩)
    (h1 : ∀ (t : Nat) (Q' : Value → Shared → Prop), (∀ t' u, Q' (.str x u) ⟨h, gg, dr, t', os⟩) → wpAny (model PP w) A (eval a1 env) Q' E ⟨h, gg, dr, t, os⟩)
    (h2 : ∀ (t : Nat) (Q' : Value → Shared → Prop), (∀ t' u, Q' (.str dv u) ⟨h, gg, dr, t', os⟩) → wpAny (model PP w) A (eval a2 env) Q' E ⟨h, gg, dr, t, os⟩)
    (q : ∀ t' u, Q (.str (match r.lookup x with | some v => v | none => dv) u) ⟨h, gg, dr, t', os⟩) (hs : starEach [a1, a2] env = [(false, eval a1 env), (false, eval a2 env)] := by rfl) : wpAny (model PP w) A (eval (.Call (.Attribute (nmE nm p0) (Str.ofString "get") p) [a1, a2] [] pos) env) Q E ⟨h, gg, dr, t, os⟩ := by
  refine MethodL_ hl ?_ rfl (by rw [hs]; rfl)
  rw [hs]
  refine hn _ ?_
  obtain ⟨f, hm, hf⟩ := D
  refine getMethod_builtin (Heap.MapOf.typeIs (s := ⟨h, gg, dr, t, os⟩) hm) PySem.F.plainAttrs_dict PySem.F.slot_dict_get PySem.F.type_dict_get hm.noDict ?_
  show wpAny _ _ (callWith pos (.builtin "dict.get") [.ref d] [(false, eval a1 env), (false, eval a2 env)] []) _ _ _
  refine wpAny_dict_get2 (knd := PySem.strKind PP w) hd ?_
  refine h1 _ _ (fun t1 u1 => ?_)
  refine h2 _ _ (fun t2 u2 => ?_)
  refine ⟨x, f, by simp [PySem.strKind, Value.isStrOf], hm, ?_⟩
  have z := hf x
  cases e : r.lookup x with
  | none => rw [e] at z; dsimp only at z; have q' := q (t2 + 1) u2; rw [e] at q'; rw [z]; exact q'
  | some v => rw [e] at z; dsimp only at z; obtain ⟨t', z⟩ := z; have q' := q (t2 + 1) t'; rw [e] at q'; rw [z]; exact q'
set_option maxHeartbeats 1000000 in
theorem read_b {w : World} {A' : Around} {env : Env} {g h₀ : Heap} {gg : Array GenState} {dd : Drawn} {tt : Nat} {oo : OsState} {m : Str → Option Value} {st : Addr} {o p : List Nat} {c : Nat} {t1 t2 u : Tok} {n : Nat} {Q : Flow → Shared → Prop}
    (ek : env.scope.kind = .function) (e1 : env.kindOf (Str.ofString "state") = some .local) (e2 : env.kindOf (Str.ofString "sign") = some .local) (e3 : env.kindOf (Str.ofString "names") = some .local) (e4 : env.kindOf (Str.ofString "numbers") = some .local)
    (F : Fr g env.locals h₀ m) (hm : ∃ o, g.get? sysModules = some o) (hst : g.get? st = some (listOf #[.str (mkS o) t1, .str (mkS p) t2] n)) (m1 : m (Str.ofString "state") = some (.ref st)) (m2 : m (Str.ofString "sign") = some (.str (mkS [c]) u)) (ho : o.length ≤ 1000) (hp : p.length ≤ 1000)
    (q : ∀ h' t' v', Keep g h' → StateV (rdStep (o, p) c).1 (rdStep (o, p) c).2 h' v' → Q (.ret v') ⟨h', gg, dd, t', oo⟩) {Bd : List Stmt} (hBd : Bd = uB) : wpAny (model PP w) A' (execs Bd env) Q (fun _ _ => False) ⟨h₀, gg, dd, tt, oo⟩ := by
  subst hBd
  have hmod : ∃ o, h₀.get? sysModules = some o := let ⟨o, e⟩ := hm; ⟨o, F.keep _ _ e⟩
  rw [uB_eq]
  refine wpAny_execs_cons ?_
  obtain ⟨ks0, vs0, p1, p2, p3, e, ap0, ne0, le0⟩ := uS0
  rw [e]
  refine wpAny_Assign_Name ?_
  refine sdict_c ap0 ne0 le0 nodup_names (fun d1 h1 t3 k1 n1 D1 => ?_)
  have F1 := F.keptAll k1
  have hL1 : ∃ o, h₀.get? env.locals = some o := by obtain ⟨o, es, ep, e, _⟩ := F.ns; exact ⟨o, e⟩
  have ne1 : d1 ≠ env.locals := fun z => by obtain ⟨o, e⟩ := hL1; rw [z] at n1; rw [n1] at e; cases e
  have md1 : (d1 == sysModules) = false := beq_eq_false_iff_ne.mpr fun z => by obtain ⟨o, e⟩ := hmod; rw [z] at n1; rw [n1] at e; cases e
  refine wpAny_storeName_local e3 F1.ns (fun h2 hn2 hs2 => ?_) (by rw [ek]; rfl)
  have F2 := F1.set hn2 hs2
  have D2 := D1.sameBut hs2 ne1
  dsimp only
  refine wpAny_execs_cons ?_
  obtain ⟨ks1, vs1, p1, p2, p3, e, ap1, nz1, le1⟩ := uS1
  rw [e]
  refine wpAny_Assign_Name ?_
  refine sdict_c ap1 nz1 le1 nodup_numb (fun d2 h3 t4 k3 n3 C3 => ?_)
  have F3 := F2.keptAll k3
  have D3 := D2.keep' k3
  have ne2 : d2 ≠ env.locals := fun z => by
    obtain ⟨o, es, ep, e, _⟩ := F2.ns
    rw [z] at n3; rw [n3] at e; cases e
  have md2 : (d2 == sysModules) = false := by
    refine beq_eq_false_iff_ne.mpr fun z => ?_
    obtain ⟨o, e⟩ := hmod
    have e1 := k1 _ _ e
    by_cases zL : sysModules = env.locals
    · exact ne2 (z.trans zL)
    · have e2 := hs2.extBut _ _ zL e1
      rw [← z, n3] at e2; cases e2
  refine wpAny_storeName_local e4 F3.ns (fun h4 hn4 hs4 => ?_) (by rw [ek]; rfl)
  have F4 := F3.set hn4 hs4
  have D4 := D3.sameBut hs4 ne1
  have C4 := C3.sameBut hs4 ne2
  dsimp only
  have n1' : (fun y => if y = Str.ofString "numbers" then some (Value.ref d2) else if y = Str.ofString "names" then some (Value.ref d1) else m y) (Str.ofString "state") = some (.ref st) := m1
  have n2' : (fun y => if y = Str.ofString "numbers" then some (Value.ref d2) else if y = Str.ofString "names" then some (Value.ref d1) else m y) (Str.ofString "sign") = some (.str (mkS [c]) u) := m2
  have n3' : (fun y => if y = Str.ofString "numbers" then some (Value.ref d2) else if y = Str.ofString "names" then some (Value.ref d1) else m y) (Str.ofString "names") = some (.ref d1) := rfl
  have n4' : (fun y => if y = Str.ofString "numbers" then some (Value.ref d2) else if y = Str.ofString "names" then some (Value.ref d1) else m y) (Str.ofString "numbers") = some (.ref d2) := if_pos rfl
  generalize (fun y => if y = Str.ofString "numbers" then some (Value.ref d2) else if y = Str.ofString "names" then some (Value.ref d1) else m y) = mm at F4 n1' n2' n3' n4'
  have il : h4.IsList st #[.str (mkS o) t1, .str (mkS p) t2] := PySem.IsL.isList (F4.keep _ _ hst)
  have S0 : ∀ {a b c : Pos} {t : Nat} {Q' : Value → Shared → Prop}, Q' (.str (mkS o) t1) ⟨h4, gg, dd, t + 1, oo⟩ → wpAny (model PP w) A' (eval (stE 0 a b c) env) Q' (fun _ _ => False) ⟨h4, gg, dd, t, oo⟩ := fun hq => by
    refine Subscript_ (fr_name (g := g) F4 n1' (wpAny_Constant_int ?_) ek e1)
    exact item_list il (by decide) (by decide) (x := .str (mkS o) t1) rfl hq (by with_unfolding_all rfl) (fun _ => rfl)
  have S1 : ∀ {a b c : Pos} {t : Nat} {Q' : Value → Shared → Prop}, Q' (.str (mkS p) t2) ⟨h4, gg, dd, t + 1, oo⟩ → wpAny (model PP w) A' (eval (stE 1 a b c) env) Q' (fun _ _ => False) ⟨h4, gg, dd, t, oo⟩ := fun hq => by
    refine Subscript_ (fr_name (g := g) F4 n1' (wpAny_Constant_int ?_) ek e1)
    exact item_list il (by decide) (by decide) (x := .str (mkS p) t2) rfl hq (by with_unfolding_all rfl) (fun _ => rfl)
  have S1s : ∀ {a b c' d e : Pos} {t : Nat} {Q' : Value → Shared → Prop}, (∀ t' u', Q' (.str (mkS (p ++ [c])) u') ⟨h4, gg, dd, t', oo⟩) → wpAny (model PP w) A' (eval (.BinOp (stE 1 a b c') .Add (nmE "sign" d) e) env) Q' (fun _ _ => False) ⟨h4, gg, dd, t, oo⟩ := fun hq => by
    refine wpAny_BinOp (S1 (fr_name (g := g) F4 n2' (PyProof.Rows.add_str (fun t' k => ?_) ?_) ek e2))
    · rw [mk_add]; exact hq k t'
    · rw [sizeLine_eq]; simp [Str.length]; omega
  have mkL : ∀ {x y : List Nat} {a b : Tok} {t : Nat}, (rdStep (o, p) c) = (x, y) → Q (.ret (.ref h4.objs.size)) ⟨h4.push { cls := .type "list", data := .seq [Value.str (mkS x) a, Value.str (mkS y) b].toArray }, gg, dd, t, oo⟩ := fun {x y a b t} ex => by
    refine q _ _ _ (fun b o e => Heap.get?_push_of_some _ (F4.keep _ _ e)) ⟨h4.objs.size, a, b, 0, rfl, ?_⟩
    rw [ex]
    exact Heap.get?_push_size _ rfl
  refine wpAny_execs_cons ?_
  obtain ⟨p1, p2, p3, p4, p5, p6, p7, p8, p9, p10, p11, p12, p13, p14, p15, p16, p17, p18, e⟩ := uS2
  rw [e]
  have tail : ¬ (p = [] ∧ c ≠ 38) → ∀ {t : Nat}, wpAny (model PP w) A' (execs [uS 3, uS 4] env) Q (fun _ _ => False) ⟨h4, gg, dd, t, oo⟩ := by
    intro hne t
    refine wpAny_execs_cons ?_
    obtain ⟨p1, p2, p3, p4, p5, p6, p7, p8, p9, p10, p11, p12, p13, p14, e⟩ := uS3
    rw [e]
    refine wpAny_If ?_
    refine wpAny_isTrue_Compare1 ?_
    refine fr_name (g := g) F4 n2' ?_ ek e2
    refine wpAny_Constant_str ?_
    refine PySem.P.ne_str ?_
    refine wpAny_truthy_bool ?_
    have e59 : (Str.ofString ";").cps.toList = [59] := by kernel_rfl!
    by_cases hc : c = 59
    · rw [show ((mkS [c]).cps.toList != (Str.ofString ";").cps.toList) = false from by rw [e59, hc]; rfl, if_neg (by decide)]
      refine wpAny_execs_nil ?_
      dsimp only
      refine wpAny_execs_cons ?_
      obtain ⟨p1, p2, p3, p4, p5, p6, p7, p8, p9, p10, p11, p12, p13, p14, p15, p16, p17, p18, p19, p20, p21, p22, p23, p24, e, l1, l2⟩ := uS4
      rw [e]
      refine wpAny_Return_some ?_
      refine List_ ?_
      refine args_cons ?_
      refine wpAny_BinOp ?_
      refine S0 ?_
      refine dget_c (dv := match numbP.lookup (mkS (p ++ [c])) with | some v => v | none => Str.ofString "?") l1 D4 md1 (fun Q' hq => fr_name (g := g) F4 n3' hq ek e3) (fun t Q' hq => S1s hq) (fun t Q' hq => dget_c l2 C4 md2 (fun Q' hq => fr_name (g := g) F4 n4' hq ek e4) (fun t Q' hq => S1s hq) (fun t Q' hq => wpAny_Constant_str (hq _ _)) hq) (fun t' u' => ?_)
      have el : (match namesP.lookup (mkS (p ++ [c])) with | some v => v | none => (match numbP.lookup (mkS (p ++ [c])) with | some v => v | none => Str.ofString "?")) = mkS (lookN (p ++ [c])) := look_eq _
      rw [el]
      have ll := look_len (p ++ [c])
      refine PyProof.Rows.add_str (fun t'' k => ?_) (by rw [sizeLine_eq]; simp [Str.length]; omega)
      rw [mk_add]
      refine args_cons ?_
      refine wpAny_Constant_str ?_
      refine args_nil ?_
      refine wpAny_newList ?_
      dsimp only
      have em : Str.ofString "" = mkS [] := by kernel_rfl!
      rw [em]
      refine mkL ?_
      unfold rdStep
      rw [if_neg hne, if_neg (by simp [hc])]
    · rw [show ((mkS [c]).cps.toList != (Str.ofString ";").cps.toList) = true from by rw [e59]; simp [hc], if_pos rfl]
      refine wpAny_execs_cons ?_
      refine wpAny_Return_some ?_
      refine List_ ?_
      refine args_cons ?_
      refine S0 ?_
      refine args_cons ?_
      refine S1s (fun t' u' => ?_)
      refine args_nil ?_
      refine wpAny_newList ?_
      dsimp only
      refine mkL ?_
      unfold rdStep
      rw [if_neg hne, if_pos hc]
  refine wpAny_If ?_
  refine isTrue_and ?_
  refine wpAny_isTrue_Compare1 ?_
  refine S1 ?_
  refine wpAny_Constant_str ?_
  refine PySem.P.eq_str ?_
  refine wpAny_truthy_bool ?_
  have e0 : (Str.ofString "").cps.toList = [] := by kernel_rfl!
  have e38 : (Str.ofString "&").cps.toList = [38] := by kernel_rfl!
  by_cases hp0 : p = []
  · rw [show ((mkS p).cps.toList == (Str.ofString "").cps.toList) = true from by rw [e0, hp0]; rfl, if_pos rfl]
    refine isTrue_and ?_
    refine wpAny_isTrue_Compare1 ?_
    refine fr_name (g := g) F4 n2' ?_ ek e2
    refine wpAny_Constant_str ?_
    refine PySem.P.ne_str ?_
    refine wpAny_truthy_bool ?_
    by_cases hc : c = 38
    · rw [show ((mkS [c]).cps.toList != (Str.ofString "&").cps.toList) = false from by rw [e38, hc]; rfl, if_neg (by decide), if_neg (by decide)]
      refine wpAny_execs_nil ?_
      exact tail (fun z => z.2 hc)
    · rw [show ((mkS [c]).cps.toList != (Str.ofString "&").cps.toList) = true from by rw [e38]; simp [hc], if_pos rfl]
      refine isTrue_and_nil ?_
      rw [if_pos rfl]
      refine wpAny_execs_cons ?_
      refine wpAny_Return_some ?_
      refine List_ ?_
      refine args_cons ?_
      refine wpAny_BinOp ?_
      refine S0 ?_
      refine fr_name (g := g) F4 n2' ?_ ek e2
      refine PyProof.Rows.add_str (fun t'' k => ?_) (by rw [sizeLine_eq]; simp [Str.length]; omega)
      rw [mk_add]
      refine args_cons ?_
      refine wpAny_Constant_str ?_
      refine args_nil ?_
      refine wpAny_newList ?_
      dsimp only
      have em : Str.ofString "" = mkS [] := by kernel_rfl!
      rw [em]
      refine mkL ?_
      unfold rdStep
      rw [if_pos ⟨hp0, hc⟩]
  · rw [show ((mkS p).cps.toList == (Str.ofString "").cps.toList) = false from by rw [e0]; simp [hp0], if_neg (by decide), if_neg (by decide)]
    refine wpAny_execs_nil ?_
    exact tail (fun z => hp0 z.1)
end Mine
end
section
open PySem PySem.W PySem.W.X PyProof.Rows PySem.Calls
set_option Elab.async false
set_option maxRecDepth 100000
set_option linter.unusedVariables false
set_option pp.maxSteps 500
namespace Mine
theorem lread_c {w : World} {A : Around} {n : Nat} {s : Shared} {st : Addr} {o p : List Nat} {c : Nat} {t1 t2 u : Tok} {k : Nat} {Q : Value → Shared → Prop} (hA : Low A (n + 1)) (X : (Kc w.params).In s.heap)
    (hst : s.heap.get? st = some (listOf #[.str (mkS o) t1, .str (mkS p) t2] k)) (ho : o.length ≤ 1000) (hp : p.length ≤ 1000)
    (q : ∀ h' t' v', Keep s.heap h' → StateV (rdStep (o, p) c).1 (rdStep (o, p) c).2 h' v' → Q v' { s with heap := h', toks := t' }) : wpAny (model PP w) A (call (.ref 133) [.ref st, .str (mkS [c]) u]) Q (fun _ _ => False) s := by
  obtain ⟨Bd, hBd⟩ : ∃ Bd, Bd = uB := ⟨_, rfl⟩
  refine call_static (n := n) (a := 133) (body := Bd) (binds := [(Str.ofString "state", .ref st), (Str.ofString "sign", .str (mkS [c]) u)]) hA X rfl rfl rfl (by rw [hBd]; kernel_rfl) (.of_eq rfl) (by decide) (locs rfl) ?_
  intro A' h₀ L hA' F
  obtain ⟨h0, gg, dd, tt, oo⟩ := s
  exact read_b rfl rfl rfl rfl rfl F ⟨_, X sysModules _ rfl⟩ hst rfl rfl ho hp (fun h' t' v' => q h' t' v') hBd
end Mine
end
section
open PySem PySem.W PySem.W.X PyProof.Rows PySem.Calls
set_option Elab.async false
set_option maxRecDepth 100000
set_option linter.unusedVariables false
set_option pp.maxSteps 500
namespace Mine
/-- the lambda of the law -/
structure LamS (ps : Arguments) (sc : Scope) : Prop where
  ps : ∃ a b, ps = ⟨[], [⟨Str.ofString "told", none, a⟩, ⟨Str.ofString "piece", none, b⟩], none, [], [], none, []⟩
  nm : sc.names = [(Str.ofString "told", .local), (Str.ofString "piece", .local)]
  kd : sc.kind = .function
  co : sc.isCoroutine = false
  ge : sc.isGenerator = false
theorem lam_call {w : World} {A : Around} {n : Nat} {s : Shared} {fl c' : Addr} {ps : Arguments} {sc : Scope} {qual : Str} {pm ctv : Value} {p3 p4 p5 : Pos} {x y : List Nat} {t u : Tok} {Q : Value → Shared → Prop} (Z : LamS ps sc) (hA : Low A (n + 1)) (X : (Kc w.params).In s.heap)
    (hfo : s.heap.get? fl = some (kla_obj "<lambda>" qual ps (.BinOp (nmE "told" p3) .Add (nmE "piece" p4) p5) sc [] pm c' ctv)) (hcd : s.heap.CodeRec (.ref c') qual) (hx : x.length + y.length ≤ 2000)
    (q : ∀ h' t' u', Keep s.heap h' → Q (.str (mkS (x ++ y)) u') { s with heap := h', toks := t' }) : wpAny (model PP w) A (call (.ref fl) [.str (mkS x) t, .str (mkS y) u]) Q (fun _ _ => False) s := by
  obtain ⟨a, b, rfl⟩ := Z.ps
  refine wpAny_call ?_
  refine kla_callFunE (Low.room hA) hfo rfl Z.co Z.ge rfl hcd ?_
  refine wpAny_of_eq (a := [(Str.ofString "told", .str (mkS x) t), (Str.ofString "piece", .str (mkS y) u)]) (by kernel_rfl!) ?_
  have hnl : ∀ z, z ∈ [(Str.ofString "told", Value.str (mkS x) t), (Str.ofString "piece", Value.str (mkS y) u)] → sc.names.lookup z.1 = some .local := by
    rw [Z.nm]
    intro z hz
    simp only [List.mem_cons, List.not_mem_nil, or_false] at hz
    rcases hz with rfl | rfl
    · kernel_rfl!
    · kernel_rfl!
  have hnc : ∀ z ∈ sc.names, z.2 ≠ .cell := by
    rw [Z.nm]
    intro z hz
    simp only [List.mem_cons, List.not_mem_nil, or_false] at hz
    rcases hz with rfl | rfl <;> simp
  refine wpAny_newFunctionEnv hnc hnl (fun h₁ hns hsb => ⟨(nolimit_of X).fresh _ hsb, ?_⟩) Z.kd
  have k1 : Keep s.heap h₁ := fun b o e => hsb.extBut b o (Nat.ne_of_lt (Heap.lt_size e)) (Heap.get?_push_of_some _ e)
  have e1 : sc.names.lookup (Str.ofString "told") = some .local := by rw [Z.nm]; kernel_rfl!
  have e2 : sc.names.lookup (Str.ofString "piece") = some .local := by rw [Z.nm]; kernel_rfl!
  refine kla_codeExpr (noE ?_)
  refine wpAny_BinOp ?_
  refine wpAny_Name (wpAny_loadName_local Z.kd (v := .str (mkS x) t) e1 hns (by kernel_rfl!) ?_) (by decide)
  refine wpAny_Name (wpAny_loadName_local Z.kd (v := .str (mkS y) u) e2 hns (by kernel_rfl!) ?_) (by decide)
  refine PyProof.Rows.add_str (fun t' k => ?_) (by rw [sizeLine_eq]; simp [Str.length]; omega)
  rw [mk_add]
  exact q _ _ _ k1
noncomputable def lamSc : Scope := match lB 8 with | .Assign _ (.Call _ [.Lambda _ _ z _, _] _ _) _ => z | _ => default
noncomputable def lamPs : Arguments := match lB 8 with | .Assign _ (.Call _ [.Lambda z _ _ _, _] _ _) _ => z | _ => default
noncomputable def pcSc : Scope := match lB 8 with | .Assign _ (.Call _ [_, .ListComp _ _ z _] _ _) _ => z | _ => default
theorem lamS : LamS lamPs lamSc := ⟨⟨_, _, rfl⟩, by kernel_rfl, by kernel_rfl, by kernel_rfl, by kernel_rfl⟩
theorem pcS : PcScp pcSc := ⟨by kernel_rfl, by kernel_rfl⟩
theorem lB8 : ∃ p1 p2 p3 p4 p5 p6 p7 p8 p9 p10 p11 p12 p13 p14, lB 8 = .Assign [nmE "letters" p1] (.Call (nmE "reduce" p2) [.Lambda lamPs (.BinOp (nmE "told" p3) .Add (nmE "piece" p4) p5) lamSc p6,
    .ListComp (nmE "piece" p7) [⟨.Tuple [nmE "hand" p8, nmE "piece" p9] 0 p10, nmE "woven" p11, [], 0⟩] pcSc p12] [] p13) p14 := ⟨_, _, _, _, _, _, _, _, _, _, _, _, _, _, rfl⟩
theorem lamClos (P : Params) (L : Addr) : closureFor lamSc (lEnv P L) = pure [] := by kernel_rfl
theorem pcClos (P : Params) (L : Addr) : closureFor pcSc (lEnv P L) = pure [] := by kernel_rfl
theorem lamDef (P : Params) (L : Addr) : defaultsOf lamPs (lEnv P L) = ([], []) := by kernel_rfl
theorem lamQ (P : Params) (L : Addr) : (lEnv P L).qual ++ Str.ofString "<lambda>" = Str.ofString "law.<locals>.<lambda>" := by kernel_rfl
theorem ad65 (P : Params) : nsIn (Kc P) mainGlobals (Str.ofString "reduce") = some (some (.ref 65)) := by kernel_rfl
end Mine
end
section
open PySem PySem.W PySem.W.X PyProof.Rows PySem.Calls
set_option Elab.async false
set_option maxRecDepth 100000
set_option linter.unusedVariables false
set_option pp.maxSteps 500
namespace Mine
/-- the pieces one behind the other -/
noncomputable def catP (r : Nat → Nat) (tl : List (Nat × Nat)) : List Nat := tl.flatMap fun p => pc p.1 (r p.1) p.2
theorem wr_short : ((List.range 5).all fun k => sgL.all fun c => (wr k c).length ≤ 6) = true := by kernel_rfl
theorem pc_short {r n k : Nat} (h : k < 5) : (pc k r n).length ≤ 6 := by
  have z := wr_short
  rw [List.all_eq_true] at z
  have z := z k (List.mem_range.mpr h)
  rw [List.all_eq_true] at z
  exact of_decide_eq_true (z _ (sg_mem _ _))
theorem cat_len {r : Nat → Nat} : ∀ {tl : List (Nat × Nat)}, (∀ p ∈ tl, p.1 < 5) → (catP r tl).length ≤ 6 * tl.length
  | [], _ => by simp [catP]
  | p :: tl, h => by
    have ih := cat_len (r := r) (tl := tl) (fun q hq => h q (List.mem_cons_of_mem _ hq))
    have s := pc_short (r := r p.1) (n := p.2) (h p (List.mem_cons_self ..))
    simp only [catP, List.flatMap_cons, List.length_append, List.length_cons] at ih ⊢
    omega
theorem cat_take {r : Nat → Nat} {tl : List (Nat × Nat)} {i : Nat} {p : Nat × Nat} (e : tl[i]? = some p) : catP r (tl.take (i + 1)) = catP r (tl.take i) ++ pc p.1 (r p.1) p.2 := by
  rw [List.take_add_one, e]
  simp [catP]
set_option maxHeartbeats 400000 in
theorem l8_c {w : World} {A : Around} {s : Shared} {g : Heap} {L : Addr} {m cm : Str → Option Value} {fs : List (Addr × Obj)} {D : Addr} {r : Nat → Nat} {tl : List (Nat × Nat)} {o51 : Obj} {Q : Flow → Shared → Prop} {E : Value → Shared → Prop}
    (hA : Low A 2) (B : Amb w g) (c : Wc g (lEnv w.params L) m cm ((51, o51) :: (135, tabObj #[]) :: fs) s.heap) (h5 : ∀ p ∈ tl, p.1 < 5) (h40 : tl.length = 40) (hd : DueAt g D r tl) (hm : m (Str.ofString "woven") = some (.ref D))
    (k : ∀ g' vs h' t' u, Keep g g' → Wc g' (lEnv w.params L) (fun y => if y = Str.ofString "letters" then some (.str (mkS (catP r tl)) u) else m y) cm ((51, o51) :: (135, tabObj vs) :: fs) h' → Q .next { s with heap := h', toks := t' }) :
    wpAny (model PP w) A (exec (lB 8) (lEnv w.params L)) Q E s := by
  obtain ⟨p1, p2, p3, p4, p5, p6, p7, p8, p9, p10, p11, p12, p13, p14, e⟩ := lB8
  obtain ⟨h0, gg, dd, tt, oo⟩ := s
  dsimp only at *
  rw [e]
  obtain ⟨mg, G⟩ := B.G
  have eb : mg (Str.ofString "__builtins__") = some (.ref 4) := mg_of B.X G rfl
  refine wpAny_Assign_Name ?_ (by kernel_rfl!)
  refine Call_ ?_
  refine nm_glob B c.old (v := .ref 65) (ad65 _) ?_ (le_kind _ _) (lk_g _ _ _ (by kernel_rfl!)) (le_glob _ _)
  refine cw_static (f := 65) B rfl rfl ?_
  refine args_cons ?_
  refine kla_eval (lamDef _ _) ?_
  have C : CodeHd h0 137 135 := ⟨_, _, _, _, _, _, _, _, _, Frag.In.keeps B.X c.old 137 _ rfl, rfl, rfl, rfl, rfl, rfl, rfl, rfl, rfl, by decide⟩
  have hP : h0.get? 135 = some (tabObj #[]) := c.at 1 rfl
  refine kla_makeFunction (mg := mg) (lamClos _ _) (le_glob _ _) (G.keeps c.old) (le_code _ _) C hP True.intro rfl (by decide) ⟨4, _, eb, by decide, by decide, by decide, Frag.In.keeps B.X c.old 4 _ rfl, rfl, rfl, rfl⟩ fun c' ctv h1 tk x1 hge hlt hrec htb => ?_
  dsimp only at x1 hge hlt hrec htb ⊢
  have c1 := c.ext 1 rfl x1 htb
  have nf := c1.notIn (a := h1.objs.size) (Heap.get?_none_of_le (Nat.le_refl _))
  have nc := c.notIn (a := c') (Heap.get?_none_of_le hge)
  have k2 : Keep h1 (h1.push (kla_obj "<lambda>" ((lEnv w.params L).qual ++ "<lambda>") lamPs ((nmE "told" p3).BinOp Operator.Add (nmE "piece" p4) p5) lamSc [] ((mg "__name__").getD .none) c' ctv)) := fun b o e => Heap.get?_push_of_some _ e
  have hf := Heap.get?_push_size h1 (o := kla_obj "<lambda>" ((lEnv w.params L).qual ++ "<lambda>") lamPs ((nmE "told" p3).BinOp Operator.Add (nmE "piece" p4) p5) lamSc [] ((mg "__name__").getD .none) c' ctv) rfl
  generalize h1.push (kla_obj "<lambda>" ((lEnv w.params L).qual ++ "<lambda>") lamPs ((nmE "told" p3).BinOp Operator.Add (nmE "piece" p4) p5) lamSc [] ((mg "__name__").getD .none) c' ctv) = h2 at k2 hf ⊢
  generalize h1.objs.size = fl at nf hf ⊢
  generalize (lEnv w.params L).qual ++ "<lambda>" = qual at hf hrec
  generalize (mg "__name__").getD .none = pm at hf
  obtain ⟨g2, kg2, c2, up⟩ := (c1.keep k2).rebase (le_cells_ok _ _)
  have gf := up fl _ hf nf.1 nf.2.1 nf.2.2
  have gc : g2.CodeRec (.ref c') qual := by
    obtain ⟨c3, oc, vs, t, e2, hoc, hd, hv⟩ := hrec
    cases e2
    refine ⟨c', oc, vs, t, rfl, up c' oc (k2 _ _ hoc) nc.1 nc.2.1 (fun p hp q => ?_), hd, hv⟩
    rcases List.mem_cons.mp hp with rfl | hp
    · exact nc.2.2 (51, o51) (List.mem_cons_self ..) q
    · rcases List.mem_cons.mp hp with rfl | hp
      · exact nc.2.2 (135, tabObj #[]) (List.mem_cons_of_mem _ (List.mem_cons_self ..)) q
      · exact nc.2.2 p (List.mem_cons_of_mem _ (List.mem_cons_of_mem _ hp)) q
  refine args_cons ?_
  have hd2 : DueAt g2 D r tl := by
    obtain ⟨ts, n, e, hl, ht⟩ := hd
    exact ⟨ts, n, kg2 _ _ e, hl, fun i q p e1 e2 => (ht i q p e1 e2).keep kg2⟩
  refine pl_c hA c2 (le_cells_ok _ _) (le_kind _ _) (lk_l _ _ _ (by kernel_rfl!)) (by decide) pcS (pcClos _ _) hd2 (by omega) hm ?_
  intro g3 P vs nn h3 t3 kg3 vl vp c3
  dsimp only
  have kh3 : Keep g h3 := fun b o e => c3.old _ _ (kg3 _ _ (kg2 _ _ e))
  refine args_nil ⟨kh3, ?_⟩
  have hPl := c3.at 0 rfl
  refine noE (rdl_c (n₀ := 1) (V := fun i h v => ∃ t, v = .str (mkS (catP r (tl.take i))) t) hA (B.keep kh3) (PySem.IsL.isList hPl) (by simp [vl]; omega) (c3.old _ _ (kg3 _ _ gf)) rfl (fun i h h' v _ z => z) ?_ ?_ ?_)
  · intro h x hx
    obtain ⟨u, hu⟩ := vp 0 x (by simpa using hx)
    obtain ⟨q, hq⟩ : ∃ q, tl[0]? = some q := ⟨_, List.getElem?_eq_getElem (by omega)⟩
    refine ⟨u, ?_⟩
    rw [hu q hq, cat_take hq]
    simp [catP]
  · rintro A' i s' v x Q' hA' hi ks ⟨t, rfl⟩ hx hq'
    obtain ⟨u, hu⟩ := vp i x (by simpa using hx)
    have hi' : i < tl.length := by simpa [vl] using hi
    obtain ⟨q, hq⟩ : ∃ q, tl[i]? = some q := ⟨_, List.getElem?_eq_getElem hi'⟩
    rw [hu q hq]
    have l1 := cat_len (r := r) (tl := tl.take i) (fun p hp => h5 p (List.mem_of_mem_take hp))
    have l2 := pc_short (r := r q.1) (n := q.2) (h5 q (List.mem_of_getElem? hq))
    have l3 : (tl.take i).length ≤ 40 := by rw [List.length_take]; omega
    refine lam_call (n := 0) lamS hA' (Frag.In.keeps (B.keep kh3).X ks) (ks _ _ (c3.old _ _ (kg3 _ _ gf))) (gc.keeps fun b o e => ks _ _ (c3.old _ _ (kg3 _ _ e))) (by omega) (fun h' t' u' k' => hq' h' t' _ k' ⟨u', ?_⟩)
    rw [cat_take hq]
  · rintro h4 t4 v' k4 ⟨u, rfl⟩
    have ez : catP r (tl.take vs.toArray.size) = catP r tl := by rw [List.take_of_length_le (by simp [vl])]
    rw [ez]
    obtain ⟨g5, kg5, c5, _⟩ := (c3.keep k4).drop (le_cells_ok _ _)
    refine ws_l c5 ?_ (le_kind _ _) (by kernel_rfl!)
    intro h6 c6
    exact k g5 _ h6 _ u (fun b o e => kg5 _ _ (kg3 _ _ (kg2 _ _ e))) c6
end Mine
end
section
open PySem PySem.W PySem.W.X PyProof.Rows PySem.Calls
set_option Elab.async false
set_option maxRecDepth 100000
set_option linter.unusedVariables false
set_option pp.maxSteps 500
namespace Mine
theorem sj_mk : ∀ (ls : List (List Nat)), Str.join (mkS []) (ls.map mkS) = mkS ls.flatten
  | [] => rfl
  | [x] => by simp [Str.join]
  | x :: y :: r => by
    have ih := sj_mk (y :: r)
    show mkS x ++ mkS [] ++ Str.join (mkS []) ((y :: r).map mkS) = _
    rw [ih, mk_add, mk_add]
    simp
theorem join_mk (ls : List (List Nat)) : Txt.join (mkS []) (ls.map mkS) = mkS ls.flatten := (StrLaws.glued_eq_join _ _).trans (sj_mk ls)
theorem rd_front (o x p : List Nat) (c : Nat) : rdStep (o ++ x, p) c = (o ++ (rdStep (x, p) c).1, (rdStep (x, p) c).2) := by
  unfold rdStep
  dsimp only
  by_cases h1 : p = [] ∧ c ≠ 38
  · rw [if_pos h1, if_pos h1]; simp
  · rw [if_neg h1, if_neg h1]
    by_cases h2 : c ≠ 59
    · rw [if_pos h2, if_pos h2]
    · rw [if_neg h2, if_neg h2]; simp
theorem rd_fold (o : List Nat) : ∀ (l : List Nat) (x p : List Nat), l.foldl rdStep (o ++ x, p) = (o ++ (l.foldl rdStep (x, p)).1, (l.foldl rdStep (x, p)).2)
  | [], x, p => rfl
  | c :: l, x, p => by
    simp only [List.foldl_cons]
    rw [rd_front, rd_fold o l]
theorem rd_wr : ((List.range 5).all fun k => sgL.all fun c => (wr k c).foldl rdStep ([], []) == ([c], [])) = true := by kernel_rfl
theorem rd_pc {k r n : Nat} (h : k < 5) (o : List Nat) : (pc k r n).foldl rdStep (o, []) = (o ++ [sg r n], []) := by
  have z := rd_wr
  rw [List.all_eq_true] at z
  have z := z k (List.mem_range.mpr h)
  rw [List.all_eq_true] at z
  have z := beq_iff_eq.mp (z _ (sg_mem r n))
  have y := rd_fold o (pc k r n) [] []
  rw [List.append_nil] at y
  rw [y]
  unfold pc
  rw [z]
/-- the texts' signs in the order of the times -/
noncomputable def outP (r : Nat → Nat) (tl : List (Nat × Nat)) : List Nat := tl.map fun p => sg (r p.1) p.2
theorem rd_cat {r : Nat → Nat} : ∀ {tl : List (Nat × Nat)} (o : List Nat), (∀ p ∈ tl, p.1 < 5) → (catP r tl).foldl rdStep (o, []) = (o ++ outP r tl, [])
  | [], o, _ => by simp [catP, outP]
  | p :: tl, o, h => by
    have ih := rd_cat (r := r) (tl := tl) (o ++ [sg (r p.1) p.2]) (fun q hq => h q (List.mem_cons_of_mem _ hq))
    have e : catP r (p :: tl) = pc p.1 (r p.1) p.2 ++ catP r tl := by simp [catP]
    rw [e, List.foldl_append, rd_pc (h p (List.mem_cons_self ..)), ih]
    simp [outP]
/-- the reader's state behind i signs -/
noncomputable def stAt (x : List Nat) (i : Nat) : List Nat × List Nat := (x.take i).foldl rdStep ([], [])
theorem rd_len (s : List Nat × List Nat) (c : Nat) : (rdStep s c).1.length + (rdStep s c).2.length ≤ s.1.length + s.2.length + 1 := by
  unfold rdStep
  by_cases h1 : s.2 = [] ∧ c ≠ 38
  · rw [if_pos h1]; simp <;> omega
  · rw [if_neg h1]
    by_cases h2 : c ≠ 59
    · rw [if_pos h2]; simp <;> omega
    · rw [if_neg h2]
      have := look_len (s.2 ++ [c])
      simp only [List.length_append, List.length_nil]; omega
theorem rd_lens : ∀ (l : List Nat) (s : List Nat × List Nat), (l.foldl rdStep s).1.length + (l.foldl rdStep s).2.length ≤ s.1.length + s.2.length + l.length
  | [], s => by simp
  | c :: l, s => by
    have := rd_lens l (rdStep s c)
    have := rd_len s c
    simp only [List.foldl_cons, List.length_cons]; omega
theorem st_len (x : List Nat) (i : Nat) : (stAt x i).1.length + (stAt x i).2.length ≤ x.length := by
  have h := rd_lens (x.take i) ([], [])
  rw [List.length_take] at h
  unfold stAt
  simp only [List.length_nil] at h
  omega
theorem st_succ {x : List Nat} {i c : Nat} (e : x[i]? = some c) : stAt x (i + 1) = rdStep (stAt x i) c := by
  unfold stAt
  rw [List.take_add_one, e, List.foldl_append]
  rfl
theorem wr_ascii : ((List.range 5).all fun k => sgL.all fun c => (wr k c).all (· < 128)) = true := by kernel_rfl
theorem cat_ascii {r : Nat → Nat} {tl : List (Nat × Nat)} (h : ∀ p ∈ tl, p.1 < 5) : (mkS (catP r tl)).cps.all (· < 128) = true := by
  have e : (catP r tl).all (· < 128) = true := by
    rw [List.all_eq_true]
    intro c hc
    simp only [catP, List.mem_flatMap] at hc
    obtain ⟨p, hp, hc⟩ := hc
    have z := wr_ascii
    rw [List.all_eq_true] at z
    have z := z p.1 (List.mem_range.mpr (h p hp))
    rw [List.all_eq_true] at z
    have z := z _ (sg_mem (r p.1) p.2)
    rw [List.all_eq_true] at z
    exact z c hc
  simpa using e
theorem StateV.keepL {o p : List Nat} {h h' : Heap} {v : Value} (k : KeepL h h') (z : StateV o p h v) : StateV o p h' v := let ⟨a, t, u, n, e, e'⟩ := z; ⟨a, t, u, n, e, k _ _ _ e'⟩
end Mine
end
section
open PySem PySem.W PySem.W.X PyProof.Rows PySem.Calls
set_option Elab.async false
set_option maxRecDepth 100000
set_option linter.unusedVariables false
set_option pp.maxSteps 500
namespace Mine
noncomputable def s9a : Expr := match lB 9 with | .Return (some (.BoolOp _ [a, _] _)) _ => a | _ => default
noncomputable def s9b : Expr := match lB 9 with | .Return (some (.BoolOp _ [_, b] _)) _ => b | _ => default
theorem lB9 : ∃ p1 p2, lB 9 = .Return (some (.BoolOp .And [s9a, s9b] p1)) p2 := ⟨_, _, rfl⟩
noncomputable def duSc : Scope := match s9a with | .Compare _ _ [.Call _ [.ListComp _ _ z _] _ _] _ => z | _ => default
theorem duS : PcScp duSc := ⟨by kernel_rfl, by kernel_rfl⟩
theorem duClos (P : Params) (L : Addr) : closureFor duSc (lEnv P L) = pure [] := by kernel_rfl
theorem lB9a : ∃ p1 p2 p3 p4 p5 p6 p7 p8 p9 p10 p11, s9a = .Compare (nmE "letters" p1) [.Eq] [.Call (.Attribute (csE "" p2) (Str.ofString "join") p3) [.ListComp (nmE "piece" p4) [⟨.Tuple [nmE "hand" p5, nmE "piece" p6] 0 p7, nmE "due" p8, [], 0⟩] duSc p9] [] p10] p11 ∧ p3.endLine = p10.line := ⟨_, _, _, _, _, _, _, _, _, _, _, rfl, rfl⟩
noncomputable def ecE : Expr := match s9b with | .Compare _ _ [.List [e, _] _] _ => e | _ => default
theorem lB9b : ∃ p1 p2 p3 p4 p5 p6 p7 p9 p10 p11, s9b = .Compare (.Call (nmE "reduce" p1) [nmE "_law_read" p2, nmE "letters" p3, .List [csE "" p4, csE "" p5] p6] [] p7) [.Eq] [.List [ecE, csE "" p9] p10] p11 := ⟨_, _, _, _, _, _, _, _, _, _, rfl⟩
noncomputable def txSc : Scope := match ecE with | .Call _ [.ListComp _ _ z _] _ _ => z | _ => default
theorem ec_eq : ∃ p1 p2 p3 p5 p6 p7 p8 p9 p10 p11 p12 p13 p14 p15, ecE = .Call (.Attribute (csE "" p2) (Str.ofString "join") p3) [.ListComp (.Subscript (.Subscript (nmE "texts" p5) (nmE "k" p6) p7) (nmE "n" p8) p9) [⟨.Tuple [nmE "when" p10, nmE "k" p11, nmE "n" p12] 0 p13, nmE "times" p14, [], 0⟩] txSc p15] [] p1 ∧ p3.endLine = p1.line := ⟨_, _, _, _, _, _, _, _, _, _, _, _, _, _, rfl, rfl⟩
theorem txSc_names : txSc.names = [(Str.ofString ".0", .local), (Str.ofString "when", .local), (Str.ofString "k", .local), (Str.ofString "n", .local), (Str.ofString "texts", .free)] := by kernel_rfl
theorem txSc_kind : txSc.kind = .function := by kernel_rfl
theorem txSc_cell : ∀ y ∈ txSc.names, y.2 ≠ .cell := by
  rw [txSc_names]; intro y hy
  simp only [List.mem_cons, List.not_mem_nil, or_false] at hy
  rcases hy with rfl | rfl | rfl | rfl | rfl <;> simp
theorem txSc_look : ∀ y ∈ txSc.names, y.2 = .local → txSc.names.lookup y.1 = some .local := by
  rw [txSc_names]; intro y hy
  simp only [List.mem_cons, List.not_mem_nil, or_false] at hy
  rcases hy with rfl | rfl | rfl | rfl | rfl
  · intro _; kernel_rfl!
  · intro _; kernel_rfl!
  · intro _; kernel_rfl!
  · intro _; kernel_rfl!
  · intro h; cases h
theorem txClos (P : Params) (L : Addr) : closureFor txSc (lEnv P L) = pure (dCl L) := by kernel_rfl
noncomputable def xEnv (P : Params) (L C : Addr) : Env := compEnvC txSc (dCl L) C (lEnv P L)
theorem xe_kind (P : Params) (L C : Addr) : (xEnv P L C).scope.kind = .function := by kernel_rfl
theorem xe_w (P : Params) (L C : Addr) : (xEnv P L C).kindOf (Str.ofString "when") = some .local := by kernel_rfl
theorem xe_k (P : Params) (L C : Addr) : (xEnv P L C).kindOf (Str.ofString "k") = some .local := by kernel_rfl
theorem xe_n (P : Params) (L C : Addr) : (xEnv P L C).kindOf (Str.ofString "n") = some .local := by kernel_rfl
theorem xe_t (P : Params) (L C : Addr) : (xEnv P L C).kindOf (Str.ofString "texts") = some .cell := by kernel_rfl
theorem xe_ct (P : Params) (L C : Addr) : (xEnv P L C).cells.lookup (Str.ofString "texts") = some (L + 1) := by kernel_rfl
set_option maxHeartbeats 1000000 in
theorem tx_c {w : World} {A : Around} {s : Shared} {g : Heap} {L : Addr} {m cm : Str → Option Value} {fs : List (Addr × Obj)} {lt lti : Addr} {r : Nat → Nat} {a b : Nat → Int} {tl : List (Nat × Nat)} {n₀ : Nat} {Q : Value → Shared → Prop} {E : Value → Shared → Prop} {p5 p6 p7 p8 p9 p10 p11 p12 p13 p14 p15 : Pos}
    (hA : Low A n₀) (c : Wc g (lEnv w.params L) m cm fs s.heap) (hct : cm (Str.ofString "texts") = some (.ref lt)) (T : WrAt g lt (fun i => rotS (r i))) (hr : ∀ k, r k < 8)
    (hmt : m (Str.ofString "times") = some (.ref lti)) (TA : TimesAt g lti a b tl)
    (k : ∀ (g' : Heap) (P : Addr) (vs : List Value) (nn : Nat) (h' : Heap) (t' : Nat), Keep g g' → vs.length = tl.length → (∀ (i : Nat) v, vs[i]? = some v → ∃ u, ∀ q, tl[i]? = some q → v = .str (mkS [sg (r q.1) q.2]) u) → Wc g' (lEnv w.params L) m cm ((P, listOf vs.toArray nn) :: fs) h' → Q (.ref P) { s with heap := h', toks := t' }) :
    wpAny (model PP w) A (eval (.ListComp (.Subscript (.Subscript (nmE "texts" p5) (nmE "k" p6) p7) (nmE "n" p8) p9) [⟨.Tuple [nmE "when" p10, nmE "k" p11, nmE "n" p12] 0 p13, nmE "times" p14, [], 0⟩] txSc p15) (lEnv w.params L)) Q E s := by
  obtain ⟨inc, perm, vs, nv, ev, vl, vq⟩ := TA
  have l40 := tl_len perm
  refine lc_list (P := fun i h v => ∃ u, ∀ q, tl[i]? = some q → v = .str (mkS [sg (r q.1) q.2]) u) hA c (le_cells_ok _ _) (txClos _ _) txSc_cell txSc_kind txSc_look (PySem.IsL.isList ev) (by simp; omega) (fun _ => rfl)
    (fun Q' hq => wn_l c hmt hq (le_kind _ _) (by kernel_rfl!)) (fun i h h' v k z => z) ?_ ?_
  · intro i x g' C rest mC s' hx kg cc
    have hx' : vs[i]? = some x := by simpa using hx
    have il : i < tl.length := by
      rcases Nat.lt_or_ge i vs.length with z | z
      · omega
      · rw [List.getElem?_eq_none z] at hx'; cases hx'
    obtain ⟨q, hq⟩ : ∃ q, tl[i]? = some q := ⟨_, List.getElem?_eq_getElem il⟩
    obtain ⟨p, rfl, t1, t2, t3, ep⟩ := vq i x q hx' hq
    obtain ⟨q1, q2⟩ := tl_lt perm hq
    obtain ⟨kk, nn⟩ := q
    dsimp only at q1 q2 ep
    obtain ⟨hh, gg, dd, tt, oo⟩ := s'
    dsimp only at cc ⊢
    have ht : IsTup hh p #[.int (whenI a b kk nn) t1, .int (kk : Int) t2, .int (nn : Int) t3] := ⟨_, cc.old _ _ (kg _ _ ep), rfl, _, rfl⟩
    show wpAny _ _ (assign (.Tuple [nmE "when" p10, nmE "k" p11, nmE "n" p12] 0 p13) (xEnv w.params L C) _) _ _ _
    refine assign_Tuple_tuple hA.hd ht (by kernel_rfl!) (by kernel_rfl!) (fun h6 x6 => ?_)
    have k6 : Keep hh h6 := fun b o e => x6 b o (Nat.ne_of_lt (Heap.lt_size e)) e
    have c6 := cc.keep k6
    show wpAny _ _ (assignInOrder [assign (nmE "when" p10) (xEnv w.params L C), assign (nmE "k" p11) (xEnv w.params L C), assign (nmE "n" p12) (xEnv w.params L C)] [Value.int (whenI a b kk nn) t1, Value.int (kk : Int) t2, Value.int (nn : Int) t3]) _ _ _
    refine wpAny_bind (wpAny_holding (assign_Name ?_))
    refine wpAny_storeName_local (xe_w _ _ _) c6.ns (fun h7 hn7 x7 => ?_) (by rw [xe_kind]; rfl)
    have c7 := c6.store hn7 x7
    refine wpAny_bind (wpAny_holding (assign_Name ?_))
    refine wpAny_storeName_local (xe_k _ _ _) c7.ns (fun h8 hn8 x8 => ?_) (by rw [xe_kind]; rfl)
    have c8 := c7.store hn8 x8
    refine wpAny_bind (wpAny_holding (assign_Name ?_))
    refine wpAny_storeName_local (xe_n _ _ _) c8.ns (fun h9 hn9 x9 => ?_) (by rw [xe_kind]; rfl)
    have c9 := c8.store hn9 x9
    refine wpAny_pure ?_
    dsimp only
    have hk9 : (fun y => if y = Str.ofString "n" then some (Value.int (nn : Int) t3) else if y = Str.ofString "k" then some (Value.int (kk : Int) t2) else if y = Str.ofString "when" then some (Value.int (whenI a b kk nn) t1) else mC y) (Str.ofString "k") = some (.int (kk : Int) t2) := rfl
    have hn9' : (fun y => if y = Str.ofString "n" then some (Value.int (nn : Int) t3) else if y = Str.ofString "k" then some (Value.int (kk : Int) t2) else if y = Str.ofString "when" then some (Value.int (whenI a b kk nn) t1) else mC y) (Str.ofString "n") = some (.int (nn : Int) t3) := if_pos rfl
    generalize (fun y => if y = Str.ofString "n" then some (Value.int (nn : Int) t3) else if y = Str.ofString "k" then some (Value.int (kk : Int) t2) else if y = Str.ofString "when" then some (Value.int (whenI a b kk nn) t1) else mC y) = m9 at c9 hk9 hn9'
    have N : ∀ {h7 : Heap} {x : String} {v : Value} {p : Pos} {t7 : Nat} {Q' : Value → Shared → Prop}, Cp g' (lEnv w.params L) m cm C rest m9 h7 → (xEnv w.params L C).kindOf (Str.ofString x) = some .local → (Str.ofString x == ("__debug__" : Str)) = false → m9 (Str.ofString x) = some v → Q' v ⟨h7, gg, dd, t7, oo⟩ → wpAny (model PP w) A (eval (nmE x p) (xEnv w.params L C)) Q' (fun _ _ => False) ⟨h7, gg, dd, t7, oo⟩ :=
      fun cc kx hb hv hq => wpAny_Name (wpAny_loadName_local (xe_kind _ _ _) kx cc.ns hv hq) hb
    obtain ⟨tvs, tn, etv, tv5, ftv⟩ := T.keep kg
    obtain ⟨tk, etk⟩ := ftv kk q1
    show wpAny _ _ (eval _ (xEnv w.params L C)) _ _ _
    refine Subscript_ ?_
    refine Subscript_ ?_
    refine wpAny_Name (wpAny_loadName_cell (xe_kind _ _ _) (xe_t _ _ _) (xe_ct _ _ _) (hct ▸ c9.cell (lk_texts w.params L)) ?_) (by decide)
    refine N c9 (xe_k _ _ _) (by decide) hk9 ?_
    refine item_list (PySem.IsL.isList (c9.old _ _ etv)) (Int.natCast_nonneg _) (by omega) (x := .str (rotS (r kk)) tk) (by simp [etk]) ?_ (by with_unfolding_all rfl) (fun _ => rfl)
    refine N c9 (xe_n _ _ _) (by decide) hn9' ?_
    have rl := rot_len (r kk)
    refine item_str (by unfold fitsSsize; simp; omega) (by omega) (by omega) (fun t10 => ?_) (by with_unfolding_all rfl) (fun _ => rfl)
    rw [rot_item' (hr kk) q2]
    refine ⟨g', _, h9, _, rfl, fun _ _ e => e, c9, (tt + 1 + 1 + 1 : Nat), fun q hq' => ?_⟩
    rw [hq] at hq'
    cases hq'
    rfl
  · intro g' D ws nn h' t' kg wl hw c'
    exact k g' D ws nn h' t' kg (by simpa [vl] using wl) hw c'
end Mine
end
section
open PySem PySem.W PySem.W.X PyProof.Rows PySem.Calls
set_option Elab.async false
set_option maxRecDepth 100000
set_option linter.unusedVariables false
set_option pp.maxSteps 500
namespace Mine
theorem strs_of : ∀ {vs : List Value} {xs : List (List Nat)}, vs.length = xs.length → (∀ (i : Nat) v, vs[i]? = some v → ∃ u, ∀ x, xs[i]? = some x → v = .str (mkS x) u) → StrsAre vs (xs.map mkS)
  | [], [], _, _ => .nil
  | [], _ :: _, h, _ => by simp at h
  | _ :: _, [], h, _ => by simp at h
  | v :: vs, x :: xs, h, hv => by
    obtain ⟨u, hu⟩ := hv 0 v rfl
    have := hu x rfl
    subst this
    exact .cons _ _ (strs_of (by simpa using h) (fun i v' e => hv (i + 1) v' (by simpa using e)))
theorem len_mk (xs : List (List Nat)) : ((xs.map mkS).map (·.length)).sum = xs.flatten.length := by
  induction xs with
  | nil => rfl
  | cons x xs ih => simp only [List.map_cons, List.sum_cons, List.flatten_cons, List.length_append, ih]; simp [Str.length]
/-- ''.join of a comprehension's list -/
theorem join_c {w : World} {A : Around} {E : Value → Shared → Prop} {s : Shared} {env : Env} {p2 p3 p10 : Pos} {le : Expr} {Q : Value → Shared → Prop} (hl : p3.endLine = p10.line)
    (h : ∀ t : Nat, wpAny (model PP w) A (eval le env) (fun v s₁ => ∃ (P : Addr) (vs : Array Value) (xs : List (List Nat)), v = .ref P ∧ s₁.heap.IsList P vs ∧ StrsAre vs.toList (xs.map mkS) ∧ xs.flatten.length ≤ 1000 ∧ ∀ t' u, Q (.str (mkS xs.flatten) u) { s₁ with toks := t' }) E { s with toks := t })
    (hs : starEach [le] env = [(false, eval le env)] := by rfl) :
    wpAny (model PP w) A (eval (.Call (.Attribute (csE "" p2) (Str.ofString "join") p3) [le] [] p10) env) Q E s := by
  refine MethodL_ hl ?_ rfl (by rw [hs]; rfl)
  rw [hs]
  refine wpAny_Constant_str ?_
  refine GM.join ?_
  refine method1_meets F.slot_str_join F.entry_str_join (wpAny_mono (h _) ?_ (fun _ _ x => x))
  rintro _ s₁ ⟨P, vs, xs, rfl, il, sa, le, q⟩
  obtain ⟨l, hv, ht⟩ := strsAre_values sa
  have e : vs = (strValues l).toArray := by rw [← hv]
  subst e
  have em : Str.ofString "" = mkS [] := by kernel_rfl!
  have ok : JoinOk (Str.ofString "") (l.map (·.1)) = true := by
    rw [ht]
    refine joinOk_of ?_
    rw [len_mk, em]
    simp [Str.length]
    simp at le
    omega
  have ok' := ok
  unfold JoinOk at ok
  rw [Bool.not_eq_true'] at ok
  refine ⟨typeIs_str _ _ _, F.args_str_join_2 _ _, _, meets_str_join_list _ _ P l ok, ⟨il, post_join l ⟨joinFit_length ok, fun t' k => ?_⟩⟩⟩
  rw [ht, em]
  show Q (.str (Txt.join _ _) _) _
  rw [join_mk]
  exact q _ _
end Mine
end
section
open PySem PySem.W PySem.W.X PyProof.Rows PySem.Calls PySem.SeqAt
set_option Elab.async false
set_option maxRecDepth 100000
set_option linter.unusedVariables false
set_option pp.maxSteps 500
namespace Mine
theorem cat_flat (r : Nat → Nat) (tl : List (Nat × Nat)) : (tl.map fun p => pc p.1 (r p.1) p.2).flatten = catP r tl := by simp [catP, List.flatMap]
theorem out_flat (r : Nat → Nat) (tl : List (Nat × Nat)) : (tl.map fun p => [sg (r p.1) p.2]).flatten = outP r tl := by
  induction tl with
  | nil => rfl
  | cons p tl ih => simp only [List.map_cons, List.flatten_cons, ih]; rfl
theorem ad133 (P : Params) : nsIn (Kc P) mainGlobals (Str.ofString "_law_read") = some (some (.ref 133)) := by kernel_rfl
theorem read_fd (P : Params) : ∃ o fd, (Kc P).lookup 133 = some o ∧ o.data = .func fd := ⟨_, _, rfl, rfl⟩
theorem out_ok (r : Nat → Nat) (tl : List (Nat × Nat)) : PyData.strOk (mkS (outP r tl)) = true := by
  have e : ∀ c ∈ outP r tl, decide (c < 0x110000) = true := by
    intro c hc
    obtain ⟨p, hp, rfl⟩ := List.mem_map.mp hc
    have all : ∀ c ∈ sgL, decide (c < 0x110000) = true := by decide
    exact all _ (sg_mem _ _)
  have := List.all_eq_true.mpr e
  show (mkS (outP r tl)).cps.all _ = true
  simpa using this
theorem two_shaped (x : List Nat) (h : PyData.strOk (mkS x) = true) : shaped (.list [.str (mkS x), .str (mkS [])]) = true := by
  show (PyData.canLay0 (.list [.str (mkS x), .str (mkS [])]) && decide (PyData.depth (.list [.str (mkS x), .str (mkS [])]) ≤ 64)) = true
  rw [Bool.and_eq_true]
  refine ⟨?_, decide_eq_true ?_⟩
  · simp only [PyData.canLay0, PyData.canLayAll0, h, Bool.true_and, Bool.and_true]; kernel_rfl!
  · simp [PyData.depth, PyData.depthAll]
theorem two_eqv (x : List Nat) : PyData.eqv (.list [.str (mkS x), .str (mkS [])]) (.list [.str (mkS x), .str (mkS [])]) = true := by
  simp [PyData.eqv, PyData.eqvAll]
theorem TimesAt.keep {g g' : Heap} {l : Addr} {a b : Nat → Int} {tl : List (Nat × Nat)} (z : TimesAt g l a b tl) (k : Keep g g') : TimesAt g' l a b tl := by
  obtain ⟨i, p, vs, n, e, hl, hv⟩ := z
  refine ⟨i, p, vs, n, k _ _ e, hl, fun j v q e1 e2 => ?_⟩
  obtain ⟨pp, hp, t1, t2, t3, e'⟩ := hv j v q e1 e2
  exact ⟨pp, hp, t1, t2, t3, k _ _ e'⟩
set_option maxHeartbeats 1000000 in
theorem l9_c {w : World} {A : Around} {s : Shared} {g : Heap} {L : Addr} {m cm : Str → Option Value} {fs : List (Addr × Obj)} {D lt lti : Addr} {r : Nat → Nat} {a b : Nat → Int} {tl : List (Nat × Nat)} {u : Tok} {Q : Flow → Shared → Prop} {E : Value → Shared → Prop}
    (hA : Low A 3) (B : Amb w g) (c : Wc g (lEnv w.params L) m cm fs s.heap) (hfs : ∀ p ∈ fs, p.2.cls = .none) (h5 : ∀ p ∈ tl, p.1 < 5) (hd : DueAt g D r tl) (hm : m (Str.ofString "due") = some (.ref D)) (hml : m (Str.ofString "letters") = some (.str (mkS (catP r tl)) u))
    (hct : cm (Str.ofString "texts") = some (.ref lt)) (T : WrAt g lt (fun i => rotS (r i))) (hr : ∀ k, r k < 8) (hmt : m (Str.ofString "times") = some (.ref lti)) (TA : TimesAt g lti a b tl)
    (k : ∀ h' t', Keep g h' → (∀ p ∈ fs, h'.get? p.1 = some p.2) → Q (.ret (.bool true)) { s with heap := h', toks := t' }) :
    wpAny (model PP w) A (exec (lB 9) (lEnv w.params L)) Q E s := by
  obtain ⟨q1, q2, e⟩ := lB9
  have h40 : tl.length = 40 := tl_len TA.perm
  have clen : (catP r tl).length ≤ 240 := by have := cat_len (r := r) h5; omega
  obtain ⟨h0, gg, dd, tt, oo⟩ := s
  dsimp only at *
  rw [e]
  refine wpAny_Return_some ?_
  refine BoolOp_and ?_
  obtain ⟨p1, p2, p3, p4, p5, p6, p7, p8, p9, p10, p11, e, el⟩ := lB9a
  rw [e]
  refine wpAny_Compare1 ?_
  refine wn_l c hml ?_ (le_kind _ _) (by kernel_rfl!)
  refine join_c el (fun t1 => ?_)
  refine pl_c (A := A) (s := ⟨h0, gg, dd, t1, oo⟩) hA c (le_cells_ok _ _) (le_kind _ _) (lk_l _ _ _ (by kernel_rfl!)) (by decide) duS (duClos _ _) hd (by omega) hm ?_
  intro g1 P1 vs1 n1 h1 t2 kg1 vl1 vp1 c1
  refine ⟨P1, vs1.toArray, tl.map fun p => pc p.1 (r p.1) p.2, rfl, PySem.IsL.isList (c1.at 0 rfl), ?_, ?_, ?_⟩
  · refine strs_of (by simpa using vl1) (fun i v hv => ?_)
    obtain ⟨u, hu⟩ := vp1 i v (by simpa using hv)
    refine ⟨u, fun x hx => ?_⟩
    rw [List.getElem?_map] at hx
    cases eq : tl[i]? with
    | none => rw [eq] at hx; cases hx
    | some q => rw [eq] at hx; cases hx; exact hu q eq
  · rw [cat_flat]; omega
  intro t3 u3
  rw [cat_flat]
  refine PySem.P.eq_str ?_
  refine wpAny_truthy_bool ?_
  rw [beq_self_eq_true, if_pos rfl]
  dsimp only
  clear e el p1 p2 p3 p4 p5 p6 p7 p8 p9 p10 p11 vp1
  obtain ⟨g2, kg2, c2, _⟩ := c1.drop (le_cells_ok _ _)
  have kg : Keep g g2 := fun b o e => kg2 _ _ (kg1 _ _ e)
  refine BoolOp_one ?_
  obtain ⟨p1, p2, p3, p4, p5, p6, p7, p9, p10, p11, e⟩ := lB9b
  rw [e]
  refine wpAny_Compare1 ?_
  refine Call_ ?_
  have B2 := B.keep kg
  refine nm_glob B2 c2.old (v := .ref 65) (ad65 _) ?_ (le_kind _ _) (lk_g _ _ _ (by kernel_rfl!)) (le_glob _ _)
  refine cw_static (f := 65) B2 rfl rfl ?_
  refine args_cons ?_
  refine nm_glob B2 c2.old (v := .ref 133) (ad133 _) ?_ (le_kind _ _) (lk_g _ _ _ (by kernel_rfl!)) (le_glob _ _)
  refine args_cons ?_
  refine wn_l c2 hml ?_ (le_kind _ _) (by kernel_rfl!)
  refine args_cons ?_
  refine List_ ?_
  refine args_cons ?_
  refine wpAny_Constant_str ?_
  refine args_cons ?_
  refine wpAny_Constant_str ?_
  refine args_nil ?_
  refine wpAny_newList ?_
  dsimp only
  have em : Str.ofString "" = mkS [] := by kernel_rfl!
  rw [em]
  generalize t3 + 1 = ta
  generalize ta + 1 = tb
  have hp : (h1.push { cls := .type "list", data := .seq [Value.str (mkS []) t3, Value.str (mkS []) ta].toArray }).get? h1.objs.size = some (listOf #[.str (mkS []) t3, .str (mkS []) ta] 0) := Heap.get?_push_size _ rfl
  have k3 : Keep h1 (h1.push { cls := .type "list", data := .seq [Value.str (mkS []) t3, Value.str (mkS []) ta].toArray }) := fun b o e => Heap.get?_push_of_some _ e
  have c3 := c2.keep k3
  generalize (h1.push { cls := .type "list", data := .seq [Value.str (mkS []) t3, Value.str (mkS []) ta].toArray }) = h3 at hp k3 c3 ⊢
  generalize h1.objs.size = i0 at hp ⊢
  refine args_nil ⟨c3.old, ?_⟩
  obtain ⟨of, fd, lk, hfd⟩ := read_fd w.params
  refine noE (rds_c (n₀ := 2) (V := fun i h v => StateV (stAt (catP r tl) i).1 (stAt (catP r tl) i).2 h v) hA (B2.keep c3.old) (cat_ascii h5) hp (B2.X.keeps c3.old _ _ lk) hfd (fun i h h' v k z => z.keepL k) ⟨i0, _, _, _, rfl, hp⟩ ?_ ?_)
  · rintro A' i s' v y Q' hA' hi ks ⟨st, t4, u4, n4, rfl, est⟩ ⟨ch, u5, ey, rfl⟩ hq
    have ey' : (catP r tl)[i]? = some ch := by simpa using ey
    have sl := st_len (catP r tl) i
    refine lread_c (n := 1) hA' (Frag.In.keeps (B2.keep c3.old).X ks) est (by omega) (by omega) (fun h' t' v' k' z => hq h' t' v' k' ?_)
    rw [st_succ ey']
    exact z
  · rintro h4 t4 v' k4 sv
    have es : stAt (catP r tl) (mkS (catP r tl)).cps.size = (outP r tl, []) := by
      unfold stAt
      rw [List.take_of_length_le (by simp), rd_cat [] h5]
      rfl
    rw [es] at sv
    obtain ⟨st, t5, u5, n5, rfl, est⟩ := sv
    dsimp only at est ⊢
    obtain ⟨g5, kg5, c5, up⟩ := (c3.keep k4).upLists (le_cells_ok _ _) hfs
    have est5 := up _ _ _ est
    refine List_ ?_
    refine args_cons ?_
    obtain ⟨p1, p2, p3, p5, p6, p7, p8, p9, p10, p11, p12, p13, p14, p15, e, el⟩ := ec_eq
    rw [e]
    refine join_c el (fun t6 => ?_)
    have TA5 : TimesAt g5 lti a b tl := TA.keep (fun b o e => kg5 _ _ (kg _ _ e))
    refine tx_c (A := A) (s := ⟨h4, gg, dd, t6, oo⟩) hA c5 hct (T.keep (fun b o e => kg5 _ _ (kg _ _ e))) hr hmt TA5 ?_
    intro g6 P6 vs6 n6 h6 t7 kg6 vl6 vp6 c6
    refine ⟨P6, vs6.toArray, tl.map fun p => [sg (r p.1) p.2], rfl, PySem.IsL.isList (c6.at 0 rfl), ?_, ?_, ?_⟩
    · refine strs_of (by simpa using vl6) (fun i v hv => ?_)
      obtain ⟨u, hu⟩ := vp6 i v (by simpa using hv)
      refine ⟨u, fun x hx => ?_⟩
      rw [List.getElem?_map] at hx
      cases eq : tl[i]? with
      | none => rw [eq] at hx; cases hx
      | some q => rw [eq] at hx; cases hx; exact hu q eq
    · rw [out_flat]; simp [outP, h40]
    intro t8 u8
    rw [out_flat]
    refine args_cons ?_
    refine wpAny_Constant_str ?_
    refine args_nil ?_
    refine wpAny_newList ?_
    dsimp only
    rw [em]
    have hp6 : (h6.push { cls := .type "list", data := .seq [Value.str (mkS (outP r tl)) u8, Value.str (mkS []) t8].toArray }).get? h6.objs.size = some (listOf #[.str (mkS (outP r tl)) u8, .str (mkS []) t8] 0) := Heap.get?_push_size _ rfl
    have k6 : Keep h6 (h6.push { cls := .type "list", data := .seq [Value.str (mkS (outP r tl)) u8, Value.str (mkS []) t8].toArray }) := fun b o e => Heap.get?_push_of_some _ e
    have c7 := c6.keep k6
    generalize (h6.push { cls := .type "list", data := .seq [Value.str (mkS (outP r tl)) u8, Value.str (mkS []) t8].toArray }) = h7 at hp6 k6 c7 ⊢
    generalize h6.objs.size = p7' at hp6 ⊢
    have ok := two_shaped _ (out_ok r tl)
    refine eq_dataH (da := .list [.str (mkS (outP r tl)), .str (mkS [])]) (db := .list [.str (mkS (outP r tl)), .str (mkS [])]) (.list (c7.old _ _ (kg6 _ _ est5)) rfl rfl (.cons (.str _ _) (.cons (.str _ _) .nil))) (.list hp6 rfl rfl (.cons (.str _ _) (.cons (.str _ _) .nil))) ok ok (by have := hA.un; show A.units + 64 < 9900; omega) ?_
    rw [two_eqv]
    exact k h7 _ (fun b o e => c7.old _ _ (kg6 _ _ (kg5 _ _ (kg _ _ e)))) (fun p hp => (c7.fo p (List.mem_cons_of_mem _ hp)).1)
end Mine
end
section
open PySem PySem.W PySem.W.X PyProof.Rows PySem.Calls
set_option Elab.async false
set_option maxRecDepth 100000
set_option linter.unusedVariables false
set_option pp.maxSteps 500
namespace Mine
theorem lk_script (P : Params) (L : Addr) : (lEnv P L).kindOf (Str.ofString "script") = some .local := by kernel_rfl
noncomputable abbrev lBinds (l : Addr) : List (Str × Value) := [(Str.ofString "script", .ref l)]
theorem lbl (P : Params) (L l : Addr) : bindL (lEnv P L).kindOf (lBinds l) (fun _ => none) = fun y => if y = Str.ofString "script" then some (.ref l) else none := by
  unfold lBinds
  rw [bindL, bindL, lk_script, if_pos rfl]
theorem lLoc (P : Params) : (fdL P).scope.names.lookup (Str.ofString "script") = some .local := by kernel_rfl
theorem le_cells_in {P : Params} {L : Addr} {n : Str} {a : Addr} (h : (lEnv P L).cells.lookup n = some a) : a = L + 1 + 1 ∨ a = L + 1 := by
  rw [le_cells] at h
  have z := mem_of_lookup h
  simp only [List.mem_cons, Prod.mk.injEq, List.not_mem_nil, or_false] at z
  rcases z with ⟨_, rfl⟩ | ⟨_, rfl⟩
  · exact .inl rfl
  · exact .inr rfl
theorem Told.due {g : Heap} {l : Addr} {a b : Nat → Int} {r : Nat → Nat} {tl tl' : List (Nat × Nat)} (t : Told g l a b r tl') (e : tl' = tl) : DueAt g l r tl := by
  subst e
  exact t.list
theorem DueAt.keep {g g' : Heap} {l : Addr} {r : Nat → Nat} {tl : List (Nat × Nat)} (d : DueAt g l r tl) (k : Keep g g') : DueAt g' l r tl := by
  obtain ⟨ts, n, e, hl, ht⟩ := d
  exact ⟨ts, n, k _ _ e, hl, fun i q p e1 e2 => (ht i q p e1 e2).keep k⟩
/-- both tables hidden -/
noncomputable def hide2 (h : Heap) : Heap := (h.hide 51).hide 135
theorem of_hide2 {h : Heap} {b : Addr} {o : Obj} (e : (hide2 h).get? b = some o) : h.get? b = some o := Heap.of_hide (Heap.of_hide e)
theorem hide2_51 (h : Heap) : (hide2 h).get? 51 = none := (Heap.hide_ne (h.hide 51) (a := 135) (b := 51) (by decide)).trans (Heap.hide_self _ _)
theorem hide2_135 (h : Heap) : (hide2 h).get? 135 = none := Heap.hide_self _ _
theorem hide2_ne {h : Heap} {b : Addr} (h1 : b ≠ 51) (h2 : b ≠ 135) : (hide2 h).get? b = h.get? b := (Heap.hide_ne _ h2).trans (Heap.hide_ne _ h1)
set_option maxHeartbeats 2000000 in
theorem law_c {w : World} {A : Around} {h : Heap} {gg : Array GenState} {d : Drawn} {t : Nat} {os : OsState} {l : Addr} {vs : List Value} {ns : List Int} {Q : Value → Shared → Prop}
    (hA : Low A 23) (B : Amb w (hide2 h)) (h51 : h.get? 51 = some (tabObj #[])) (h135 : h.get? 135 = some (tabObj #[])) (hl : (hide2 h).IsList l vs.toArray) (hI : IntsAre vs ns) (hz : ns.length ≤ 63)
    (k : ∀ h' t', Keep (hide2 h) h' → (∃ vs, h'.get? 51 = some (tabObj vs)) → (∃ vs, h'.get? 135 = some (tabObj vs)) → Q (.bool true) ⟨h', gg, d, t', os⟩) :
    wpAny (model PP w) A (call (.ref 138) [.ref l]) Q (fun _ _ => False) ⟨h, gg, d, t, os⟩ := by
  have X : (Kc w.params).In h := Frag.In.keeps B.X (fun b o e => of_hide2 e)
  refine wpAny_call (codeAny_call_cells (fd := fdL w.params) (body := lBd) hA.room (X _ _ (lL w.params)) (dL w.params) (nolimit_of X) (codeRec_of X (codeL _)) (bL' w.params) (baL w.params _) (cL' w.params) ?_ ?_ (by rw [sL]; kernel_rfl!) (by rw [sL]; kernel_rfl!) (by rw [sL]; kernel_rfl!))
  · intro x hx
    rcases List.mem_cons.mp hx with rfl | hx
    · exact Or.inl (lLoc _)
    · cases hx
  intro s₁ ic
  obtain ⟨h1, t1, rfl, k1⟩ := ic.done
  have c0 := Wc.ofCall ic
  generalize hL : h.objs.size = L at ic c0 ⊢
  dsimp only at c0 k1 hL ⊢
  change Wc h (lEnv w.params L) (bindL (lEnv w.params L).kindOf (lBinds l) (fun _ => none)) (bindC (lEnv w.params L).kindOf (lBinds l) (fun _ => none)) [] h1 at c0
  rw [lbl] at c0
  generalize bindC (lEnv w.params L).kindOf (lBinds l) (fun _ => none) = cm0 at c0
  have b135 : 135 < L := by rw [← hL]; exact Heap.lt_size h135
  have hA1 : Low (A.deeper (lEnv w.params L)) 22 := hA.deeper _
  rw [show (callEnvC (fdL w.params) L 138) = lEnv w.params L from rfl]
  refine noE ?_
  generalize (A.deeper (lEnv w.params L)) = A1 at hA1 ⊢
  have c1 := c0.sub (g' := hide2 h) (fun b o e => of_hide2 e)
  have c2 := c1.addOld (k1 _ _ h135) (hide2_135 h) (show (135 : Nat) ≠ L by omega) (fun n q => by rcases le_cells_in q with z | z <;> (have : (135 : Nat) = _ := z; omega)) (fun p hp => by cases hp)
  have c3 := c2.addOld (k1 _ _ h51) (hide2_51 h) (show (51 : Nat) ≠ L by omega) (fun n q => by rcases le_cells_in q with z | z <;> (have : (51 : Nat) = _ := z; omega)) (fun p hp => by
    rcases List.mem_cons.mp hp with rfl | hp
    · decide
    · cases hp)
  clear c0 c1 c2 ic k1
  obtain ⟨Bd, hBd⟩ : ∃ Bd, Bd = lBd := ⟨_, rfl⟩
  rw [lBd_eq]
  clear hBd Bd
  have hfs : ∀ p ∈ [((135 : Addr), tabObj #[])], p.2.cls = .none := fun p hp => by
    rcases List.mem_cons.mp hp with rfl | hp
    · rfl
    · cases hp
  -- numbers
  refine wpAny_execs_cons ?_
  refine l0_c (vs := vs) (ns := ns) B c3 (if_pos rfl) hl hI hz ?_
  intro ln xv h2 t2 hx c4
  obtain ⟨g1, kg1, c5, eln⟩ := c4.drop (le_cells_ok _ _)
  clear c3 c4
  dsimp only
  generalize hxs : numsOf ns = xs at hx
  have x5 : xs.length = 5 := by rw [← hxs]; exact numsOf_len ns
  have B1 := B.keep kg1
  generalize hm : (fun y => if y = Str.ofString "numbers" then some (Value.ref ln) else (fun y => if y = Str.ofString "script" then some (Value.ref l) else none) y) = m0 at c5
  have hmn : m0 (Str.ofString "numbers") = some (.ref ln) := by rw [← hm]; exact if_pos rfl
  clear hm
  -- texts
  refine wpAny_execs_cons ?_
  refine l1_c hA1 c5 hmn (PySem.IsL.isList eln) hx x5 ?_
  intro g2 lt h3 t3 kg2 T c6
  dsimp only
  -- speeds
  refine wpAny_execs_cons ?_
  refine l2_c hA1 c6 hmn (PySem.IsL.isList (kg2 _ _ eln)) hx x5 ?_
  intro g3 ls h4 t4 kg3 sp c7
  dsimp only
  obtain ⟨r, hr⟩ : ∃ r : Nat → Nat, r = fun i => rr (xs.getD i 0) := ⟨_, rfl⟩
  obtain ⟨a, ha⟩ : ∃ a : Nat → Int, a = fun i => aa (xs.getD i 0) := ⟨_, rfl⟩
  obtain ⟨b, hb⟩ : ∃ b : Nat → Int, b = fun i => bb (xs.getD i 0) := ⟨_, rfl⟩
  have T3 : WrAt g3 lt (fun i => rotS (r i)) := by rw [hr]; exact T.keep kg3
  have sp3 : SpAt g3 ls a b := by rw [ha, hb]; exact sp
  have S : Sp a b := by rw [ha, hb]; exact sp_of (fun i => xs.getD i 0)
  have r8 : ∀ i, r i < 8 := by rw [hr]; exact fun i => rr_lt _
  have B3 := B1.keep (fun b o e => kg3 _ _ (kg2 _ _ e))
  have kg03 : Keep (hide2 h) g3 := fun b o e => kg3 _ _ (kg2 _ _ (kg1 _ _ e))
  clear hr ha hb T sp c5 c6 hx x5 hxs eln
  have hct : (fun y => if y = Str.ofString "speeds" then some (Value.ref ls) else (fun y => if y = Str.ofString "texts" then some (Value.ref lt) else cm0 y) y) (Str.ofString "texts") = some (.ref lt) := rfl
  have hcs : (fun y => if y = Str.ofString "speeds" then some (Value.ref ls) else (fun y => if y = Str.ofString "texts" then some (Value.ref lt) else cm0 y) y) (Str.ofString "speeds") = some (.ref ls) := if_pos rfl
  generalize (fun y => if y = Str.ofString "speeds" then some (Value.ref ls) else (fun y => if y = Str.ofString "texts" then some (Value.ref lt) else cm0 y) y) = cm at c7 hct hcs
  -- writings
  refine wpAny_execs_cons ?_
  refine l3_c (n₀ := 21) hA1 B3 c7 hct T3 r8 ?_
  intro g4 lw h5 t5 kg4 W c8
  dsimp only
  clear c7
  -- times
  refine wpAny_execs_cons ?_
  refine l4_c hA1 (B3.keep kg4) c8 (sp3.keep kg4) S hcs ?_
  intro g5 lti tl h6 t6 kg5 TA c9
  dsimp only
  clear c8
  have h5 : ∀ p ∈ tl, p.1 < 5 := fun p hp => ((mem_allKN p).mp (TA.perm.mem_iff.mp hp)).1
  have h40 : tl.length = 40 := tl_len TA.perm
  have B5 := (B3.keep kg4).keep kg5
  have T5 := (T3.keep kg4).keep kg5
  -- due
  refine wpAny_execs_cons ?_
  refine l5_c (n₀ := 21) hA1 B5 c9 hct T5 r8 (if_pos rfl) TA ?_
  intro g6 ld h7 t7 kg6 dd c10
  dsimp only
  clear c9
  -- woven
  refine wpAny_execs_cons ?_
  refine l6_c (a := a) (b := b) (r := r) hA1 (B5.keep kg6) c10 hfs (((sp3.keep kg4).keep kg5).keep kg6) ((W.keep kg5).keep kg6) S r8 rfl hcs ?_
  intro g7 lv tl' v51 h8 t8 kg7 td c11
  dsimp only
  clear c10
  have et : tl' = tl := inc_unique (td.perm.trans TA.perm.symm) td.inc TA.inc
  have dv := td.due et
  have dd7 := dd.keep kg7
  have TA7 := (TA.keep kg6).keep kg7
  have T7 := (T5.keep kg6).keep kg7
  have B7 := (B5.keep kg6).keep kg7
  have kg07 : Keep (hide2 h) g7 := fun b o e => kg7 _ _ (kg6 _ _ (kg5 _ _ (kg4 _ _ (kg03 _ _ e))))
  clear td et tl'
  have e1 : (fun y => if y = Str.ofString "woven" then some (Value.ref lv) else (fun y => if y = Str.ofString "due" then some (Value.ref ld) else (fun y => if y = Str.ofString "times" then some (Value.ref lti) else (fun y => if y = Str.ofString "writings" then some (Value.ref lw) else m0 y) y) y) y) (Str.ofString "woven") = some (.ref lv) := if_pos rfl
  have e2 : (fun y => if y = Str.ofString "woven" then some (Value.ref lv) else (fun y => if y = Str.ofString "due" then some (Value.ref ld) else (fun y => if y = Str.ofString "times" then some (Value.ref lti) else (fun y => if y = Str.ofString "writings" then some (Value.ref lw) else m0 y) y) y) y) (Str.ofString "due") = some (.ref ld) := rfl
  have e3 : (fun y => if y = Str.ofString "woven" then some (Value.ref lv) else (fun y => if y = Str.ofString "due" then some (Value.ref ld) else (fun y => if y = Str.ofString "times" then some (Value.ref lti) else (fun y => if y = Str.ofString "writings" then some (Value.ref lw) else m0 y) y) y) y) (Str.ofString "times") = some (.ref lti) := rfl
  generalize (fun y => if y = Str.ofString "woven" then some (Value.ref lv) else (fun y => if y = Str.ofString "due" then some (Value.ref ld) else (fun y => if y = Str.ofString "times" then some (Value.ref lti) else (fun y => if y = Str.ofString "writings" then some (Value.ref lw) else m0 y) y) y) y) = m1 at c11 e1 e2 e3
  -- woven != due
  refine wpAny_execs_cons ?_
  refine l7_c hA1 c11 h5 dv dd7 e1 e2 ?_
  dsimp only
  -- letters
  refine wpAny_execs_cons ?_
  refine l8_c (hA1.less (by decide)) B7 c11 h5 h40 dv e1 ?_
  intro g8 v135 h9 t9 u9 kg8 c12
  dsimp only
  clear c11
  -- return
  refine wpAny_execs_cons ?_
  refine l9_c (D := ld) (lt := lt) (lti := lti) (r := r) (a := a) (b := b) (tl := tl) (u := u9) (hA1.less (by decide)) (B7.keep kg8) c12 ?_ h5 (dd7.keep kg8) ?_ (if_pos rfl) hct (T7.keep kg8) r8 ?_ (TA7.keep kg8) ?_
  · intro p hp
    rcases List.mem_cons.mp hp with rfl | hp
    · rfl
    rcases List.mem_cons.mp hp with rfl | hp
    · rfl
    · cases hp
  · exact (if_neg (by decide)).trans e2
  · exact (if_neg (by decide)).trans e3
  intro h10 t10 k10 f10
  dsimp only
  exact k h10 t10 (fun b o e => k10 _ _ (kg8 _ _ (kg07 _ _ e))) ⟨_, f10 _ (List.mem_cons_self ..)⟩ ⟨_, f10 _ (List.mem_cons_of_mem _ (List.mem_cons_self ..))⟩
end Mine
end
section
open PySem PySem.W PySem.W.X PyProof.Rows PySem.Calls
set_option Elab.async false
set_option maxRecDepth 100000
set_option linter.unusedVariables false
set_option pp.maxSteps 500
namespace Mine
theorem kc_of {P : Params} {b : Addr} {o : Obj} (h : (Kc P).lookup b = some o) : (KF P).lookup b = some o ∧ b ≠ 51 ∧ b ≠ 135 := by
  unfold Kc at h
  generalize KF P = l at h ⊢
  induction l with
  | nil => simp at h
  | cons p l ih =>
    rw [List.filter_cons] at h
    obtain ⟨c, o'⟩ := p
    by_cases hc : (!(Nat.beq c 51 || Nat.beq c 135)) = true
    · rw [if_pos hc, List.lookup_cons] at h
      rw [List.lookup_cons]
      by_cases hbc : (b == c) = true
      · rw [hbc] at h ⊢
        refine ⟨h, ?_⟩
        have e : b = c := beq_iff_eq.mp hbc
        subst e
        refine ⟨fun q => ?_, fun q => ?_⟩
        · subst q; exact absurd hc (by decide)
        · subst q; exact absurd hc (by decide)
      · rw [Bool.not_eq_true] at hbc
        rw [hbc] at h ⊢
        exact ih h
    · rw [if_neg hc] at h
      obtain ⟨h1, h2, h3⟩ := ih h
      rw [List.lookup_cons]
      have nb : (b == c) = false := by
        cases q : b == c with
        | false => rfl
        | true =>
          have e : b = c := beq_iff_eq.mp q
          subst e
          exact absurd (by
            have n1 : Nat.beq b 51 = false := by
              cases z : Nat.beq b 51 with
              | false => rfl
              | true => exact absurd (Nat.eq_of_beq_eq_true z) h2
            have n2 : Nat.beq b 135 = false := by
              cases z : Nat.beq b 135 with
              | false => rfl
              | true => exact absurd (Nat.eq_of_beq_eq_true z) h3
            rw [n1, n2]; rfl) hc
      rw [nb]
      exact ⟨h1, h2, h3⟩
theorem p51 (P : Params) : (KF P).lookup 51 = some (tabObj #[]) := by kernel_rfl
theorem p135 (P : Params) : (KF P).lookup 135 = some (tabObj #[]) := by kernel_rfl
theorem p55 (P : Params) : ∃ o vs, (KF P).lookup 55 = some o ∧ o.cls = .type "code" ∧ o.data = .fields vs ∧ vs[11]? = some (.ref 51) := ⟨_, _, rfl, rfl, rfl, rfl⟩
theorem p137 (P : Params) : ∃ o vs, (KF P).lookup 137 = some o ∧ o.cls = .type "code" ∧ o.data = .fields vs ∧ vs[11]? = some (.ref 135) := ⟨_, _, rfl, rfl, rfl, rfl⟩
theorem ns_hide2 {h : Heap} {a : Addr} {m : Str → Option Value} (n : h.Ns a m) (h1 : a ≠ 51) (h2 : a ≠ 135) : (hide2 h).Ns a m := by
  obtain ⟨o, es, ep, e, r⟩ := n
  exact ⟨o, es, ep, (hide2_ne h1 h2).trans e, r⟩
theorem old_hide2 {h h' : Heap} {P : Params} (X : (KF P).In h) (k : Keep (hide2 h) h') (h51 : ∃ vs, h'.get? 51 = some (tabObj vs)) (h135 : ∃ vs, h'.get? 135 = some (tabObj vs)) : OldK h h' := by
  obtain ⟨v1, e1⟩ := h51
  obtain ⟨v2, e2⟩ := h135
  obtain ⟨o1, w1, a1, b1, d1, f1⟩ := p55 P
  obtain ⟨o2, w2, a2, b2, d2, f2⟩ := p137 P
  refine ⟨fun b o e => ?_, fun b o e => ?_⟩
  · by_cases q1 : b = 51
    · subst q1
      rw [X _ _ (p51 P)] at e
      cases e
      exact .inr (.inl ⟨⟨55, o1, w1, X _ _ a1, b1, d1, f1⟩, rfl, #[], v1, rfl, by rw [Array.empty_append]; exact e1⟩)
    by_cases q2 : b = 135
    · subst q2
      rw [X _ _ (p135 P)] at e
      cases e
      exact .inr (.inl ⟨⟨137, o2, w2, X _ _ a2, b2, d2, f2⟩, rfl, #[], v2, rfl, by rw [Array.empty_append]; exact e2⟩)
    · exact .inl (k _ _ ((hide2_ne q1 q2).trans e))
  · by_cases q1 : b = 51
    · subst q1; exact ⟨_, e1⟩
    by_cases q2 : b = 135
    · subst q2; exact ⟨_, e2⟩
    · exact ⟨_, k _ _ ((hide2_ne q1 q2).trans e)⟩
theorem low_caller : Low callerA 23 := ⟨rfl, by show callerA.depth + 23 ≤ 600; decide, by show callerA.units + 3 * 23 ≤ 600; decide⟩
theorem end_c {w : World} {s : Shared} {mg mb : Str → Option Value} {l : Addr} {vs : List Value} {ns : List Int} {Q : Value → Shared → Prop} {E : Value → Shared → Prop}
    (g : s.heap.Ns mainGlobals mg) (b : s.heap.Ns builtinsNs mb) (bb : ∀ x : Str, x ≠ "__name__" → mb x = bootBuiltins x) (X : (KF w.params).In s.heap)
    (hl : s.heap.IsList l vs.toArray) (hI : IntsAre vs ns) (hz : ns.length ≤ 63)
    (k : ∀ h' t', OldK s.heap h' → Q (.bool true) { s with heap := h', toks := t' }) : wpAny (model PP w) callerA (call (.ref 138) [.ref l]) Q E s := by
  obtain ⟨h, gg, d, t, os⟩ := s
  dsimp only at *
  have h51 := X _ _ (p51 w.params)
  have h135 := X _ _ (p135 w.params)
  have B : Amb w (hide2 h) := ⟨fun a o e => by
    obtain ⟨e1, n1, n2⟩ := kc_of e
    exact (hide2_ne n1 n2).trans (X _ _ e1), ⟨mg, ns_hide2 g (by decide) (by decide)⟩, ⟨mb, ns_hide2 b (by decide) (by decide), bb⟩⟩
  have hl2 : (hide2 h).IsList l vs.toArray := by
    obtain ⟨o, ho, hc, nn, hd⟩ := hl
    refine ⟨o, (hide2_ne (fun q => ?_) (fun q => ?_)).trans ho, hc, nn, hd⟩
    · rw [q, h51] at ho; cases ho; cases hd
    · rw [q, h135] at ho; cases ho; cases hd
  exact noE (law_c low_caller B h51 h135 hl2 hI hz (fun h' t' k' e1 e2 => k h' t' (old_hide2 X k' e1 e2)))
end Mine
end
section
open PySem PySem.W PySem.W.X PyProof.Rows PySem.Calls PySem.Spec
set_option Elab.async false
set_option maxRecDepth 100000
set_option maxHeartbeats 8000000
set_option linter.unusedVariables false
set_option pp.maxSteps 2000
namespace Mine
theorem fin : PySem.Challenge.rw_oy0191_01.Holds := by
  refine holds_law okw (fun said => ?_)
  refine holds_open (q := vw) (loose := lo1) (Xt := fun s => xlAt vw [] s && recOk (RowW.records (OpenRow.toRowW rw1)) s) (XP := XL vw []) (Yf := Hook.obs hk) (Ya := Hook.val hk) (YP := Hook.says hk) (N := 1352) left1 (Hook.of hk) (Hook.keeps hk) (fun s e => xl_of s (Bool.and_eq_true_iff.mp e).1) XL.keeps (by rfl) (by rfl) (by rfl) (fun s e => recFacts_of (Bool.and_eq_true_iff.mp e).2) (by rfl) (by first | assumption | decide +kernel) (by decide +kernel) ⟨rfl, rfl, rfl, rfl, rfl, by decide +kernel⟩ ?hw ?hc
  case hw => w_witness2
  intro w s₀ s₁ mg mb G Y fa o pm cd doc dV kV ho hd hcd hD hmg hg args vals as hpre hlay hrd hwl hlo
  have KX : (KF w.params).In s₁.heap := Y
  have X := (Ground.X G).1
  have V := (Ground.X G).2
  refine Ground.open G ?_
  intro T B D TE TW
  clear hcd hD hd ho
  wrow_args hpre hlay hrd hwl hlo
  x_fa T KX hmg
  clear hmg
  refine end_c T.g T.b T.builtins KX (by assumption) (by assumption) (by omega) (fun h' t' K => ?_)
  exact ⟨.inl ⟨_, _, [], rfl, fun _ => rfl, ReadsW.bool true, by first | rfl | wrow_post, fun _ => ⟨List.nodup_nil, fun _ hm => (nomatch hm)⟩⟩, K, rfl, .of_eq hg⟩
end Mine
end
theorem PySem.Challenge.cw_oy0191_01_holds : PySem.Challenge.rw_oy0191_01.Holds :=
  Mine.fin
