import PyProof.Rows.All
import PyProof.WalkLemmas
import PyProof.Walk
import Wide.All
import OpenK.AllK
import Wide.FinOn
import PySem.Challenge.RW_mr0202_01
set_option Elab.async false
theorem Mine.freshHA : True := by k_with_none; w_top off; first | walk1 | trivial
-- HA
section
open PySem PySem.W PyProof.Rows
set_option Elab.async false
set_option maxRecDepth 100000
set_option linter.unusedVariables false
namespace Hd
noncomputable def probe (_ : Program) : Bool := true
theorem prime_pw : probe PySem.Challenge.pw_mr0202_01 = true := by k_qdec
open PySem.W.Fast renaming tw13178266114437594781 → pw', te13178266114437594781 → pw_eq, tw10295753902157049106 → segGo', te10295753902157049106 → segGo_eq, tw10110043849684766642 → segRun', te10110043849684766642 → segRun_eq, tw14364793385576792824 → tree', te14364793385576792824 → tree_eq, tw11892475500146522536 → denote', te11892475500146522536 → denote_eq, tw12563942051412417395 → execs', te12563942051412417395 → execs_eq, tw15667345088766844465 → topGo', te15667345088766844465 → topGo_eq, tw14082659384304107361 → topRun', te14082659384304107361 → topRun_eq
/-- the text's statement at a place -/
noncomputable def dfn (p : Program) (i : Nat) : Stmt := (p.main.body[i]?).getD default
noncomputable def fdata (s : Stmt) (dV kV doc pm : Value) (an : Option Addr) (cdv ct : Value) (bi gl : Addr) : FuncData := match s with
  | .FunctionDef name args body _ _ _ scope _ _ _ => ⟨name, name, args, .stmts body, scope, gl, [], dV, kV, doc, pm, an, cdv, ct, bi⟩
  | _ => default
noncomputable def comp0 (p : Program) : Expr := match dfn p 0 with | .Assign _ v _ => v | _ => default
noncomputable def scopeC (e : Expr) : Scope := match e with | .ListComp _ _ s _ => s | _ => default
noncomputable def st (l : List Nat) : Str := ⟨⟨l⟩⟩
noncomputable def en (P : Params) (x : Str) (t : Tok) (v : Value) : DictEntry := ⟨PyData.keyHash P x, .str x t, v⟩
noncomputable def hx (n : Nat) : Nat := if n < 10 then 48 + n else 55 + n
noncomputable def hexT (c : Nat) : Str := ⟨⟨[61, hx (c / 16), hx (c % 16)]⟩⟩
noncomputable def txt0 (n : Nat) : Value := .str (hexT n) (193 + 4 * n)
noncomputable def mapL (k : Nat) : List Value := (List.range' 0 k).map txt0
noncomputable def ovs (b : List Nat) (t0 : Nat) : List (Nat × Value) := b.zipIdx.map fun x => (x.1, .str (st [x.1]) (t0 + 3 * x.2))
noncomputable def lsO (ov : List (Nat × Value)) : List Value := (List.range' 0 256).map fun c => (ov.lookup c).getD (txt0 c)
noncomputable def by8 : List Nat := [45, 33, 42, 43, 47, 97, 98, 99, 100, 101, 102, 103, 104, 105, 106, 107, 108, 109, 110, 111, 112, 113, 114, 115, 116, 117, 118, 119, 120, 121, 122, 65, 66, 67, 68, 69, 70, 71, 72, 73, 74, 75, 76, 77, 78, 79, 80, 81, 82, 83, 84, 85, 86, 87, 88, 89, 90, 48, 49, 50, 51, 52, 53, 54, 55, 56, 57]
noncomputable def by10 : List Nat := [32, 33, 34, 35, 36, 37, 38, 39, 40, 41, 42, 43, 44, 45, 46, 47, 48, 49, 50, 51, 52, 53, 54, 55, 56, 57, 58, 59, 60, 62, 63, 64, 65, 66, 67, 68, 69, 70, 71, 72, 73, 74, 75, 76, 77, 78, 79, 80, 81, 82, 83, 84, 85, 86, 87, 88, 89, 90, 91, 92, 93, 94, 95, 96, 97, 98, 99, 100, 101, 102, 103, 104, 105, 106, 107, 108, 109, 110, 111, 112, 113, 114, 115, 116, 117, 118, 119, 120, 121, 122, 123, 124, 125, 126, 9]
noncomputable def it0 (k : Nat) : Obj := ⟨.type "range_iterator", none, .fields #[.int k 0, .int ((256 - k : Nat) : Int) 0, .int 1 0], #[]⟩
noncomputable def lst0 (l : List Value) (n : Nat) : Obj := ⟨.type "list", none, .seq l.toArray n, #[]⟩
noncomputable def loc0 (P : Params) (k : Nat) : Obj := ⟨.type "dict", none, .dict #[en P (st [99]) 191 (.int k (190 + 4 * k))] 1, #[]⟩

noncomputable def s0 : Str := st [60, 109, 111, 100, 117, 108, 101, 62]
noncomputable def s1 : Str := st [47, 99, 108, 97, 105, 109, 47, 99, 117, 116, 46, 112, 121]
noncomputable def s2 : Str := st [95, 95, 109, 97, 105, 110, 95, 95]
noncomputable def s3 : Str := st [95, 95, 110, 97, 109, 101, 95, 95]
noncomputable def s4 : Str := st [95, 95, 100, 111, 99, 95, 95]
noncomputable def s5 : Str := st [95, 95, 112, 97, 99, 107, 97, 103, 101, 95, 95]
noncomputable def s6 : Str := st [95, 95, 108, 111, 97, 100, 101, 114, 95, 95]
noncomputable def s7 : Str := st [95, 95, 115, 112, 101, 99, 95, 95]
noncomputable def s8 : Str := st [95, 95, 97, 110, 110, 111, 116, 97, 116, 105, 111, 110, 115, 95, 95]
noncomputable def s9 : Str := st [95, 95, 98, 117, 105, 108, 116, 105, 110, 115, 95, 95]
noncomputable def s10 : Str := st [95, 95, 102, 105, 108, 101, 95, 95]
noncomputable def s11 : Str := st [95, 95, 99, 97, 99, 104, 101, 100, 95, 95]
noncomputable def s12 : Str := st [95, 81, 85, 79, 80, 82, 73, 95, 77, 65, 80]
noncomputable def s13 : Str := st [99, 112, 121, 51, 49, 51, 46, 101, 109, 97, 105, 108, 46, 113, 117, 111, 112, 114, 105, 109, 105, 109, 101]
noncomputable def s14 : Str := st [95, 81, 85, 79, 80, 82, 73, 95, 72, 69, 65, 68, 69, 82, 95, 77, 65, 80]
noncomputable def s15 : Str := st [95, 81, 85, 79, 80, 82, 73, 95, 66, 79, 68, 89, 95, 77, 65, 80]
noncomputable def s16 : Str := st [97, 115, 99, 105, 105, 95, 108, 111, 119, 101, 114, 99, 97, 115, 101]
noncomputable def s17 : Str := st [97, 98, 99, 100, 101, 102, 103, 104, 105, 106, 107, 108, 109, 110, 111, 112, 113, 114, 115, 116, 117, 118, 119, 120, 121, 122]
noncomputable def s18 : Str := st [97, 115, 99, 105, 105, 95, 117, 112, 112, 101, 114, 99, 97, 115, 101]
noncomputable def s19 : Str := st [65, 66, 67, 68, 69, 70, 71, 72, 73, 74, 75, 76, 77, 78, 79, 80, 81, 82, 83, 84, 85, 86, 87, 88, 89, 90]
noncomputable def s20 : Str := st [97, 115, 99, 105, 105, 95, 108, 101, 116, 116, 101, 114, 115]
noncomputable def s21 : Str := st [97, 98, 99, 100, 101, 102, 103, 104, 105, 106, 107, 108, 109, 110, 111, 112, 113, 114, 115, 116, 117, 118, 119, 120, 121, 122, 65, 66, 67, 68, 69, 70, 71, 72, 73, 74, 75, 76, 77, 78, 79, 80, 81, 82, 83, 84, 85, 86, 87, 88, 89, 90]
noncomputable def s22 : Str := st [100, 105, 103, 105, 116, 115]
noncomputable def s23 : Str := st [48, 49, 50, 51, 52, 53, 54, 55, 56, 57]
noncomputable def s24 : Str := st [99]
noncomputable def s25 : Str := st [95]
noncomputable def s26 : Str := st [117, 110, 113, 117, 111, 116, 101]
noncomputable def s27 : Str := st [113, 117, 111, 116, 101]
noncomputable def s28 : Str := st [95, 81, 85, 79, 80, 82, 73, 95, 66, 79, 68, 89, 95, 69, 78, 67, 79, 68, 69, 95, 77, 65, 80]
noncomputable def s29 : Str := st [115]
noncomputable def s30 : Str := st [10]
noncomputable def s31 : Str := st [13]
noncomputable def s32 : Str := st [99, 112, 121, 51, 49, 51, 46, 102, 117, 110, 99, 116, 111, 111, 108, 115]
noncomputable def s33 : Str := st [95, 103, 116, 95, 102, 114, 111, 109, 95, 108, 116]
noncomputable def s34 : Str := st [95, 108, 101, 95, 102, 114, 111, 109, 95, 108, 116]
noncomputable def s35 : Str := st [95, 103, 101, 95, 102, 114, 111, 109, 95, 108, 116]
noncomputable def s36 : Str := st [95, 103, 101, 95, 102, 114, 111, 109, 95, 108, 101]
noncomputable def s37 : Str := st [95, 108, 116, 95, 102, 114, 111, 109, 95, 108, 101]
noncomputable def s38 : Str := st [95, 103, 116, 95, 102, 114, 111, 109, 95, 108, 101]
noncomputable def s39 : Str := st [95, 108, 116, 95, 102, 114, 111, 109, 95, 103, 116]
noncomputable def s40 : Str := st [95, 103, 101, 95, 102, 114, 111, 109, 95, 103, 116]
noncomputable def s41 : Str := st [95, 108, 101, 95, 102, 114, 111, 109, 95, 103, 116]
noncomputable def s42 : Str := st [95, 108, 101, 95, 102, 114, 111, 109, 95, 103, 101]
noncomputable def s43 : Str := st [115, 101, 108, 102]
noncomputable def s44 : Str := st [111, 116, 104, 101, 114]
noncomputable def s45 : Str := st [111, 112, 95, 114, 101, 115, 117, 108, 116]
noncomputable def s46 : Str := st [108, 97, 119, 95, 109, 114, 48, 50, 48, 50, 95, 48, 49]
noncomputable def s47 : Str := st [95, 103, 116, 95, 102, 114, 111, 109, 95, 103, 101]
noncomputable def s48 : Str := st [95, 108, 116, 95, 102, 114, 111, 109, 95, 103, 101]
noncomputable def s49 : Str := st [99, 109, 112, 95, 116, 111, 95, 107, 101, 121]
noncomputable def s50 : Str := st [95, 105, 110, 105, 116, 105, 97, 108, 95, 109, 105, 115, 115, 105, 110, 103]
noncomputable def s51 : Str := st [114, 101, 100, 117, 99, 101]
noncomputable def s52 : Str := st [95, 108, 97, 119, 95, 114, 111, 119, 115]
noncomputable def s53 : Str := st [95, 108, 97, 119, 95, 104, 101, 120]
noncomputable def s54 : Str := st [95, 108, 97, 119, 95, 116, 119, 101, 108, 118, 101]
noncomputable def s55 : Str := st [108, 97, 119]
noncomputable def s56 : Str := st [109, 121, 99, 109, 112]
noncomputable def s57 : Str := st [75]
noncomputable def s58 : Str := st [102, 117, 110, 99, 116, 105, 111, 110]
noncomputable def s59 : Str := st [115, 101, 113, 117, 101, 110, 99, 101]
noncomputable def s60 : Str := st [105, 110, 105, 116, 105, 97, 108]
noncomputable def s61 : Str := st [105, 116]
noncomputable def s62 : Str := st [118, 97, 108, 117, 101]
noncomputable def s63 : Str := st [101, 108, 101, 109, 101, 110, 116]
noncomputable def s64 : Str := st [110, 117, 109, 98, 101, 114, 115]
noncomputable def s65 : Str := st [114, 111, 119, 115]
noncomputable def s66 : Str := st [120]
noncomputable def ob0 (P : Params) : Obj := ⟨(.type "tuple"), none, (.seq #[] 0), #[]⟩
noncomputable def ob1 (P : Params) : Obj := ⟨.none, none, (.fields #[]), #[]⟩
noncomputable def ob2 (P : Params) : Obj := ⟨(.type "code"), none, (.fields #[(.str s0 182), (.str s0 183), (.str s1 184), (.int 1 0), (.int 0 0), (.int 0 0), (.int 0 0), (.int 0 0), (.ref 11), (.bool false), (.int 181 0), (.ref 12), .none, .none, .none, .none, (.int 185 0), (.int 1 0), (.str s1 186)]), #[]⟩
noncomputable def ob3 (P : Params) : Obj := ⟨(.type "frame"), none, .plain, #[(some (.ref 13)), (some (.ref 3)), (some (.ref 3)), none, (some (.str s2 164)), none, (some (.ref 0))]⟩
noncomputable def ob4 (P : Params) : Obj := ⟨(.type "range"), none, (.fields #[(.int 0 188), (.int 256 187), (.int 1 189)]), #[]⟩
noncomputable def ob5 (P : Params) : Obj := ⟨(.type "dict"), none, (.dict #[en P s3 165 (.str s2 164), en P s4 166 .none, en P s5 167 .none, en P s6 168 (.builtin "__main__.__loader__#opaque"), en P s7 169 .none, en P s8 170 (.ref 6), en P s9 171 (.ref 4), en P s10 173 (.str s1 172), en P s11 174 .none, en P s12 1214 (.ref 17)] 10), #[]⟩
noncomputable def ob6 (P : Params) : Obj := ⟨(.type "range_iterator"), none, (.fields #[(.int 256 0), (.int 0 0), (.int 1 0)]), #[]⟩
noncomputable def ob7 (P : Params) : Obj := lst0 (mapL 256) 256
noncomputable def ob8 (P : Params) : Obj := ⟨(.type "dict"), none, (.dict #[] 2), #[]⟩
noncomputable def ob9 (P : Params) : Obj := ⟨(.type "StopIteration"), none, (.fields #[(.ref 19), .none, .none, .none, (.bool false), .none]), #[]⟩
noncomputable def ob10 (P : Params) : Obj := ⟨(.type "dict"), none, (.dict #[en P s3 165 (.str s13 1225), en P s4 166 .none, en P s5 167 .none, en P s6 168 (.builtin "__main__.__loader__#opaque"), en P s7 169 .none, en P s8 170 (.ref 6), en P s9 171 (.ref 4), en P s10 173 (.str s1 172), en P s11 174 .none, en P s12 1214 (.ref 17), en P s14 1215 (.ref 22), en P s15 1216 (.ref 24), en P s16 1218 (.str s17 1217), en P s18 1220 (.str s19 1219), en P s20 1222 (.str s21 1221), en P s22 1224 (.str s23 1223)] 16), #[]⟩
noncomputable def ob11 (P : Params) : Obj := ⟨(.type "slice"), none, (.fields #[.none, .none, .none]), #[]⟩
noncomputable def ob12 (P : Params) : Obj := lst0 (mapL 256) 0
noncomputable def ob13 (P : Params) : Obj := ⟨(.type "dict"), none, (.dict #[en P s3 165 (.str s13 1225), en P s4 166 .none, en P s5 167 .none, en P s6 168 (.builtin "__main__.__loader__#opaque"), en P s7 169 .none, en P s8 170 (.ref 6), en P s9 171 (.ref 4), en P s10 173 (.str s1 172), en P s11 174 .none, en P s12 1214 (.ref 17), en P s14 1215 (.ref 22), en P s15 1216 (.ref 24), en P s16 1218 (.str s17 1217), en P s18 1220 (.str s19 1219), en P s20 1222 (.str s21 1221), en P s22 1224 (.str s23 1223), en P s24 1235 (.int 57 1432)] 17), #[]⟩
noncomputable def ob14 (P : Params) : Obj := lst0 (lsO ((ovs by8 1236))) 0
noncomputable def ob15 (P : Params) : Obj := ⟨(.type "bytes_iterator"), none, (.fields #[.none, (.int 67 0)]), #[]⟩
noncomputable def ob16 (P : Params) : Obj := ⟨(.type "StopIteration"), none, (.fields #[(.ref 26), .none, .none, .none, (.bool false), .none]), #[]⟩
noncomputable def ob17 (P : Params) : Obj := lst0 (lsO ([(32, .str s25 1435)] ++ (ovs by8 1236))) 0
noncomputable def ob18 (P : Params) : Obj := ⟨(.type "dict"), none, (.dict #[en P s3 165 (.str s13 1225), en P s4 166 .none, en P s5 167 .none, en P s6 168 (.builtin "__main__.__loader__#opaque"), en P s7 169 .none, en P s8 170 (.ref 6), en P s9 171 (.ref 4), en P s10 173 (.str s1 172), en P s11 174 .none, en P s12 1214 (.ref 17), en P s14 1215 (.ref 22), en P s15 1216 (.ref 24), en P s16 1218 (.str s17 1217), en P s18 1220 (.str s19 1219), en P s20 1222 (.str s21 1221), en P s22 1224 (.str s23 1223), en P s24 1235 (.int 9 1721)] 17), #[]⟩
noncomputable def ob19 (P : Params) : Obj := lst0 (lsO ((ovs by10 1441))) 0
noncomputable def ob20 (P : Params) : Obj := ⟨(.type "bytes_iterator"), none, (.fields #[.none, (.int 95 0)]), #[]⟩
noncomputable def ob21 (P : Params) : Obj := ⟨(.type "StopIteration"), none, (.fields #[(.ref 29), .none, .none, .none, (.bool false), .none]), #[]⟩
noncomputable def ob22 (P : Params) : Obj := ⟨(.type "dict"), none, (.dict #[en P s3 165 (.str s13 1225), en P s4 166 .none, en P s5 167 .none, en P s6 168 (.builtin "__main__.__loader__#opaque"), en P s7 169 .none, en P s8 170 (.ref 6), en P s9 171 (.ref 4), en P s10 173 (.str s1 172), en P s11 174 .none, en P s12 1214 (.ref 17), en P s14 1215 (.ref 22), en P s15 1216 (.ref 24), en P s16 1218 (.str s17 1217), en P s18 1220 (.str s19 1219), en P s20 1222 (.str s21 1221), en P s22 1224 (.str s23 1223), en P s24 1235 (.int 9 1721), en P s26 1730 (.ref 37), en P s27 1737 (.ref 44), en P s28 1738 (.ref 46)] 20), #[]⟩
noncomputable def ob23 (P : Params) : Obj := ⟨.none, none, (.fields #[(.int 14 0), (.int 0 0), (.ref 36), (.int 16 0), (.int 0 0), (.ref 43)]), #[]⟩
noncomputable def ob24 (P : Params) : Obj := ⟨(.type "tuple"), none, (.seq #[(.str s29 1727)] 0), #[]⟩
noncomputable def ob25 (P : Params) : Obj := ⟨.none, none, (.func (fdata (dfn pw' 11) .none .none .none .none none .none .none 0 0)), #[]⟩
noncomputable def ob26 (P : Params) : Obj := ⟨(.type "code"), none, (.fields #[(.str s26 1724), (.str s26 1725), (.str s1 1726), (.int 14 0), (.int 1 0), (.int 0 0), (.int 0 0), (.int 3 0), (.ref 31), (.bool true), (.int 181 0), (.ref 32), .none, (.ref 33), (.ref 34), (.ref 35), (.int 1728 0), (.int 14 0), (.str s1 1729)]), #[]⟩
noncomputable def ob27 (P : Params) : Obj := ⟨(.type "function"), none, (.func (fdata (dfn pw' 11) .none .none .none (.str s13 1225) none (.ref 36) .none 0 3)), #[]⟩
noncomputable def ob28 (P : Params) : Obj := ⟨(.type "tuple"), none, (.seq #[(.str s24 1734)] 0), #[]⟩
noncomputable def ob29 (P : Params) : Obj := ⟨.none, none, (.func (fdata (dfn pw' 12) .none .none .none .none none .none .none 0 0)), #[]⟩
noncomputable def ob30 (P : Params) : Obj := ⟨(.type "code"), none, (.fields #[(.str s27 1731), (.str s27 1732), (.str s1 1733), (.int 16 0), (.int 1 0), (.int 0 0), (.int 0 0), (.int 3 0), (.ref 38), (.bool true), (.int 181 0), (.ref 39), .none, (.ref 40), (.ref 41), (.ref 42), (.int 1735 0), (.int 16 0), (.str s1 1736)]), #[]⟩
noncomputable def ob31 (P : Params) : Obj := ⟨(.type "function"), none, (.func (fdata (dfn pw' 12) .none .none .none (.str s13 1225) none (.ref 43) .none 0 3)), #[]⟩
noncomputable def ob32 (P : Params) : Obj := ⟨(.type "dict"), none, (.dict #[en P s3 165 (.str s13 1225), en P s4 166 .none, en P s5 167 .none, en P s6 168 (.builtin "__main__.__loader__#opaque"), en P s7 169 .none, en P s8 170 (.ref 6), en P s9 171 (.ref 4), en P s10 173 (.str s1 172), en P s11 174 .none, en P s12 1214 (.ref 17), en P s14 1215 (.ref 22), en P s15 1216 (.ref 24), en P s16 1218 (.str s17 1217), en P s18 1220 (.str s19 1219), en P s20 1222 (.str s21 1221), en P s22 1224 (.str s23 1223), en P s24 1235 (.int 10 1743), en P s26 1730 (.ref 37), en P s27 1737 (.ref 44), en P s28 1738 (.ref 46)] 20), #[]⟩
noncomputable def ob33 (P : Params) : Obj := lst0 (lsO ([(10, .str s30 1745), (13, .str s31 1742)] ++ (ovs by10 1441))) 0
noncomputable def ob34 (P : Params) : Obj := ⟨(.type "bytes_iterator"), none, (.fields #[.none, (.int 2 0)]), #[]⟩
noncomputable def ob35 (P : Params) : Obj := ⟨(.type "StopIteration"), none, (.fields #[(.ref 48), .none, .none, .none, (.bool false), .none]), #[]⟩
noncomputable def ob36 (P : Params) : Obj := ⟨(.type "dict"), none, (.dict #[en P s3 165 (.str s32 1746), en P s4 166 .none, en P s5 167 .none, en P s6 168 (.builtin "__main__.__loader__#opaque"), en P s7 169 .none, en P s8 170 (.ref 6), en P s9 171 (.ref 4), en P s10 173 (.str s1 172), en P s11 174 .none, en P s12 1214 (.ref 17), en P s14 1215 (.ref 22), en P s15 1216 (.ref 24), en P s16 1218 (.str s17 1217), en P s18 1220 (.str s19 1219), en P s20 1222 (.str s21 1221), en P s22 1224 (.str s23 1223), en P s26 1730 (.ref 37), en P s27 1737 (.ref 44), en P s28 1738 (.ref 46), en P s33 1756 (.ref 56), en P s34 1765 (.ref 63), en P s35 1774 (.ref 70), en P s36 1783 (.ref 77), en P s37 1792 (.ref 84), en P s38 1801 (.ref 91), en P s39 1810 (.ref 98), en P s40 1819 (.ref 105), en P s41 1828 (.ref 112), en P s42 1837 (.ref 119)] 31), #[]⟩
noncomputable def ob37 (P : Params) : Obj := ⟨.none, none, (.fields #[(.int 14 0), (.int 0 0), (.ref 36), (.int 16 0), (.int 0 0), (.ref 43), (.int 23 0), (.int 0 0), (.ref 55), (.int 28 0), (.int 0 0), (.ref 62), (.int 33 0), (.int 0 0), (.ref 69), (.int 38 0), (.int 0 0), (.ref 76), (.int 43 0), (.int 0 0), (.ref 83), (.int 48 0), (.int 0 0), (.ref 90), (.int 53 0), (.int 0 0), (.ref 97), (.int 58 0), (.int 0 0), (.ref 104), (.int 63 0), (.int 0 0), (.ref 111), (.int 68 0), (.int 0 0), (.ref 118)]), #[]⟩
noncomputable def ob38 (P : Params) : Obj := ⟨(.type "tuple"), none, (.seq #[(.str s43 1751), (.str s44 1752), (.str s45 1753)] 0), #[]⟩
noncomputable def ob39 (P : Params) : Obj := ⟨.none, none, (.func (fdata (dfn pw' 17) .none .none .none .none none .none .none 0 0)), #[]⟩
noncomputable def ob40 (P : Params) : Obj := ⟨(.type "code"), none, (.fields #[(.str s33 1748), (.str s33 1749), (.str s1 1750), (.int 23 0), (.int 2 0), (.int 0 0), (.int 0 0), (.int 3 0), (.ref 50), (.bool true), (.int 181 0), (.ref 51), .none, (.ref 52), (.ref 53), (.ref 54), (.int 1754 0), (.int 23 0), (.str s1 1755)]), #[]⟩
noncomputable def ob41 (P : Params) : Obj := ⟨(.type "function"), none, (.func (fdata (dfn pw' 17) .none .none .none (.str s32 1746) none (.ref 55) .none 0 3)), #[]⟩
noncomputable def ob42 (P : Params) : Obj := ⟨(.type "tuple"), none, (.seq #[(.str s43 1760), (.str s44 1761), (.str s45 1762)] 0), #[]⟩
noncomputable def ob43 (P : Params) : Obj := ⟨.none, none, (.func (fdata (dfn pw' 18) .none .none .none .none none .none .none 0 0)), #[]⟩
noncomputable def ob44 (P : Params) : Obj := ⟨(.type "code"), none, (.fields #[(.str s34 1757), (.str s34 1758), (.str s1 1759), (.int 28 0), (.int 2 0), (.int 0 0), (.int 0 0), (.int 3 0), (.ref 57), (.bool true), (.int 181 0), (.ref 58), .none, (.ref 59), (.ref 60), (.ref 61), (.int 1763 0), (.int 28 0), (.str s1 1764)]), #[]⟩
noncomputable def ob45 (P : Params) : Obj := ⟨(.type "function"), none, (.func (fdata (dfn pw' 18) .none .none .none (.str s32 1746) none (.ref 62) .none 0 3)), #[]⟩
noncomputable def ob46 (P : Params) : Obj := ⟨(.type "tuple"), none, (.seq #[(.str s43 1769), (.str s44 1770), (.str s45 1771)] 0), #[]⟩
noncomputable def ob47 (P : Params) : Obj := ⟨.none, none, (.func (fdata (dfn pw' 19) .none .none .none .none none .none .none 0 0)), #[]⟩
noncomputable def ob48 (P : Params) : Obj := ⟨(.type "code"), none, (.fields #[(.str s35 1766), (.str s35 1767), (.str s1 1768), (.int 33 0), (.int 2 0), (.int 0 0), (.int 0 0), (.int 3 0), (.ref 64), (.bool true), (.int 181 0), (.ref 65), .none, (.ref 66), (.ref 67), (.ref 68), (.int 1772 0), (.int 33 0), (.str s1 1773)]), #[]⟩
noncomputable def ob49 (P : Params) : Obj := ⟨(.type "function"), none, (.func (fdata (dfn pw' 19) .none .none .none (.str s32 1746) none (.ref 69) .none 0 3)), #[]⟩
noncomputable def ob50 (P : Params) : Obj := ⟨(.type "tuple"), none, (.seq #[(.str s43 1778), (.str s44 1779), (.str s45 1780)] 0), #[]⟩
noncomputable def ob51 (P : Params) : Obj := ⟨.none, none, (.func (fdata (dfn pw' 20) .none .none .none .none none .none .none 0 0)), #[]⟩
noncomputable def ob52 (P : Params) : Obj := ⟨(.type "code"), none, (.fields #[(.str s36 1775), (.str s36 1776), (.str s1 1777), (.int 38 0), (.int 2 0), (.int 0 0), (.int 0 0), (.int 3 0), (.ref 71), (.bool true), (.int 181 0), (.ref 72), .none, (.ref 73), (.ref 74), (.ref 75), (.int 1781 0), (.int 38 0), (.str s1 1782)]), #[]⟩
noncomputable def ob53 (P : Params) : Obj := ⟨(.type "function"), none, (.func (fdata (dfn pw' 20) .none .none .none (.str s32 1746) none (.ref 76) .none 0 3)), #[]⟩
noncomputable def ob54 (P : Params) : Obj := ⟨(.type "tuple"), none, (.seq #[(.str s43 1787), (.str s44 1788), (.str s45 1789)] 0), #[]⟩
noncomputable def ob55 (P : Params) : Obj := ⟨.none, none, (.func (fdata (dfn pw' 21) .none .none .none .none none .none .none 0 0)), #[]⟩
noncomputable def ob56 (P : Params) : Obj := ⟨(.type "code"), none, (.fields #[(.str s37 1784), (.str s37 1785), (.str s1 1786), (.int 43 0), (.int 2 0), (.int 0 0), (.int 0 0), (.int 3 0), (.ref 78), (.bool true), (.int 181 0), (.ref 79), .none, (.ref 80), (.ref 81), (.ref 82), (.int 1790 0), (.int 43 0), (.str s1 1791)]), #[]⟩
noncomputable def ob57 (P : Params) : Obj := ⟨(.type "function"), none, (.func (fdata (dfn pw' 21) .none .none .none (.str s32 1746) none (.ref 83) .none 0 3)), #[]⟩
noncomputable def ob58 (P : Params) : Obj := ⟨(.type "tuple"), none, (.seq #[(.str s43 1796), (.str s44 1797), (.str s45 1798)] 0), #[]⟩
noncomputable def ob59 (P : Params) : Obj := ⟨.none, none, (.func (fdata (dfn pw' 22) .none .none .none .none none .none .none 0 0)), #[]⟩
noncomputable def ob60 (P : Params) : Obj := ⟨(.type "code"), none, (.fields #[(.str s38 1793), (.str s38 1794), (.str s1 1795), (.int 48 0), (.int 2 0), (.int 0 0), (.int 0 0), (.int 3 0), (.ref 85), (.bool true), (.int 181 0), (.ref 86), .none, (.ref 87), (.ref 88), (.ref 89), (.int 1799 0), (.int 48 0), (.str s1 1800)]), #[]⟩
noncomputable def ob61 (P : Params) : Obj := ⟨(.type "function"), none, (.func (fdata (dfn pw' 22) .none .none .none (.str s32 1746) none (.ref 90) .none 0 3)), #[]⟩
noncomputable def ob62 (P : Params) : Obj := ⟨(.type "tuple"), none, (.seq #[(.str s43 1805), (.str s44 1806), (.str s45 1807)] 0), #[]⟩
noncomputable def ob63 (P : Params) : Obj := ⟨.none, none, (.func (fdata (dfn pw' 23) .none .none .none .none none .none .none 0 0)), #[]⟩
noncomputable def ob64 (P : Params) : Obj := ⟨(.type "code"), none, (.fields #[(.str s39 1802), (.str s39 1803), (.str s1 1804), (.int 53 0), (.int 2 0), (.int 0 0), (.int 0 0), (.int 3 0), (.ref 92), (.bool true), (.int 181 0), (.ref 93), .none, (.ref 94), (.ref 95), (.ref 96), (.int 1808 0), (.int 53 0), (.str s1 1809)]), #[]⟩
noncomputable def ob65 (P : Params) : Obj := ⟨(.type "function"), none, (.func (fdata (dfn pw' 23) .none .none .none (.str s32 1746) none (.ref 97) .none 0 3)), #[]⟩
noncomputable def ob66 (P : Params) : Obj := ⟨(.type "tuple"), none, (.seq #[(.str s43 1814), (.str s44 1815), (.str s45 1816)] 0), #[]⟩
noncomputable def ob67 (P : Params) : Obj := ⟨.none, none, (.func (fdata (dfn pw' 24) .none .none .none .none none .none .none 0 0)), #[]⟩
noncomputable def ob68 (P : Params) : Obj := ⟨(.type "code"), none, (.fields #[(.str s40 1811), (.str s40 1812), (.str s1 1813), (.int 58 0), (.int 2 0), (.int 0 0), (.int 0 0), (.int 3 0), (.ref 99), (.bool true), (.int 181 0), (.ref 100), .none, (.ref 101), (.ref 102), (.ref 103), (.int 1817 0), (.int 58 0), (.str s1 1818)]), #[]⟩
noncomputable def ob69 (P : Params) : Obj := ⟨(.type "function"), none, (.func (fdata (dfn pw' 24) .none .none .none (.str s32 1746) none (.ref 104) .none 0 3)), #[]⟩
noncomputable def ob70 (P : Params) : Obj := ⟨(.type "tuple"), none, (.seq #[(.str s43 1823), (.str s44 1824), (.str s45 1825)] 0), #[]⟩
noncomputable def ob71 (P : Params) : Obj := ⟨.none, none, (.func (fdata (dfn pw' 25) .none .none .none .none none .none .none 0 0)), #[]⟩
noncomputable def ob72 (P : Params) : Obj := ⟨(.type "code"), none, (.fields #[(.str s41 1820), (.str s41 1821), (.str s1 1822), (.int 63 0), (.int 2 0), (.int 0 0), (.int 0 0), (.int 3 0), (.ref 106), (.bool true), (.int 181 0), (.ref 107), .none, (.ref 108), (.ref 109), (.ref 110), (.int 1826 0), (.int 63 0), (.str s1 1827)]), #[]⟩
noncomputable def ob73 (P : Params) : Obj := ⟨(.type "function"), none, (.func (fdata (dfn pw' 25) .none .none .none (.str s32 1746) none (.ref 111) .none 0 3)), #[]⟩
noncomputable def ob74 (P : Params) : Obj := ⟨(.type "tuple"), none, (.seq #[(.str s43 1832), (.str s44 1833), (.str s45 1834)] 0), #[]⟩
noncomputable def ob75 (P : Params) : Obj := ⟨.none, none, (.func (fdata (dfn pw' 26) .none .none .none .none none .none .none 0 0)), #[]⟩
noncomputable def ob76 (P : Params) : Obj := ⟨(.type "code"), none, (.fields #[(.str s42 1829), (.str s42 1830), (.str s1 1831), (.int 68 0), (.int 2 0), (.int 0 0), (.int 0 0), (.int 3 0), (.ref 113), (.bool true), (.int 181 0), (.ref 114), .none, (.ref 115), (.ref 116), (.ref 117), (.int 1835 0), (.int 68 0), (.str s1 1836)]), #[]⟩
noncomputable def ob77 (P : Params) : Obj := ⟨(.type "function"), none, (.func (fdata (dfn pw' 26) .none .none .none (.str s32 1746) none (.ref 118) .none 0 3)), #[]⟩
noncomputable def ob78 (P : Params) : Obj := ⟨(.type "dict"), none, (.dict #[en P s3 165 (.str s46 1878), en P s4 166 .none, en P s5 167 .none, en P s6 168 (.builtin "__main__.__loader__#opaque"), en P s7 169 .none, en P s8 170 (.ref 6), en P s9 171 (.ref 4), en P s10 173 (.str s1 172), en P s11 174 .none, en P s12 1214 (.ref 17), en P s14 1215 (.ref 22), en P s15 1216 (.ref 24), en P s16 1218 (.str s17 1217), en P s18 1220 (.str s19 1219), en P s20 1222 (.str s21 1221), en P s22 1224 (.str s23 1223), en P s26 1730 (.ref 37), en P s27 1737 (.ref 44), en P s28 1738 (.ref 46), en P s33 1756 (.ref 56), en P s34 1765 (.ref 63), en P s35 1774 (.ref 70), en P s36 1783 (.ref 77), en P s37 1792 (.ref 84), en P s38 1801 (.ref 91), en P s39 1810 (.ref 98), en P s40 1819 (.ref 105), en P s41 1828 (.ref 112), en P s42 1837 (.ref 119), en P s47 1846 (.ref 126), en P s48 1855 (.ref 133), en P s49 1864 (.ref 140), en P s50 1865 (.ref 141), en P s51 1877 (.ref 149), en P s52 1888 (.ref 156), en P s53 1894 (.ref 161), en P s54 1900 (.ref 166), en P s55 1906 (.ref 171)] 40), #[]⟩
noncomputable def ob79 (P : Params) : Obj := ⟨.none, none, (.fields #[(.int 14 0), (.int 0 0), (.ref 36), (.int 16 0), (.int 0 0), (.ref 43), (.int 23 0), (.int 0 0), (.ref 55), (.int 28 0), (.int 0 0), (.ref 62), (.int 33 0), (.int 0 0), (.ref 69), (.int 38 0), (.int 0 0), (.ref 76), (.int 43 0), (.int 0 0), (.ref 83), (.int 48 0), (.int 0 0), (.ref 90), (.int 53 0), (.int 0 0), (.ref 97), (.int 58 0), (.int 0 0), (.ref 104), (.int 63 0), (.int 0 0), (.ref 111), (.int 68 0), (.int 0 0), (.ref 118), (.int 73 0), (.int 0 0), (.ref 125), (.int 78 0), (.int 0 0), (.ref 132), (.int 83 0), (.int 0 0), (.ref 139), (.int 109 0), (.int 0 0), (.ref 148), (.int 122 0), (.int 0 0), (.ref 155), (.int 130 0), (.int 0 0), (.ref 160), (.int 133 0), (.int 0 0), (.ref 165), (.int 141 0), (.int 0 0), (.ref 170)]), #[]⟩
noncomputable def ob80 (P : Params) : Obj := ⟨(.type "tuple"), none, (.seq #[(.str s43 1841), (.str s44 1842), (.str s45 1843)] 0), #[]⟩
noncomputable def ob81 (P : Params) : Obj := ⟨.none, none, (.func (fdata (dfn pw' 27) .none .none .none .none none .none .none 0 0)), #[]⟩
noncomputable def ob82 (P : Params) : Obj := ⟨(.type "code"), none, (.fields #[(.str s47 1838), (.str s47 1839), (.str s1 1840), (.int 73 0), (.int 2 0), (.int 0 0), (.int 0 0), (.int 3 0), (.ref 120), (.bool true), (.int 181 0), (.ref 121), .none, (.ref 122), (.ref 123), (.ref 124), (.int 1844 0), (.int 73 0), (.str s1 1845)]), #[]⟩
noncomputable def ob83 (P : Params) : Obj := ⟨(.type "function"), none, (.func (fdata (dfn pw' 27) .none .none .none (.str s32 1746) none (.ref 125) .none 0 3)), #[]⟩
noncomputable def ob84 (P : Params) : Obj := ⟨(.type "tuple"), none, (.seq #[(.str s43 1850), (.str s44 1851), (.str s45 1852)] 0), #[]⟩
noncomputable def ob85 (P : Params) : Obj := ⟨.none, none, (.func (fdata (dfn pw' 28) .none .none .none .none none .none .none 0 0)), #[]⟩
noncomputable def ob86 (P : Params) : Obj := ⟨(.type "code"), none, (.fields #[(.str s48 1847), (.str s48 1848), (.str s1 1849), (.int 78 0), (.int 2 0), (.int 0 0), (.int 0 0), (.int 3 0), (.ref 127), (.bool true), (.int 181 0), (.ref 128), .none, (.ref 129), (.ref 130), (.ref 131), (.int 1853 0), (.int 78 0), (.str s1 1854)]), #[]⟩
noncomputable def ob87 (P : Params) : Obj := ⟨(.type "function"), none, (.func (fdata (dfn pw' 28) .none .none .none (.str s32 1746) none (.ref 132) .none 0 3)), #[]⟩
noncomputable def ob88 (P : Params) : Obj := ⟨(.type "tuple"), none, (.seq #[(.str s56 1859), (.str s57 1860)] 0), #[]⟩
noncomputable def ob89 (P : Params) : Obj := ⟨(.type "tuple"), none, (.seq #[(.str s56 1861)] 0), #[]⟩
noncomputable def ob90 (P : Params) : Obj := ⟨.none, none, (.func (fdata (dfn pw' 29) .none .none .none .none none .none .none 0 0)), #[]⟩
noncomputable def ob91 (P : Params) : Obj := ⟨(.type "code"), none, (.fields #[(.str s49 1856), (.str s49 1857), (.str s1 1858), (.int 83 0), (.int 1 0), (.int 0 0), (.int 0 0), (.int 3 0), (.ref 134), (.bool true), (.int 181 0), (.ref 135), .none, (.ref 136), (.ref 137), (.ref 138), (.int 1862 0), (.int 83 0), (.str s1 1863)]), #[]⟩
noncomputable def ob92 (P : Params) : Obj := ⟨(.type "function"), none, (.func (fdata (dfn pw' 29) .none .none .none (.str s32 1746) none (.ref 139) .none 0 3)), #[]⟩
noncomputable def ob93 (P : Params) : Obj := ⟨(.type "object"), none, .plain, #[]⟩
noncomputable def ob94 (P : Params) : Obj := ⟨(.type "tuple"), none, (.seq #[(.ref 141)] 0), #[]⟩
noncomputable def ob95 (P : Params) : Obj := ⟨(.type "tuple"), none, (.seq #[(.str s58 1869), (.str s59 1870), (.str s60 1871), (.str s61 1872), (.str s62 1873), (.str s63 1874)] 0), #[]⟩
noncomputable def ob96 (P : Params) : Obj := ⟨.none, none, (.func (fdata (dfn pw' 31) .none .none .none .none none .none .none 0 0)), #[]⟩
noncomputable def ob97 (P : Params) : Obj := ⟨(.type "code"), none, (.fields #[(.str s51 1866), (.str s51 1867), (.str s1 1868), (.int 109 0), (.int 3 0), (.int 0 0), (.int 0 0), (.int 3 0), (.ref 143), (.bool true), (.int 181 0), (.ref 144), .none, (.ref 145), (.ref 146), (.ref 147), (.int 1875 0), (.int 109 0), (.str s1 1876)]), #[]⟩
noncomputable def ob98 (P : Params) : Obj := ⟨(.type "function"), none, (.func (fdata (dfn pw' 31) (.ref 142) .none .none (.str s32 1746) none (.ref 148) .none 0 3)), #[]⟩
noncomputable def ob99 (P : Params) : Obj := ⟨(.type "tuple"), none, (.seq #[(.str s64 1883), (.str s65 1884), (.str s66 1885)] 0), #[]⟩
noncomputable def ob100 (P : Params) : Obj := ⟨.none, none, (.func (fdata (dfn pw' 33) .none .none .none .none none .none .none 0 0)), #[]⟩
noncomputable def ob101 (P : Params) : Obj := ⟨(.type "code"), none, (.fields #[(.str s52 1880), (.str s52 1881), (.str s1 1882), (.int 122 0), (.int 1 0), (.int 0 0), (.int 0 0), (.int 3 0), (.ref 150), (.bool true), (.int 181 0), (.ref 151), .none, (.ref 152), (.ref 153), (.ref 154), (.int 1886 0), (.int 122 0), (.str s1 1887)]), #[]⟩
noncomputable def ob102 (P : Params) : Obj := ⟨(.type "function"), none, (.func (fdata (dfn pw' 33) .none .none .none (.str s46 1878) none (.ref 155) .none 0 3)), #[]⟩
noncomputable def ob103 (P : Params) : Obj := ⟨.none, none, (.func (fdata (dfn pw' 34) .none .none .none .none none .none .none 0 0)), #[]⟩
noncomputable def ob104 (P : Params) : Obj := ⟨(.type "code"), none, (.fields #[(.str s53 1889), (.str s53 1890), (.str s1 1891), (.int 130 0), (.int 1 0), (.int 0 0), (.int 0 0), (.int 3 0), (.ref 157), (.bool true), (.int 181 0), (.ref 158), .none, .none, .none, (.ref 159), (.int 1892 0), (.int 130 0), (.str s1 1893)]), #[]⟩
noncomputable def ob105 (P : Params) : Obj := ⟨(.type "function"), none, (.func (fdata (dfn pw' 34) .none .none .none (.str s46 1878) none (.ref 160) .none 0 3)), #[]⟩
noncomputable def ob106 (P : Params) : Obj := ⟨.none, none, (.func (fdata (dfn pw' 35) .none .none .none .none none .none .none 0 0)), #[]⟩
noncomputable def ob107 (P : Params) : Obj := ⟨(.type "code"), none, (.fields #[(.str s54 1895), (.str s54 1896), (.str s1 1897), (.int 133 0), (.int 4 0), (.int 0 0), (.int 0 0), (.int 3 0), (.ref 162), (.bool true), (.int 181 0), (.ref 163), .none, .none, .none, (.ref 164), (.int 1898 0), (.int 133 0), (.str s1 1899)]), #[]⟩
noncomputable def ob108 (P : Params) : Obj := ⟨(.type "function"), none, (.func (fdata (dfn pw' 35) .none .none .none (.str s46 1878) none (.ref 165) .none 0 3)), #[]⟩
noncomputable def ob109 (P : Params) : Obj := ⟨.none, none, (.func (fdata (dfn pw' 36) .none .none .none .none none .none .none 0 0)), #[]⟩
noncomputable def ob110 (P : Params) : Obj := ⟨(.type "code"), none, (.fields #[(.str s55 1901), (.str s55 1902), (.str s1 1903), (.int 141 0), (.int 1 0), (.int 0 0), (.int 0 0), (.int 3 0), (.ref 167), (.bool true), (.int 181 0), (.ref 168), .none, .none, .none, (.ref 169), (.int 1904 0), (.int 141 0), (.str s1 1905)]), #[]⟩
noncomputable def ob111 (P : Params) : Obj := ⟨(.type "function"), none, (.func (fdata (dfn pw' 36) .none .none .none (.str s46 1878) none (.ref 170) .none 0 3)), #[]⟩
noncomputable def tX0 (P : Params) : BT := (.node (boot_o_0 P) (.node (boot_o_1 P) (.node (boot_o_3 P) (.node (boot_o_7 P) .nil .nil) (.node (ob0 P) .nil .nil)) (.node (boot_o_5 P) (.node (boot_o_9 P) .nil .nil) (.node (ob2 P) .nil .nil))) (.node (boot_o_2 P) (.node (boot_o_4 P) (.node (boot_o_8 P) .nil .nil) (.node (ob1 P) .nil .nil)) (.node (boot_o_6 P) (.node (boot_o_10 P) .nil .nil) (.node (ob3 P) .nil .nil))))
noncomputable def X0 (P : Params) (os : OsState) : SharedT := ⟨tX0 P, 15, {}, #[], boot_drawn, 187, os⟩
noncomputable def tS0 (P : Params) (k : Nat) : BT := (.node (boot_o_0 P) (.node (boot_o_1 P) (.node (boot_o_3 P) (.node (boot_o_7 P) (.node (ob4 P) .nil .nil) .nil) (.node (ob0 P) .nil .nil)) (.node (boot_o_5 P) (.node (boot_o_9 P) (.node (lst0 (mapL (k + 1)) (k + 1)) .nil .nil) .nil) (.node (ob2 P) .nil .nil))) (.node (boot_o_2 P) (.node (boot_o_4 P) (.node (boot_o_8 P) (.node (it0 (k + 1)) .nil .nil) .nil) (.node (ob1 P) .nil .nil)) (.node (boot_o_6 P) (.node (boot_o_10 P) (.node (loc0 P k) .nil .nil) .nil) (.node (ob3 P) .nil .nil))))
noncomputable def S0 (P : Params) (os : OsState) (k : Nat) : SharedT := ⟨tS0 P k, 19, {}, #[], boot_drawn, 194 + 4 * k, os⟩
noncomputable def tX1 (P : Params) : BT := (.node (boot_o_0 P) (.node (boot_o_1 P) (.node (ob5 P) (.node (boot_o_7 P) (.node (ob4 P) .nil .nil) .nil) (.node (ob0 P) (.node (ob0 P) .nil .nil) .nil)) (.node (boot_o_5 P) (.node (boot_o_9 P) (.node (ob7 P) .nil .nil) .nil) (.node (ob2 P) .nil .nil))) (.node (boot_o_2 P) (.node (boot_o_4 P) (.node (boot_o_8 P) (.node (ob6 P) .nil .nil) .nil) (.node (ob1 P) (.node (ob9 P) .nil .nil) .nil)) (.node (boot_o_6 P) (.node (boot_o_10 P) (.node (ob8 P) .nil .nil) .nil) (.node (ob3 P) .nil .nil))))
noncomputable def X1 (P : Params) (os : OsState) : SharedT := ⟨tX1 P, 21, {}, #[], boot_drawn, 1215, os⟩
noncomputable def tX2 (P : Params) : BT := (.node (boot_o_0 P) (.node (boot_o_1 P) (.node (ob10 P) (.node (boot_o_7 P) (.node (ob4 P) .nil .nil) (.node (ob11 P) .nil .nil)) (.node (ob0 P) (.node (ob0 P) .nil .nil) .nil)) (.node (boot_o_5 P) (.node (boot_o_9 P) (.node (ob7 P) .nil .nil) .nil) (.node (ob2 P) (.node (ob11 P) .nil .nil) .nil))) (.node (boot_o_2 P) (.node (boot_o_4 P) (.node (boot_o_8 P) (.node (ob6 P) .nil .nil) (.node (ob12 P) .nil .nil)) (.node (ob1 P) (.node (ob9 P) .nil .nil) .nil)) (.node (boot_o_6 P) (.node (boot_o_10 P) (.node (ob8 P) .nil .nil) .nil) (.node (ob3 P) (.node (ob12 P) .nil .nil) .nil))))
noncomputable def X2 (P : Params) (os : OsState) : SharedT := ⟨tX2 P, 25, {}, #[], boot_drawn, 1227, os⟩
noncomputable def ns8 (P : Params) (j : Nat) : Obj := ⟨(.type "dict"), none, (.dict #[en P s3 165 (.str s13 1225), en P s4 166 .none, en P s5 167 .none, en P s6 168 (.builtin "__main__.__loader__#opaque"), en P s7 169 .none, en P s8 170 (.ref 6), en P s9 171 (.ref 4), en P s10 173 (.str s1 172), en P s11 174 .none, en P s12 1214 (.ref 17), en P s14 1215 (.ref 22), en P s15 1216 (.ref 24), en P s16 1218 (.str s17 1217), en P s18 1220 (.str s19 1219), en P s20 1222 (.str s21 1221), en P s22 1224 (.str s23 1223), en P s24 1235 (.int ((by8[j]?).getD 0 : Nat) (1234 + 3 * j))] 17), #[]⟩
noncomputable def it8 (j : Nat) : Obj := ⟨.type "bytes_iterator", none, .fields #[.bytes (by8.map UInt8.ofNat).toArray 1233, .int (j + 1 : Nat) 0], #[]⟩
noncomputable def tS8 (P : Params) (j : Nat) : BT := (.node (boot_o_0 P) (.node (boot_o_1 P) (.node (ns8 P j) (.node (boot_o_7 P) (.node (ob4 P) .nil .nil) (.node (ob11 P) .nil .nil)) (.node (ob0 P) (.node (ob0 P) .nil .nil) .nil)) (.node (boot_o_5 P) (.node (boot_o_9 P) (.node (ob7 P) .nil .nil) (.node (it8 j) .nil .nil)) (.node (ob2 P) (.node (ob11 P) .nil .nil) .nil))) (.node (boot_o_2 P) (.node (boot_o_4 P) (.node (boot_o_8 P) (.node (ob6 P) .nil .nil) (.node (ob12 P) .nil .nil)) (.node (ob1 P) (.node (ob9 P) .nil .nil) .nil)) (.node (boot_o_6 P) (.node (boot_o_10 P) (.node (ob8 P) .nil .nil) .nil) (.node (ob3 P) (.node (lst0 (lsO (ovs (by8.take (j + 1)) 1236)) 0) .nil .nil) .nil))))
noncomputable def S8 (P : Params) (os : OsState) (j : Nat) : SharedT := ⟨tS8 P j, 26, {}, #[], boot_drawn, 1237 + 3 * j, os⟩
noncomputable def tX3 (P : Params) : BT := (.node (boot_o_0 P) (.node (boot_o_1 P) (.node (ob13 P) (.node (boot_o_7 P) (.node (ob4 P) .nil .nil) (.node (ob11 P) .nil .nil)) (.node (ob0 P) (.node (ob0 P) .nil .nil) (.node (ob16 P) .nil .nil))) (.node (boot_o_5 P) (.node (boot_o_9 P) (.node (ob7 P) .nil .nil) (.node (ob15 P) .nil .nil)) (.node (ob2 P) (.node (ob11 P) .nil .nil) .nil))) (.node (boot_o_2 P) (.node (boot_o_4 P) (.node (boot_o_8 P) (.node (ob6 P) .nil .nil) (.node (ob12 P) .nil .nil)) (.node (ob1 P) (.node (ob9 P) .nil .nil) .nil)) (.node (boot_o_6 P) (.node (boot_o_10 P) (.node (ob8 P) .nil .nil) (.node (ob0 P) .nil .nil)) (.node (ob3 P) (.node (ob14 P) .nil .nil) .nil))))
noncomputable def X3 (P : Params) (os : OsState) : SharedT := ⟨tX3 P, 28, {}, #[], boot_drawn, 1435, os⟩
noncomputable def tX4 (P : Params) : BT := (.node (boot_o_0 P) (.node (boot_o_1 P) (.node (ob13 P) (.node (boot_o_7 P) (.node (ob4 P) .nil .nil) (.node (ob11 P) .nil .nil)) (.node (ob0 P) (.node (ob0 P) .nil .nil) (.node (ob16 P) .nil .nil))) (.node (boot_o_5 P) (.node (boot_o_9 P) (.node (ob7 P) .nil .nil) (.node (ob15 P) .nil .nil)) (.node (ob2 P) (.node (ob11 P) .nil .nil) .nil))) (.node (boot_o_2 P) (.node (boot_o_4 P) (.node (boot_o_8 P) (.node (ob6 P) .nil .nil) (.node (ob12 P) .nil .nil)) (.node (ob1 P) (.node (ob9 P) .nil .nil) .nil)) (.node (boot_o_6 P) (.node (boot_o_10 P) (.node (ob8 P) .nil .nil) (.node (ob0 P) .nil .nil)) (.node (ob3 P) (.node (ob17 P) .nil .nil) .nil))))
noncomputable def X4 (P : Params) (os : OsState) : SharedT := ⟨tX4 P, 28, {}, #[], boot_drawn, 1438, os⟩
noncomputable def ns10 (P : Params) (j : Nat) : Obj := ⟨(.type "dict"), none, (.dict #[en P s3 165 (.str s13 1225), en P s4 166 .none, en P s5 167 .none, en P s6 168 (.builtin "__main__.__loader__#opaque"), en P s7 169 .none, en P s8 170 (.ref 6), en P s9 171 (.ref 4), en P s10 173 (.str s1 172), en P s11 174 .none, en P s12 1214 (.ref 17), en P s14 1215 (.ref 22), en P s15 1216 (.ref 24), en P s16 1218 (.str s17 1217), en P s18 1220 (.str s19 1219), en P s20 1222 (.str s21 1221), en P s22 1224 (.str s23 1223), en P s24 1235 (.int ((by10[j]?).getD 0 : Nat) (1439 + 3 * j))] 17), #[]⟩
noncomputable def it10 (j : Nat) : Obj := ⟨.type "bytes_iterator", none, .fields #[.bytes (by10.map UInt8.ofNat).toArray 1438, .int (j + 1 : Nat) 0], #[]⟩
noncomputable def tS10 (P : Params) (j : Nat) : BT := (.node (boot_o_0 P) (.node (boot_o_1 P) (.node (ns10 P j) (.node (boot_o_7 P) (.node (ob4 P) .nil .nil) (.node (ob11 P) .nil .nil)) (.node (ob0 P) (.node (ob0 P) .nil .nil) (.node (ob16 P) .nil .nil))) (.node (boot_o_5 P) (.node (boot_o_9 P) (.node (ob7 P) .nil .nil) (.node (ob15 P) .nil .nil)) (.node (ob2 P) (.node (ob11 P) .nil .nil) .nil))) (.node (boot_o_2 P) (.node (boot_o_4 P) (.node (boot_o_8 P) (.node (ob6 P) .nil .nil) (.node (lst0 (lsO (ovs (by10.take (j + 1)) 1441)) 0) .nil .nil)) (.node (ob1 P) (.node (ob9 P) .nil .nil) (.node (it10 j) .nil .nil))) (.node (boot_o_6 P) (.node (boot_o_10 P) (.node (ob8 P) .nil .nil) (.node (ob0 P) .nil .nil)) (.node (ob3 P) (.node (ob17 P) .nil .nil) .nil))))
noncomputable def S10 (P : Params) (os : OsState) (j : Nat) : SharedT := ⟨tS10 P j, 29, {}, #[], boot_drawn, 1442 + 3 * j, os⟩
noncomputable def tX5 (P : Params) : BT := (.node (boot_o_0 P) (.node (boot_o_1 P) (.node (ob18 P) (.node (boot_o_7 P) (.node (ob4 P) .nil .nil) (.node (ob11 P) .nil .nil)) (.node (ob0 P) (.node (ob0 P) .nil .nil) (.node (ob16 P) .nil .nil))) (.node (boot_o_5 P) (.node (boot_o_9 P) (.node (ob7 P) .nil .nil) (.node (ob15 P) .nil .nil)) (.node (ob2 P) (.node (ob11 P) .nil .nil) (.node (ob0 P) .nil .nil)))) (.node (boot_o_2 P) (.node (boot_o_4 P) (.node (boot_o_8 P) (.node (ob6 P) .nil .nil) (.node (ob19 P) .nil .nil)) (.node (ob1 P) (.node (ob9 P) .nil .nil) (.node (ob20 P) .nil .nil))) (.node (boot_o_6 P) (.node (boot_o_10 P) (.node (ob8 P) .nil .nil) (.node (ob0 P) .nil .nil)) (.node (ob3 P) (.node (ob17 P) .nil .nil) (.node (ob21 P) .nil .nil)))))
noncomputable def X5 (P : Params) (os : OsState) : SharedT := ⟨tX5 P, 31, {}, #[], boot_drawn, 1724, os⟩
noncomputable def tX6 (P : Params) : BT := (.node (boot_o_0 P) (.node (boot_o_1 P) (.node (ob22 P) (.node (boot_o_7 P) (.node (ob4 P) (.node (ob0 P) .nil .nil) .nil) (.node (ob11 P) (.node (ob1 P) .nil .nil) .nil)) (.node (ob0 P) (.node (ob0 P) (.node (ob25 P) .nil .nil) .nil) (.node (ob16 P) (.node (ob30 P) .nil .nil) .nil))) (.node (boot_o_5 P) (.node (boot_o_9 P) (.node (ob7 P) (.node (ob24 P) .nil .nil) .nil) (.node (ob15 P) (.node (ob0 P) .nil .nil) .nil)) (.node (ob2 P) (.node (ob11 P) (.node (ob27 P) .nil .nil) .nil) (.node (ob0 P) (.node (ob11 P) .nil .nil) .nil)))) (.node (boot_o_2 P) (.node (boot_o_4 P) (.node (boot_o_8 P) (.node (ob6 P) (.node (ob1 P) .nil .nil) .nil) (.node (ob19 P) (.node (ob28 P) .nil .nil) .nil)) (.node (ob23 P) (.node (ob9 P) (.node (ob26 P) .nil .nil) .nil) (.node (ob20 P) (.node (ob31 P) .nil .nil) .nil))) (.node (boot_o_6 P) (.node (boot_o_10 P) (.node (ob8 P) (.node (ob0 P) .nil .nil) .nil) (.node (ob0 P) (.node (ob29 P) .nil .nil) .nil)) (.node (ob3 P) (.node (ob17 P) (.node (ob0 P) .nil .nil) .nil) (.node (ob21 P) (.node (ob19 P) .nil .nil) .nil)))))
noncomputable def X6 (P : Params) (os : OsState) : SharedT := ⟨tX6 P, 47, {}, #[], boot_drawn, 1739, os⟩
noncomputable def tX7 (P : Params) : BT := (.node (boot_o_0 P) (.node (boot_o_1 P) (.node (ob32 P) (.node (boot_o_7 P) (.node (ob4 P) (.node (ob0 P) .nil .nil) (.node (ob34 P) .nil .nil)) (.node (ob11 P) (.node (ob1 P) .nil .nil) .nil)) (.node (ob0 P) (.node (ob0 P) (.node (ob25 P) .nil .nil) .nil) (.node (ob16 P) (.node (ob30 P) .nil .nil) .nil))) (.node (boot_o_5 P) (.node (boot_o_9 P) (.node (ob7 P) (.node (ob24 P) .nil .nil) (.node (ob35 P) .nil .nil)) (.node (ob15 P) (.node (ob0 P) .nil .nil) .nil)) (.node (ob2 P) (.node (ob11 P) (.node (ob27 P) .nil .nil) .nil) (.node (ob0 P) (.node (ob11 P) .nil .nil) .nil)))) (.node (boot_o_2 P) (.node (boot_o_4 P) (.node (boot_o_8 P) (.node (ob6 P) (.node (ob1 P) .nil .nil) (.node (ob0 P) .nil .nil)) (.node (ob19 P) (.node (ob28 P) .nil .nil) .nil)) (.node (ob23 P) (.node (ob9 P) (.node (ob26 P) .nil .nil) .nil) (.node (ob20 P) (.node (ob31 P) .nil .nil) .nil))) (.node (boot_o_6 P) (.node (boot_o_10 P) (.node (ob8 P) (.node (ob0 P) .nil .nil) .nil) (.node (ob0 P) (.node (ob29 P) .nil .nil) .nil)) (.node (ob3 P) (.node (ob17 P) (.node (ob0 P) .nil .nil) .nil) (.node (ob21 P) (.node (ob33 P) .nil .nil) .nil)))))
noncomputable def X7 (P : Params) (os : OsState) : SharedT := ⟨tX7 P, 50, {}, #[], boot_drawn, 1746, os⟩
noncomputable def tX8 (P : Params) : BT := (.node (boot_o_0 P) (.node (boot_o_1 P) (.node (ob36 P) (.node (boot_o_7 P) (.node (ob4 P) (.node (ob0 P) (.node (ob45 P) .nil .nil) (.node (ob0 P) .nil .nil)) (.node (ob34 P) (.node (ob1 P) .nil .nil) (.node (ob72 P) .nil .nil))) (.node (ob11 P) (.node (ob1 P) (.node (ob0 P) .nil .nil) (.node (ob67 P) .nil .nil)) (.node (ob40 P) (.node (ob58 P) .nil .nil) (.node (ob77 P) .nil .nil)))) (.node (ob0 P) (.node (ob0 P) (.node (ob25 P) (.node (ob0 P) .nil .nil) (.node (ob0 P) .nil .nil)) (.node (ob1 P) (.node (ob56 P) .nil .nil) (.node (ob74 P) .nil .nil))) (.node (ob16 P) (.node (ob30 P) (.node (ob51 P) .nil .nil) (.node (ob1 P) .nil .nil)) (.node (ob42 P) (.node (ob61 P) .nil .nil) .nil)))) (.node (boot_o_5 P) (.node (boot_o_9 P) (.node (ob7 P) (.node (ob24 P) (.node (ob1 P) .nil .nil) (.node (ob64 P) .nil .nil)) (.node (ob35 P) (.node (ob0 P) .nil .nil) (.node (ob0 P) .nil .nil))) (.node (ob15 P) (.node (ob0 P) (.node (ob50 P) .nil .nil) (.node (ob69 P) .nil .nil)) (.node (ob0 P) (.node (ob59 P) .nil .nil) .nil))) (.node (ob2 P) (.node (ob11 P) (.node (ob27 P) (.node (ob48 P) .nil .nil) (.node (ob66 P) .nil .nil)) (.node (ob0 P) (.node (ob0 P) .nil .nil) (.node (ob75 P) .nil .nil))) (.node (ob0 P) (.node (ob11 P) (.node (ob53 P) .nil .nil) (.node (ob0 P) .nil .nil)) (.node (ob43 P) (.node (ob1 P) .nil .nil) .nil))))) (.node (boot_o_2 P) (.node (boot_o_4 P) (.node (boot_o_8 P) (.node (ob6 P) (.node (ob1 P) (.node (ob0 P) .nil .nil) (.node (ob63 P) .nil .nil)) (.node (ob0 P) (.node (ob54 P) .nil .nil) (.node (ob73 P) .nil .nil))) (.node (ob19 P) (.node (ob28 P) (.node (ob1 P) .nil .nil) (.node (ob68 P) .nil .nil)) (.node (ob41 P) (.node (ob0 P) .nil .nil) .nil))) (.node (ob37 P) (.node (ob9 P) (.node (ob26 P) (.node (ob47 P) .nil .nil) (.node (ob1 P) .nil .nil)) (.node (ob38 P) (.node (ob57 P) .nil .nil) (.node (ob0 P) .nil .nil))) (.node (ob20 P) (.node (ob31 P) (.node (ob52 P) .nil .nil) (.node (ob70 P) .nil .nil)) (.node (ob0 P) (.node (ob0 P) .nil .nil) .nil)))) (.node (boot_o_6 P) (.node (boot_o_10 P) (.node (ob8 P) (.node (ob0 P) (.node (ob46 P) .nil .nil) (.node (ob65 P) .nil .nil)) (.node (ob0 P) (.node (ob55 P) .nil .nil) (.node (ob1 P) .nil .nil))) (.node (ob0 P) (.node (ob29 P) (.node (ob0 P) .nil .nil) (.node (ob0 P) .nil .nil)) (.node (ob1 P) (.node (ob60 P) .nil .nil) .nil))) (.node (ob3 P) (.node (ob17 P) (.node (ob0 P) (.node (ob49 P) .nil .nil) (.node (ob0 P) .nil .nil)) (.node (ob39 P) (.node (ob1 P) .nil .nil) (.node (ob76 P) .nil .nil))) (.node (ob21 P) (.node (ob33 P) (.node (ob0 P) .nil .nil) (.node (ob71 P) .nil .nil)) (.node (ob44 P) (.node (ob62 P) .nil .nil) .nil))))))
noncomputable def X8 (P : Params) (os : OsState) : SharedT := ⟨tX8 P, 120, {}, #[], boot_drawn, 1838, os⟩
noncomputable def tX9 (P : Params) : BT := (.node (boot_o_0 P) (.node (boot_o_1 P) (.node (ob78 P) (.node (boot_o_7 P) (.node (ob4 P) (.node (ob0 P) (.node (ob45 P) (.node (ob0 P) .nil .nil) .nil) (.node (ob0 P) (.node (ob103 P) .nil .nil) .nil)) (.node (ob34 P) (.node (ob1 P) (.node (ob0 P) .nil .nil) .nil) (.node (ob72 P) .nil .nil))) (.node (ob11 P) (.node (ob1 P) (.node (ob0 P) (.node (ob1 P) .nil .nil) .nil) (.node (ob67 P) (.node (ob0 P) .nil .nil) .nil)) (.node (ob40 P) (.node (ob58 P) (.node (ob1 P) .nil .nil) .nil) (.node (ob77 P) .nil .nil)))) (.node (ob0 P) (.node (ob0 P) (.node (ob25 P) (.node (ob0 P) (.node (ob85 P) .nil .nil) .nil) (.node (ob0 P) (.node (ob1 P) .nil .nil) .nil)) (.node (ob1 P) (.node (ob56 P) (.node (ob96 P) .nil .nil) .nil) (.node (ob74 P) .nil .nil))) (.node (ob16 P) (.node (ob30 P) (.node (ob51 P) (.node (ob91 P) .nil .nil) .nil) (.node (ob1 P) (.node (ob111 P) .nil .nil) .nil)) (.node (ob42 P) (.node (ob61 P) (.node (ob101 P) .nil .nil) .nil) (.node (ob0 P) .nil .nil))))) (.node (boot_o_5 P) (.node (boot_o_9 P) (.node (ob7 P) (.node (ob24 P) (.node (ob1 P) (.node (ob84 P) .nil .nil) .nil) (.node (ob64 P) (.node (ob105 P) .nil .nil) .nil)) (.node (ob35 P) (.node (ob0 P) (.node (ob95 P) .nil .nil) .nil) (.node (ob0 P) .nil .nil))) (.node (ob15 P) (.node (ob0 P) (.node (ob50 P) (.node (ob89 P) .nil .nil) .nil) (.node (ob69 P) (.node (ob109 P) .nil .nil) .nil)) (.node (ob0 P) (.node (ob59 P) (.node (ob0 P) .nil .nil) .nil) (.node (ob1 P) .nil .nil)))) (.node (ob2 P) (.node (ob11 P) (.node (ob27 P) (.node (ob48 P) (.node (ob87 P) .nil .nil) .nil) (.node (ob66 P) (.node (ob107 P) .nil .nil) .nil)) (.node (ob0 P) (.node (ob0 P) (.node (ob98 P) .nil .nil) .nil) (.node (ob75 P) .nil .nil))) (.node (ob0 P) (.node (ob11 P) (.node (ob53 P) (.node (ob93 P) .nil .nil) .nil) (.node (ob0 P) .nil .nil)) (.node (ob43 P) (.node (ob1 P) (.node (ob0 P) .nil .nil) .nil) (.node (ob82 P) .nil .nil)))))) (.node (boot_o_2 P) (.node (boot_o_4 P) (.node (boot_o_8 P) (.node (ob6 P) (.node (ob1 P) (.node (ob0 P) (.node (ob1 P) .nil .nil) .nil) (.node (ob63 P) (.node (ob104 P) .nil .nil) .nil)) (.node (ob0 P) (.node (ob54 P) (.node (ob1 P) .nil .nil) .nil) (.node (ob73 P) .nil .nil))) (.node (ob19 P) (.node (ob28 P) (.node (ob1 P) (.node (ob88 P) .nil .nil) .nil) (.node (ob68 P) (.node (ob1 P) .nil .nil) .nil)) (.node (ob41 P) (.node (ob0 P) (.node (ob99 P) .nil .nil) .nil) (.node (ob0 P) .nil .nil)))) (.node (ob79 P) (.node (ob9 P) (.node (ob26 P) (.node (ob47 P) (.node (ob86 P) .nil .nil) .nil) (.node (ob1 P) (.node (ob106 P) .nil .nil) .nil)) (.node (ob38 P) (.node (ob57 P) (.node (ob97 P) .nil .nil) .nil) (.node (ob0 P) .nil .nil))) (.node (ob20 P) (.node (ob31 P) (.node (ob52 P) (.node (ob92 P) .nil .nil) .nil) (.node (ob70 P) .nil .nil)) (.node (ob0 P) (.node (ob0 P) (.node (ob102 P) .nil .nil) .nil) (.node (ob81 P) .nil .nil))))) (.node (boot_o_6 P) (.node (boot_o_10 P) (.node (ob8 P) (.node (ob0 P) (.node (ob46 P) (.node (ob0 P) .nil .nil) .nil) (.node (ob65 P) (.node (ob0 P) .nil .nil) .nil)) (.node (ob0 P) (.node (ob55 P) (.node (ob0 P) .nil .nil) .nil) (.node (ob1 P) .nil .nil))) (.node (ob0 P) (.node (ob29 P) (.node (ob0 P) (.node (ob90 P) .nil .nil) .nil) (.node (ob0 P) (.node (ob110 P) .nil .nil) .nil)) (.node (ob1 P) (.node (ob60 P) (.node (ob100 P) .nil .nil) .nil) (.node (ob80 P) .nil .nil)))) (.node (ob3 P) (.node (ob17 P) (.node (ob0 P) (.node (ob49 P) (.node (ob0 P) .nil .nil) .nil) (.node (ob0 P) (.node (ob108 P) .nil .nil) .nil)) (.node (ob39 P) (.node (ob1 P) (.node (ob0 P) .nil .nil) .nil) (.node (ob76 P) .nil .nil))) (.node (ob21 P) (.node (ob33 P) (.node (ob0 P) (.node (ob94 P) .nil .nil) .nil) (.node (ob71 P) .nil .nil)) (.node (ob44 P) (.node (ob62 P) (.node (ob1 P) .nil .nil) .nil) (.node (ob83 P) .nil .nil)))))))
noncomputable def X9 (P : Params) (os : OsState) : SharedT := ⟨tX9 P, 172, {}, #[], boot_drawn, 1907, os⟩
noncomputable def H1 (P : Params) : Heap := ⟨#[boot_o_0 P, boot_o_1 P, boot_o_2 P, ob78 P, boot_o_4 P, boot_o_5 P, boot_o_6 P, boot_o_7 P, boot_o_8 P, boot_o_9 P, boot_o_10 P, ob0 P, ob79 P, ob2 P, ob3 P, ob4 P, ob6 P, ob7 P, ob8 P, ob0 P, ob9 P, ob11 P, ob17 P, ob11 P, ob19 P, ob15 P, ob0 P, ob16 P, ob20 P, ob0 P, ob21 P, ob0 P, ob1 P, ob24 P, ob0 P, ob25 P, ob26 P, ob27 P, ob0 P, ob1 P, ob28 P, ob0 P, ob29 P, ob30 P, ob31 P, ob11 P, ob33 P, ob34 P, ob0 P, ob35 P, ob0 P, ob1 P, ob38 P, ob0 P, ob39 P, ob40 P, ob41 P, ob0 P, ob1 P, ob42 P, ob0 P, ob43 P, ob44 P, ob45 P, ob0 P, ob1 P, ob46 P, ob0 P, ob47 P, ob48 P, ob49 P, ob0 P, ob1 P, ob50 P, ob0 P, ob51 P, ob52 P, ob53 P, ob0 P, ob1 P, ob54 P, ob0 P, ob55 P, ob56 P, ob57 P, ob0 P, ob1 P, ob58 P, ob0 P, ob59 P, ob60 P, ob61 P, ob0 P, ob1 P, ob62 P, ob0 P, ob63 P, ob64 P, ob65 P, ob0 P, ob1 P, ob66 P, ob0 P, ob67 P, ob68 P, ob69 P, ob0 P, ob1 P, ob70 P, ob0 P, ob71 P, ob72 P, ob73 P, ob0 P, ob1 P, ob74 P, ob0 P, ob75 P, ob76 P, ob77 P, ob0 P, ob1 P, ob80 P, ob0 P, ob81 P, ob82 P, ob83 P, ob0 P, ob1 P, ob84 P, ob0 P, ob85 P, ob86 P, ob87 P, ob0 P, ob1 P, ob88 P, ob89 P, ob90 P, ob91 P, ob92 P, ob93 P, ob94 P, ob0 P, ob1 P, ob95 P, ob0 P, ob96 P, ob97 P, ob98 P, ob0 P, ob1 P, ob99 P, ob0 P, ob100 P, ob101 P, ob102 P, ob0 P, ob1 P, ob103 P, ob104 P, ob105 P, ob0 P, ob1 P, ob106 P, ob107 P, ob108 P, ob0 P, ob1 P, ob109 P, ob110 P, ob111 P], {}⟩
end Hd
end
theorem Mine.freshHB : True := by k_with_none; w_top off; first | walk1 | trivial
-- HB
section
open PySem PySem.W PyProof.Rows
set_option Elab.async false
set_option maxRecDepth 100000
set_option maxHeartbeats 0
namespace Hd
open PySem.W.Fast renaming tw13178266114437594781 → pw', te13178266114437594781 → pw_eq, tw10295753902157049106 → segGo', te10295753902157049106 → segGo_eq, tw10110043849684766642 → segRun', te10110043849684766642 → segRun_eq, tw14364793385576792824 → tree', te14364793385576792824 → tree_eq, tw11892475500146522536 → denote', te11892475500146522536 → denote_eq, tw12563942051412417395 → execs', te12563942051412417395 → execs_eq, tw15667345088766844465 → topGo', te15667345088766844465 → topGo_eq, tw14082659384304107361 → topRun', te14082659384304107361 → topRun_eq
abbrev ann0 : Option Value := some (.ref 6)
noncomputable def envE : Env := { scope := pw'.main.scope, locals := mainNs, globals := mainNs, cells := [], code := .ref 13, frame := some 14 }
noncomputable def cE : Code := .body (behindTheImports pw') envE
abbrev q0 : Pos := ⟨0, 0, 0, 0⟩
noncomputable def sg (i n : Nat) : List Stmt := (pw'.main.body.drop i).take n
noncomputable abbrev wh (ex : List Stmt → Env → Sem Flow) (i n : Nat) (p : Pos) : Thread := ⟨(ex (sg i n) envE).wrap doneF deadEnd id id, cE, p, [topFrame q0]⟩
noncomputable def code0 : Code := .compLoop (comp0 pw') 0 (.ref 16) (.ref 17) { scope := scopeC (comp0 pw'), locals := 18, globals := 3, cells := [], code := .ref 13, frame := some 14 }
noncomputable def forC (i it : Nat) : Code := match dfn pw' i with | .For t _ b e _ => .forLoop t (.ref it) b e envE | _ => default
/-- the thread at a loop's head -/
noncomputable abbrev Th (dn : Code → Sem Fin) (c : Code) (p q : Pos) (K : Result → Sem Fin) (g : Bool) (lv : List Value) : Thread := ⟨dn c, c, p, [.ret K none g lv cE q [], topFrame q0]⟩
noncomputable def Kof (r : Option (SharedT × Thread)) : Result → Sem Fin := match r with | some (_, ⟨_, _, _, .ret k _ _ _ _ _ _ :: _⟩) => k | _ => fun _ => .raise .none
section
variable {tb : String → Option Builtin} {p : Program} {w : World} {n₀ : Nat} {ann : Option Value} {b : Nat}
theorem goT_add : ∀ {n m : Nat} {s s' : SharedT} {t t' : Thread} {r : Option (SharedT × Thread)}, segGoT tb p w n₀ ann b n s t = some (s', t') → segGoT tb p w n₀ ann b m s' t' = r → segGoT tb p w n₀ ann b (n + m) s t = r
  | 0, m, s, s', t, t', r, h, k => by
    obtain ⟨rfl, rfl⟩ : s = s' ∧ t = t' := by simpa [segGoT] using h
    rw [Nat.zero_add]; exact k
  | n + 1, m, s, s', t, t', r, h, k => by
    rw [show n + 1 + m = n + m + 1 by omega]
    unfold segGoT at h ⊢
    cases he : endAt b t with
    | some f => rw [he] at h; cases h
    | none =>
      rw [he] at h
      cases hk : stepOk n₀ ann t with
      | false => rw [hk] at h; cases h
      | true =>
        rw [hk] at h
        cases hs : stepT (denote tb) p w s t with
        | none => rw [hs] at h; cases h
        | some x => obtain ⟨s₂, t₂⟩ := x; rw [hs] at h; exact goT_add h k
end
theorem goT_add' {tb : String → Option Builtin} {p : Program} {w : World} {n₀ : Nat} {ann : Option Value} {b : Nat} {n m : Nat} {s s' : SharedT} {t t' : Thread} {r : Option (SharedT × Thread)} (h : segGo' tb p w n₀ ann b n s t = some (s', t')) (k : segGo' tb p w n₀ ann b m s' t' = r) : segGo' tb p w n₀ ann b (n + m) s t = r := by
  rw [← segGo_eq] at *; exact goT_add h k
abbrev rA : String := "special-get-raises"
abbrev rB : String := "comprehension-iter-twice"
theorem p1' (w : World) (os : OsState) : segRun' tree' pw' w 11 ann0 1 109 (X1 w.params os) (wh execs' 1 7 ⟨1, 0, 1, 11⟩) = some (.next, X2 w.params os, cE, ⟨8, 0, 8, 8⟩) := by kernel_rfl
theorem p1 (w : World) (os : OsState) : segRun treeTable pw' w 11 ann0 1 109 (X1 w.params os).abs (wh execs 1 7 ⟨1, 0, 1, 11⟩) = some (.next, (X2 w.params os).abs, cE, ⟨8, 0, 8, 8⟩) :=
  segRun_of (by rw [segRun_eq, tree_eq, execs_eq]; exact p1' w os)
theorem p9' (w : World) (os : OsState) : segRun' tree' pw' w 11 ann0 1 25 (X3 w.params os) (wh execs' 9 1 ⟨9, 9, 9, 74⟩) = some (.next, X4 w.params os, cE, ⟨11, 0, 11, 28⟩) := by kernel_rfl
theorem p9 (w : World) (os : OsState) : segRun treeTable pw' w 11 ann0 1 25 (X3 w.params os).abs (wh execs 9 1 ⟨9, 9, 9, 74⟩) = some (.next, (X4 w.params os).abs, cE, ⟨11, 0, 11, 28⟩) :=
  segRun_of (by rw [segRun_eq, tree_eq, execs_eq]; exact p9' w os)
theorem p11' (w : World) (os : OsState) : segRun' tree' pw' w 11 ann0 1 86 (X5 w.params os) (wh execs' 11 3 ⟨12, 9, 12, 110⟩) = some (.next, X6 w.params os, cE, ⟨18, 0, 18, 23⟩) := by kernel_rfl
theorem p11 (w : World) (os : OsState) : segRun treeTable pw' w 11 ann0 1 86 (X5 w.params os).abs (wh execs 11 3 ⟨12, 9, 12, 110⟩) = some (.next, (X6 w.params os).abs, cE, ⟨18, 0, 18, 23⟩) :=
  segRun_of (by rw [segRun_eq, tree_eq, execs_eq]; exact p11' w os)
theorem p15' (w : World) (os : OsState) : segRun' tree' pw' w 11 ann0 1 326 (X7 w.params os) (wh execs' 15 12 ⟨19, 9, 19, 16⟩) = some (.next, X8 w.params os, cE, ⟨68, 0, 72, 41⟩) := by kernel_rfl
theorem p15 (w : World) (os : OsState) : segRun treeTable pw' w 11 ann0 1 326 (X7 w.params os).abs (wh execs 15 12 ⟨19, 9, 19, 16⟩) = some (.next, (X8 w.params os).abs, cE, ⟨68, 0, 72, 41⟩) :=
  segRun_of (by rw [segRun_eq, tree_eq, execs_eq]; exact p15' w os)
theorem p27' (w : World) (os : OsState) : segRun' tree' pw' w 11 ann0 1 275 (X8 w.params os) (wh execs' 27 10 ⟨68, 0, 72, 41⟩) = some (.next, X9 w.params os, cE, ⟨141, 0, 152, 78⟩) := by kernel_rfl
theorem p27 (w : World) (os : OsState) : segRun treeTable pw' w 11 ann0 1 275 (X8 w.params os).abs (wh execs 27 10 ⟨68, 0, 72, 41⟩) = some (.next, (X9 w.params os).abs, cE, ⟨141, 0, 152, 78⟩) :=
  segRun_of (by rw [segRun_eq, tree_eq, execs_eq]; exact p27' w os)
theorem p14_false (w : World) (os : OsState) : segRun' tree' pw' (w.withFollow rA false) 11 ann0 1 118 (X6 (w.withFollow rA false).params os) (wh execs' 14 1 ⟨18, 0, 18, 23⟩) = some (.next, X7 (w.withFollow rA false).params os, cE, ⟨19, 9, 19, 16⟩) := by kernel_rfl
theorem p14_true (w : World) (os : OsState) : segRun' tree' pw' (w.withFollow rA true) 11 ann0 1 118 (X6 (w.withFollow rA true).params os) (wh execs' 14 1 ⟨18, 0, 18, 23⟩) = some (.next, X7 (w.withFollow rA true).params os, cE, ⟨19, 9, 19, 16⟩) := by kernel_rfl
theorem p14 (w : World) (os : OsState) : segRun treeTable pw' w 11 ann0 1 118 (X6 w.params os).abs (wh execs 14 1 ⟨18, 0, 18, 23⟩) = some (.next, (X7 w.params os).abs, cE, ⟨19, 9, 19, 16⟩) :=
  segRun_of (byRow2 rA (P := fun w => segRunT treeTable pw' w 11 ann0 1 118 (X6 w.params os) (wh execs 14 1 ⟨18, 0, 18, 23⟩) = some (.next, X7 w.params os, cE, ⟨19, 9, 19, 16⟩))
    (fun w => by rw [segRun_eq, tree_eq, execs_eq]; exact p14_false w os) (fun w => by rw [segRun_eq, tree_eq, execs_eq]; exact p14_true w os) w)
theorem e0l_0 (w : World) (os : OsState) (K : Result → Sem Fin) : segGo' tree' pw' w 11 ann0 1 555 (S0 w.params os 0) (Th (denote' tree') (code0) ⟨1, 15, 1, 26⟩ ⟨1, 36, 1, 46⟩ K true [.ref 18, .ref 17]) = some (S0 w.params os 15, (Th (denote' tree') (code0) ⟨1, 15, 1, 26⟩ ⟨1, 36, 1, 46⟩ K true [.ref 18, .ref 17])) := by kernel_rfl
theorem e0l_15 (w : World) (os : OsState) (K : Result → Sem Fin) : segGo' tree' pw' w 11 ann0 1 555 (S0 w.params os 15) (Th (denote' tree') (code0) ⟨1, 15, 1, 26⟩ ⟨1, 36, 1, 46⟩ K true [.ref 18, .ref 17]) = some (S0 w.params os 30, (Th (denote' tree') (code0) ⟨1, 15, 1, 26⟩ ⟨1, 36, 1, 46⟩ K true [.ref 18, .ref 17])) := by kernel_rfl
theorem e0l_30 (w : World) (os : OsState) (K : Result → Sem Fin) : segGo' tree' pw' w 11 ann0 1 555 (S0 w.params os 30) (Th (denote' tree') (code0) ⟨1, 15, 1, 26⟩ ⟨1, 36, 1, 46⟩ K true [.ref 18, .ref 17]) = some (S0 w.params os 45, (Th (denote' tree') (code0) ⟨1, 15, 1, 26⟩ ⟨1, 36, 1, 46⟩ K true [.ref 18, .ref 17])) := by kernel_rfl
theorem e0l_45 (w : World) (os : OsState) (K : Result → Sem Fin) : segGo' tree' pw' w 11 ann0 1 555 (S0 w.params os 45) (Th (denote' tree') (code0) ⟨1, 15, 1, 26⟩ ⟨1, 36, 1, 46⟩ K true [.ref 18, .ref 17]) = some (S0 w.params os 60, (Th (denote' tree') (code0) ⟨1, 15, 1, 26⟩ ⟨1, 36, 1, 46⟩ K true [.ref 18, .ref 17])) := by kernel_rfl
theorem e0l_60 (w : World) (os : OsState) (K : Result → Sem Fin) : segGo' tree' pw' w 11 ann0 1 555 (S0 w.params os 60) (Th (denote' tree') (code0) ⟨1, 15, 1, 26⟩ ⟨1, 36, 1, 46⟩ K true [.ref 18, .ref 17]) = some (S0 w.params os 75, (Th (denote' tree') (code0) ⟨1, 15, 1, 26⟩ ⟨1, 36, 1, 46⟩ K true [.ref 18, .ref 17])) := by kernel_rfl
theorem e0l_75 (w : World) (os : OsState) (K : Result → Sem Fin) : segGo' tree' pw' w 11 ann0 1 555 (S0 w.params os 75) (Th (denote' tree') (code0) ⟨1, 15, 1, 26⟩ ⟨1, 36, 1, 46⟩ K true [.ref 18, .ref 17]) = some (S0 w.params os 90, (Th (denote' tree') (code0) ⟨1, 15, 1, 26⟩ ⟨1, 36, 1, 46⟩ K true [.ref 18, .ref 17])) := by kernel_rfl
theorem e0l_90 (w : World) (os : OsState) (K : Result → Sem Fin) : segGo' tree' pw' w 11 ann0 1 555 (S0 w.params os 90) (Th (denote' tree') (code0) ⟨1, 15, 1, 26⟩ ⟨1, 36, 1, 46⟩ K true [.ref 18, .ref 17]) = some (S0 w.params os 105, (Th (denote' tree') (code0) ⟨1, 15, 1, 26⟩ ⟨1, 36, 1, 46⟩ K true [.ref 18, .ref 17])) := by kernel_rfl
theorem e0l_105 (w : World) (os : OsState) (K : Result → Sem Fin) : segGo' tree' pw' w 11 ann0 1 555 (S0 w.params os 105) (Th (denote' tree') (code0) ⟨1, 15, 1, 26⟩ ⟨1, 36, 1, 46⟩ K true [.ref 18, .ref 17]) = some (S0 w.params os 120, (Th (denote' tree') (code0) ⟨1, 15, 1, 26⟩ ⟨1, 36, 1, 46⟩ K true [.ref 18, .ref 17])) := by kernel_rfl
theorem e0l_120 (w : World) (os : OsState) (K : Result → Sem Fin) : segGo' tree' pw' w 11 ann0 1 555 (S0 w.params os 120) (Th (denote' tree') (code0) ⟨1, 15, 1, 26⟩ ⟨1, 36, 1, 46⟩ K true [.ref 18, .ref 17]) = some (S0 w.params os 135, (Th (denote' tree') (code0) ⟨1, 15, 1, 26⟩ ⟨1, 36, 1, 46⟩ K true [.ref 18, .ref 17])) := by kernel_rfl
theorem e0l_135 (w : World) (os : OsState) (K : Result → Sem Fin) : segGo' tree' pw' w 11 ann0 1 555 (S0 w.params os 135) (Th (denote' tree') (code0) ⟨1, 15, 1, 26⟩ ⟨1, 36, 1, 46⟩ K true [.ref 18, .ref 17]) = some (S0 w.params os 150, (Th (denote' tree') (code0) ⟨1, 15, 1, 26⟩ ⟨1, 36, 1, 46⟩ K true [.ref 18, .ref 17])) := by kernel_rfl
theorem e0l_150 (w : World) (os : OsState) (K : Result → Sem Fin) : segGo' tree' pw' w 11 ann0 1 555 (S0 w.params os 150) (Th (denote' tree') (code0) ⟨1, 15, 1, 26⟩ ⟨1, 36, 1, 46⟩ K true [.ref 18, .ref 17]) = some (S0 w.params os 165, (Th (denote' tree') (code0) ⟨1, 15, 1, 26⟩ ⟨1, 36, 1, 46⟩ K true [.ref 18, .ref 17])) := by kernel_rfl
theorem e0l_165 (w : World) (os : OsState) (K : Result → Sem Fin) : segGo' tree' pw' w 11 ann0 1 555 (S0 w.params os 165) (Th (denote' tree') (code0) ⟨1, 15, 1, 26⟩ ⟨1, 36, 1, 46⟩ K true [.ref 18, .ref 17]) = some (S0 w.params os 180, (Th (denote' tree') (code0) ⟨1, 15, 1, 26⟩ ⟨1, 36, 1, 46⟩ K true [.ref 18, .ref 17])) := by kernel_rfl
theorem e0l_180 (w : World) (os : OsState) (K : Result → Sem Fin) : segGo' tree' pw' w 11 ann0 1 555 (S0 w.params os 180) (Th (denote' tree') (code0) ⟨1, 15, 1, 26⟩ ⟨1, 36, 1, 46⟩ K true [.ref 18, .ref 17]) = some (S0 w.params os 195, (Th (denote' tree') (code0) ⟨1, 15, 1, 26⟩ ⟨1, 36, 1, 46⟩ K true [.ref 18, .ref 17])) := by kernel_rfl
theorem e0l_195 (w : World) (os : OsState) (K : Result → Sem Fin) : segGo' tree' pw' w 11 ann0 1 555 (S0 w.params os 195) (Th (denote' tree') (code0) ⟨1, 15, 1, 26⟩ ⟨1, 36, 1, 46⟩ K true [.ref 18, .ref 17]) = some (S0 w.params os 210, (Th (denote' tree') (code0) ⟨1, 15, 1, 26⟩ ⟨1, 36, 1, 46⟩ K true [.ref 18, .ref 17])) := by kernel_rfl
theorem e0l_210 (w : World) (os : OsState) (K : Result → Sem Fin) : segGo' tree' pw' w 11 ann0 1 555 (S0 w.params os 210) (Th (denote' tree') (code0) ⟨1, 15, 1, 26⟩ ⟨1, 36, 1, 46⟩ K true [.ref 18, .ref 17]) = some (S0 w.params os 225, (Th (denote' tree') (code0) ⟨1, 15, 1, 26⟩ ⟨1, 36, 1, 46⟩ K true [.ref 18, .ref 17])) := by kernel_rfl
theorem e0l_225 (w : World) (os : OsState) (K : Result → Sem Fin) : segGo' tree' pw' w 11 ann0 1 555 (S0 w.params os 225) (Th (denote' tree') (code0) ⟨1, 15, 1, 26⟩ ⟨1, 36, 1, 46⟩ K true [.ref 18, .ref 17]) = some (S0 w.params os 240, (Th (denote' tree') (code0) ⟨1, 15, 1, 26⟩ ⟨1, 36, 1, 46⟩ K true [.ref 18, .ref 17])) := by kernel_rfl
theorem e0l_240 (w : World) (os : OsState) (K : Result → Sem Fin) : segGo' tree' pw' w 11 ann0 1 555 (S0 w.params os 240) (Th (denote' tree') (code0) ⟨1, 15, 1, 26⟩ ⟨1, 36, 1, 46⟩ K true [.ref 18, .ref 17]) = some (S0 w.params os 255, (Th (denote' tree') (code0) ⟨1, 15, 1, 26⟩ ⟨1, 36, 1, 46⟩ K true [.ref 18, .ref 17])) := by kernel_rfl
theorem e0l' (w : World) (os : OsState) (K : Result → Sem Fin) : segGo' tree' pw' w 11 ann0 1 (555 + (555 + (555 + (555 + (555 + (555 + (555 + (555 + (555 + (555 + (555 + (555 + (555 + (555 + (555 + (555 + (555))))))))))))))))) (S0 w.params os 0) (Th (denote' tree') (code0) ⟨1, 15, 1, 26⟩ ⟨1, 36, 1, 46⟩ K true [.ref 18, .ref 17]) = some (S0 w.params os 255, (Th (denote' tree') (code0) ⟨1, 15, 1, 26⟩ ⟨1, 36, 1, 46⟩ K true [.ref 18, .ref 17])) := goT_add' (e0l_0 w os K) (goT_add' (e0l_15 w os K) (goT_add' (e0l_30 w os K) (goT_add' (e0l_45 w os K) (goT_add' (e0l_60 w os K) (goT_add' (e0l_75 w os K) (goT_add' (e0l_90 w os K) (goT_add' (e0l_105 w os K) (goT_add' (e0l_120 w os K) (goT_add' (e0l_135 w os K) (goT_add' (e0l_150 w os K) (goT_add' (e0l_165 w os K) (goT_add' (e0l_180 w os K) (goT_add' (e0l_195 w os K) (goT_add' (e0l_210 w os K) (goT_add' (e0l_225 w os K) (e0l_240 w os K))))))))))))))))
theorem e0l (w : World) (os : OsState) (K : Result → Sem Fin) : segGo treeTable pw' w 11 ann0 1 9435 (S0 w.params os 0).abs (Th (denote treeTable) (code0) ⟨1, 15, 1, 26⟩ ⟨1, 36, 1, 46⟩ K true [.ref 18, .ref 17]) = some ((S0 w.params os 255).abs, (Th (denote treeTable) (code0) ⟨1, 15, 1, 26⟩ ⟨1, 36, 1, 46⟩ K true [.ref 18, .ref 17])) := segGo_of (by rw [segGo_eq, tree_eq, denote_eq]; exact e0l' w os K)
theorem e0_aff (w : World) (os : OsState) : segGo' tree' pw' ((w.withFollow rA false).withFollow rB false) 11 ann0 1 89 (X0 ((w.withFollow rA false).withFollow rB false).params os) (wh execs' 0 1 ⟨0, 0, 0, 0⟩) = some (S0 ((w.withFollow rA false).withFollow rB false).params os 0, (Th (denote' tree') (code0) ⟨1, 15, 1, 26⟩ ⟨1, 36, 1, 46⟩ (Kof (segGo' tree' pw' ((w.withFollow rA false).withFollow rB false) 11 ann0 1 89 (X0 ((w.withFollow rA false).withFollow rB false).params os) (wh execs' 0 1 ⟨0, 0, 0, 0⟩))) true [.ref 18, .ref 17])) := by kernel_rfl
theorem e0_zff (w : World) (os : OsState) : segRun' tree' pw' ((w.withFollow rA false).withFollow rB false) 11 ann0 1 76 (S0 ((w.withFollow rA false).withFollow rB false).params os 255) (Th (denote' tree') (code0) ⟨1, 15, 1, 26⟩ ⟨1, 36, 1, 46⟩ (Kof (segGo' tree' pw' ((w.withFollow rA false).withFollow rB false) 11 ann0 1 89 (X0 ((w.withFollow rA false).withFollow rB false).params os) (wh execs' 0 1 ⟨0, 0, 0, 0⟩))) true [.ref 18, .ref 17]) = some (.next, X1 ((w.withFollow rA false).withFollow rB false).params os, cE, ⟨1, 0, 1, 11⟩) := by kernel_rfl
theorem e0_wff (w : World) (os : OsState) : segRun treeTable pw' ((w.withFollow rA false).withFollow rB false) 11 ann0 1 (89 + (9435 + 76)) (X0 ((w.withFollow rA false).withFollow rB false).params os).abs (wh execs 0 1 ⟨0, 0, 0, 0⟩) = some (.next, (X1 ((w.withFollow rA false).withFollow rB false).params os).abs, cE, ⟨1, 0, 1, 11⟩) :=
  seg_go (segGo_of (by rw [segGo_eq, tree_eq, execs_eq]; exact e0_aff w os)) (seg_go (by rw [← tree_eq, ← denote_eq]; exact e0l ((w.withFollow rA false).withFollow rB false) os _) (segRun_of (by rw [segRun_eq, tree_eq]; exact e0_zff w os)))
theorem e0_aft (w : World) (os : OsState) : segGo' tree' pw' ((w.withFollow rA true).withFollow rB false) 11 ann0 1 89 (X0 ((w.withFollow rA true).withFollow rB false).params os) (wh execs' 0 1 ⟨0, 0, 0, 0⟩) = some (S0 ((w.withFollow rA true).withFollow rB false).params os 0, (Th (denote' tree') (code0) ⟨1, 15, 1, 26⟩ ⟨1, 36, 1, 46⟩ (Kof (segGo' tree' pw' ((w.withFollow rA true).withFollow rB false) 11 ann0 1 89 (X0 ((w.withFollow rA true).withFollow rB false).params os) (wh execs' 0 1 ⟨0, 0, 0, 0⟩))) true [.ref 18, .ref 17])) := by kernel_rfl
theorem e0_zft (w : World) (os : OsState) : segRun' tree' pw' ((w.withFollow rA true).withFollow rB false) 11 ann0 1 76 (S0 ((w.withFollow rA true).withFollow rB false).params os 255) (Th (denote' tree') (code0) ⟨1, 15, 1, 26⟩ ⟨1, 36, 1, 46⟩ (Kof (segGo' tree' pw' ((w.withFollow rA true).withFollow rB false) 11 ann0 1 89 (X0 ((w.withFollow rA true).withFollow rB false).params os) (wh execs' 0 1 ⟨0, 0, 0, 0⟩))) true [.ref 18, .ref 17]) = some (.next, X1 ((w.withFollow rA true).withFollow rB false).params os, cE, ⟨1, 0, 1, 11⟩) := by kernel_rfl
theorem e0_wft (w : World) (os : OsState) : segRun treeTable pw' ((w.withFollow rA true).withFollow rB false) 11 ann0 1 (89 + (9435 + 76)) (X0 ((w.withFollow rA true).withFollow rB false).params os).abs (wh execs 0 1 ⟨0, 0, 0, 0⟩) = some (.next, (X1 ((w.withFollow rA true).withFollow rB false).params os).abs, cE, ⟨1, 0, 1, 11⟩) :=
  seg_go (segGo_of (by rw [segGo_eq, tree_eq, execs_eq]; exact e0_aft w os)) (seg_go (by rw [← tree_eq, ← denote_eq]; exact e0l ((w.withFollow rA true).withFollow rB false) os _) (segRun_of (by rw [segRun_eq, tree_eq]; exact e0_zft w os)))
theorem e0_atf (w : World) (os : OsState) : segGo' tree' pw' ((w.withFollow rA false).withFollow rB true) 11 ann0 1 79 (X0 ((w.withFollow rA false).withFollow rB true).params os) (wh execs' 0 1 ⟨0, 0, 0, 0⟩) = some (S0 ((w.withFollow rA false).withFollow rB true).params os 0, (Th (denote' tree') (code0) ⟨1, 15, 1, 26⟩ ⟨1, 36, 1, 46⟩ (Kof (segGo' tree' pw' ((w.withFollow rA false).withFollow rB true) 11 ann0 1 79 (X0 ((w.withFollow rA false).withFollow rB true).params os) (wh execs' 0 1 ⟨0, 0, 0, 0⟩))) true [.ref 18, .ref 17])) := by kernel_rfl
theorem e0_ztf (w : World) (os : OsState) : segRun' tree' pw' ((w.withFollow rA false).withFollow rB true) 11 ann0 1 86 (S0 ((w.withFollow rA false).withFollow rB true).params os 255) (Th (denote' tree') (code0) ⟨1, 15, 1, 26⟩ ⟨1, 36, 1, 46⟩ (Kof (segGo' tree' pw' ((w.withFollow rA false).withFollow rB true) 11 ann0 1 79 (X0 ((w.withFollow rA false).withFollow rB true).params os) (wh execs' 0 1 ⟨0, 0, 0, 0⟩))) true [.ref 18, .ref 17]) = some (.next, X1 ((w.withFollow rA false).withFollow rB true).params os, cE, ⟨1, 0, 1, 11⟩) := by kernel_rfl
theorem e0_wtf (w : World) (os : OsState) : segRun treeTable pw' ((w.withFollow rA false).withFollow rB true) 11 ann0 1 (79 + (9435 + 86)) (X0 ((w.withFollow rA false).withFollow rB true).params os).abs (wh execs 0 1 ⟨0, 0, 0, 0⟩) = some (.next, (X1 ((w.withFollow rA false).withFollow rB true).params os).abs, cE, ⟨1, 0, 1, 11⟩) :=
  seg_go (segGo_of (by rw [segGo_eq, tree_eq, execs_eq]; exact e0_atf w os)) (seg_go (by rw [← tree_eq, ← denote_eq]; exact e0l ((w.withFollow rA false).withFollow rB true) os _) (segRun_of (by rw [segRun_eq, tree_eq]; exact e0_ztf w os)))
theorem e0_att (w : World) (os : OsState) : segGo' tree' pw' ((w.withFollow rA true).withFollow rB true) 11 ann0 1 79 (X0 ((w.withFollow rA true).withFollow rB true).params os) (wh execs' 0 1 ⟨0, 0, 0, 0⟩) = some (S0 ((w.withFollow rA true).withFollow rB true).params os 0, (Th (denote' tree') (code0) ⟨1, 15, 1, 26⟩ ⟨1, 36, 1, 46⟩ (Kof (segGo' tree' pw' ((w.withFollow rA true).withFollow rB true) 11 ann0 1 79 (X0 ((w.withFollow rA true).withFollow rB true).params os) (wh execs' 0 1 ⟨0, 0, 0, 0⟩))) true [.ref 18, .ref 17])) := by kernel_rfl
theorem e0_ztt (w : World) (os : OsState) : segRun' tree' pw' ((w.withFollow rA true).withFollow rB true) 11 ann0 1 86 (S0 ((w.withFollow rA true).withFollow rB true).params os 255) (Th (denote' tree') (code0) ⟨1, 15, 1, 26⟩ ⟨1, 36, 1, 46⟩ (Kof (segGo' tree' pw' ((w.withFollow rA true).withFollow rB true) 11 ann0 1 79 (X0 ((w.withFollow rA true).withFollow rB true).params os) (wh execs' 0 1 ⟨0, 0, 0, 0⟩))) true [.ref 18, .ref 17]) = some (.next, X1 ((w.withFollow rA true).withFollow rB true).params os, cE, ⟨1, 0, 1, 11⟩) := by kernel_rfl
theorem e0_wtt (w : World) (os : OsState) : segRun treeTable pw' ((w.withFollow rA true).withFollow rB true) 11 ann0 1 (79 + (9435 + 86)) (X0 ((w.withFollow rA true).withFollow rB true).params os).abs (wh execs 0 1 ⟨0, 0, 0, 0⟩) = some (.next, (X1 ((w.withFollow rA true).withFollow rB true).params os).abs, cE, ⟨1, 0, 1, 11⟩) :=
  seg_go (segGo_of (by rw [segGo_eq, tree_eq, execs_eq]; exact e0_att w os)) (seg_go (by rw [← tree_eq, ← denote_eq]; exact e0l ((w.withFollow rA true).withFollow rB true) os _) (segRun_of (by rw [segRun_eq, tree_eq]; exact e0_ztt w os)))
theorem p0 (w : World) (os : OsState) : segRun treeTable pw' w 11 ann0 1 9600 (X0 w.params os).abs (wh execs 0 1 ⟨0, 0, 0, 0⟩) = some (.next, (X1 w.params os).abs, cE, ⟨1, 0, 1, 11⟩) :=
  byRow2 rB (P := fun w => segRun treeTable pw' w 11 ann0 1 9600 (X0 w.params os).abs (wh execs 0 1 ⟨0, 0, 0, 0⟩) = some (.next, (X1 w.params os).abs, cE, ⟨1, 0, 1, 11⟩))
    (fun w => byRow2 rA (P := fun w => (fun w => segRun treeTable pw' w 11 ann0 1 9600 (X0 w.params os).abs (wh execs 0 1 ⟨0, 0, 0, 0⟩) = some (.next, (X1 w.params os).abs, cE, ⟨1, 0, 1, 11⟩)) (w.withFollow rB false)) (fun w => e0_wff w os) (fun w => e0_wft w os) w)
    (fun w => byRow2 rA (P := fun w => (fun w => segRun treeTable pw' w 11 ann0 1 9600 (X0 w.params os).abs (wh execs 0 1 ⟨0, 0, 0, 0⟩) = some (.next, (X1 w.params os).abs, cE, ⟨1, 0, 1, 11⟩)) (w.withFollow rB true)) (fun w => e0_wtf w os) (fun w => e0_wtt w os) w) w
theorem e8l_0 (w : World) (os : OsState) (K : Result → Sem Fin) : segGo' tree' pw' w 11 ann0 1 495 (S8 w.params os 0) (Th (denote' tree') (forC 8 25) ⟨10, 4, 10, 25⟩ ⟨9, 9, 9, 74⟩ K false []) = some (S8 w.params os 11, (Th (denote' tree') (forC 8 25) ⟨10, 4, 10, 25⟩ ⟨9, 9, 9, 74⟩ K false [])) := by kernel_rfl
theorem e8l_11 (w : World) (os : OsState) (K : Result → Sem Fin) : segGo' tree' pw' w 11 ann0 1 495 (S8 w.params os 11) (Th (denote' tree') (forC 8 25) ⟨10, 4, 10, 25⟩ ⟨9, 9, 9, 74⟩ K false []) = some (S8 w.params os 22, (Th (denote' tree') (forC 8 25) ⟨10, 4, 10, 25⟩ ⟨9, 9, 9, 74⟩ K false [])) := by kernel_rfl
theorem e8l_22 (w : World) (os : OsState) (K : Result → Sem Fin) : segGo' tree' pw' w 11 ann0 1 495 (S8 w.params os 22) (Th (denote' tree') (forC 8 25) ⟨10, 4, 10, 25⟩ ⟨9, 9, 9, 74⟩ K false []) = some (S8 w.params os 33, (Th (denote' tree') (forC 8 25) ⟨10, 4, 10, 25⟩ ⟨9, 9, 9, 74⟩ K false [])) := by kernel_rfl
theorem e8l_33 (w : World) (os : OsState) (K : Result → Sem Fin) : segGo' tree' pw' w 11 ann0 1 495 (S8 w.params os 33) (Th (denote' tree') (forC 8 25) ⟨10, 4, 10, 25⟩ ⟨9, 9, 9, 74⟩ K false []) = some (S8 w.params os 44, (Th (denote' tree') (forC 8 25) ⟨10, 4, 10, 25⟩ ⟨9, 9, 9, 74⟩ K false [])) := by kernel_rfl
theorem e8l_44 (w : World) (os : OsState) (K : Result → Sem Fin) : segGo' tree' pw' w 11 ann0 1 495 (S8 w.params os 44) (Th (denote' tree') (forC 8 25) ⟨10, 4, 10, 25⟩ ⟨9, 9, 9, 74⟩ K false []) = some (S8 w.params os 55, (Th (denote' tree') (forC 8 25) ⟨10, 4, 10, 25⟩ ⟨9, 9, 9, 74⟩ K false [])) := by kernel_rfl
theorem e8l_55 (w : World) (os : OsState) (K : Result → Sem Fin) : segGo' tree' pw' w 11 ann0 1 495 (S8 w.params os 55) (Th (denote' tree') (forC 8 25) ⟨10, 4, 10, 25⟩ ⟨9, 9, 9, 74⟩ K false []) = some (S8 w.params os 66, (Th (denote' tree') (forC 8 25) ⟨10, 4, 10, 25⟩ ⟨9, 9, 9, 74⟩ K false [])) := by kernel_rfl
theorem e8l' (w : World) (os : OsState) (K : Result → Sem Fin) : segGo' tree' pw' w 11 ann0 1 (495 + (495 + (495 + (495 + (495 + (495)))))) (S8 w.params os 0) (Th (denote' tree') (forC 8 25) ⟨10, 4, 10, 25⟩ ⟨9, 9, 9, 74⟩ K false []) = some (S8 w.params os 66, (Th (denote' tree') (forC 8 25) ⟨10, 4, 10, 25⟩ ⟨9, 9, 9, 74⟩ K false [])) := goT_add' (e8l_0 w os K) (goT_add' (e8l_11 w os K) (goT_add' (e8l_22 w os K) (goT_add' (e8l_33 w os K) (goT_add' (e8l_44 w os K) (e8l_55 w os K)))))
theorem e8l (w : World) (os : OsState) (K : Result → Sem Fin) : segGo treeTable pw' w 11 ann0 1 2970 (S8 w.params os 0).abs (Th (denote treeTable) (forC 8 25) ⟨10, 4, 10, 25⟩ ⟨9, 9, 9, 74⟩ K false []) = some ((S8 w.params os 66).abs, (Th (denote treeTable) (forC 8 25) ⟨10, 4, 10, 25⟩ ⟨9, 9, 9, 74⟩ K false [])) := segGo_of (by rw [segGo_eq, tree_eq, denote_eq]; exact e8l' w os K)
theorem e8_af (w : World) (os : OsState) : segGo' tree' pw' (w.withFollow rA false) 11 ann0 1 89 (X2 (w.withFollow rA false).params os) (wh execs' 8 1 ⟨8, 0, 8, 8⟩) = some (S8 (w.withFollow rA false).params os 0, (Th (denote' tree') (forC 8 25) ⟨10, 4, 10, 25⟩ ⟨9, 9, 9, 74⟩ (Kof (segGo' tree' pw' (w.withFollow rA false) 11 ann0 1 89 (X2 (w.withFollow rA false).params os) (wh execs' 8 1 ⟨8, 0, 8, 8⟩))) false [])) := by kernel_rfl
theorem e8_zf (w : World) (os : OsState) : segRun' tree' pw' (w.withFollow rA false) 11 ann0 1 18 (S8 (w.withFollow rA false).params os 66) (Th (denote' tree') (forC 8 25) ⟨10, 4, 10, 25⟩ ⟨9, 9, 9, 74⟩ (Kof (segGo' tree' pw' (w.withFollow rA false) 11 ann0 1 89 (X2 (w.withFollow rA false).params os) (wh execs' 8 1 ⟨8, 0, 8, 8⟩))) false []) = some (.next, X3 (w.withFollow rA false).params os, cE, ⟨9, 9, 9, 74⟩) := by kernel_rfl
theorem e8_wf (w : World) (os : OsState) : segRun treeTable pw' (w.withFollow rA false) 11 ann0 1 (89 + (2970 + 18)) (X2 (w.withFollow rA false).params os).abs (wh execs 8 1 ⟨8, 0, 8, 8⟩) = some (.next, (X3 (w.withFollow rA false).params os).abs, cE, ⟨9, 9, 9, 74⟩) :=
  seg_go (segGo_of (by rw [segGo_eq, tree_eq, execs_eq]; exact e8_af w os)) (seg_go (by rw [← tree_eq, ← denote_eq]; exact e8l (w.withFollow rA false) os _) (segRun_of (by rw [segRun_eq, tree_eq]; exact e8_zf w os)))
theorem e8_at (w : World) (os : OsState) : segGo' tree' pw' (w.withFollow rA true) 11 ann0 1 89 (X2 (w.withFollow rA true).params os) (wh execs' 8 1 ⟨8, 0, 8, 8⟩) = some (S8 (w.withFollow rA true).params os 0, (Th (denote' tree') (forC 8 25) ⟨10, 4, 10, 25⟩ ⟨9, 9, 9, 74⟩ (Kof (segGo' tree' pw' (w.withFollow rA true) 11 ann0 1 89 (X2 (w.withFollow rA true).params os) (wh execs' 8 1 ⟨8, 0, 8, 8⟩))) false [])) := by kernel_rfl
theorem e8_zt (w : World) (os : OsState) : segRun' tree' pw' (w.withFollow rA true) 11 ann0 1 18 (S8 (w.withFollow rA true).params os 66) (Th (denote' tree') (forC 8 25) ⟨10, 4, 10, 25⟩ ⟨9, 9, 9, 74⟩ (Kof (segGo' tree' pw' (w.withFollow rA true) 11 ann0 1 89 (X2 (w.withFollow rA true).params os) (wh execs' 8 1 ⟨8, 0, 8, 8⟩))) false []) = some (.next, X3 (w.withFollow rA true).params os, cE, ⟨9, 9, 9, 74⟩) := by kernel_rfl
theorem e8_wt (w : World) (os : OsState) : segRun treeTable pw' (w.withFollow rA true) 11 ann0 1 (89 + (2970 + 18)) (X2 (w.withFollow rA true).params os).abs (wh execs 8 1 ⟨8, 0, 8, 8⟩) = some (.next, (X3 (w.withFollow rA true).params os).abs, cE, ⟨9, 9, 9, 74⟩) :=
  seg_go (segGo_of (by rw [segGo_eq, tree_eq, execs_eq]; exact e8_at w os)) (seg_go (by rw [← tree_eq, ← denote_eq]; exact e8l (w.withFollow rA true) os _) (segRun_of (by rw [segRun_eq, tree_eq]; exact e8_zt w os)))
theorem p8 (w : World) (os : OsState) : segRun treeTable pw' w 11 ann0 1 3077 (X2 w.params os).abs (wh execs 8 1 ⟨8, 0, 8, 8⟩) = some (.next, (X3 w.params os).abs, cE, ⟨9, 9, 9, 74⟩) :=
  byRow2 rA (P := fun w => segRun treeTable pw' w 11 ann0 1 3077 (X2 w.params os).abs (wh execs 8 1 ⟨8, 0, 8, 8⟩) = some (.next, (X3 w.params os).abs, cE, ⟨9, 9, 9, 74⟩)) (fun w => e8_wf w os) (fun w => e8_wt w os) w
theorem e10l_0 (w : World) (os : OsState) (K : Result → Sem Fin) : segGo' tree' pw' w 11 ann0 1 450 (S10 w.params os 0) (Th (denote' tree') (forC 10 28) ⟨13, 4, 13, 23⟩ ⟨12, 9, 12, 110⟩ K false []) = some (S10 w.params os 10, (Th (denote' tree') (forC 10 28) ⟨13, 4, 13, 23⟩ ⟨12, 9, 12, 110⟩ K false [])) := by kernel_rfl
theorem e10l_10 (w : World) (os : OsState) (K : Result → Sem Fin) : segGo' tree' pw' w 11 ann0 1 450 (S10 w.params os 10) (Th (denote' tree') (forC 10 28) ⟨13, 4, 13, 23⟩ ⟨12, 9, 12, 110⟩ K false []) = some (S10 w.params os 20, (Th (denote' tree') (forC 10 28) ⟨13, 4, 13, 23⟩ ⟨12, 9, 12, 110⟩ K false [])) := by kernel_rfl
theorem e10l_20 (w : World) (os : OsState) (K : Result → Sem Fin) : segGo' tree' pw' w 11 ann0 1 450 (S10 w.params os 20) (Th (denote' tree') (forC 10 28) ⟨13, 4, 13, 23⟩ ⟨12, 9, 12, 110⟩ K false []) = some (S10 w.params os 30, (Th (denote' tree') (forC 10 28) ⟨13, 4, 13, 23⟩ ⟨12, 9, 12, 110⟩ K false [])) := by kernel_rfl
theorem e10l_30 (w : World) (os : OsState) (K : Result → Sem Fin) : segGo' tree' pw' w 11 ann0 1 450 (S10 w.params os 30) (Th (denote' tree') (forC 10 28) ⟨13, 4, 13, 23⟩ ⟨12, 9, 12, 110⟩ K false []) = some (S10 w.params os 40, (Th (denote' tree') (forC 10 28) ⟨13, 4, 13, 23⟩ ⟨12, 9, 12, 110⟩ K false [])) := by kernel_rfl
theorem e10l_40 (w : World) (os : OsState) (K : Result → Sem Fin) : segGo' tree' pw' w 11 ann0 1 450 (S10 w.params os 40) (Th (denote' tree') (forC 10 28) ⟨13, 4, 13, 23⟩ ⟨12, 9, 12, 110⟩ K false []) = some (S10 w.params os 50, (Th (denote' tree') (forC 10 28) ⟨13, 4, 13, 23⟩ ⟨12, 9, 12, 110⟩ K false [])) := by kernel_rfl
theorem e10l_50 (w : World) (os : OsState) (K : Result → Sem Fin) : segGo' tree' pw' w 11 ann0 1 450 (S10 w.params os 50) (Th (denote' tree') (forC 10 28) ⟨13, 4, 13, 23⟩ ⟨12, 9, 12, 110⟩ K false []) = some (S10 w.params os 60, (Th (denote' tree') (forC 10 28) ⟨13, 4, 13, 23⟩ ⟨12, 9, 12, 110⟩ K false [])) := by kernel_rfl
theorem e10l_60 (w : World) (os : OsState) (K : Result → Sem Fin) : segGo' tree' pw' w 11 ann0 1 450 (S10 w.params os 60) (Th (denote' tree') (forC 10 28) ⟨13, 4, 13, 23⟩ ⟨12, 9, 12, 110⟩ K false []) = some (S10 w.params os 70, (Th (denote' tree') (forC 10 28) ⟨13, 4, 13, 23⟩ ⟨12, 9, 12, 110⟩ K false [])) := by kernel_rfl
theorem e10l_70 (w : World) (os : OsState) (K : Result → Sem Fin) : segGo' tree' pw' w 11 ann0 1 450 (S10 w.params os 70) (Th (denote' tree') (forC 10 28) ⟨13, 4, 13, 23⟩ ⟨12, 9, 12, 110⟩ K false []) = some (S10 w.params os 80, (Th (denote' tree') (forC 10 28) ⟨13, 4, 13, 23⟩ ⟨12, 9, 12, 110⟩ K false [])) := by kernel_rfl
theorem e10l_80 (w : World) (os : OsState) (K : Result → Sem Fin) : segGo' tree' pw' w 11 ann0 1 450 (S10 w.params os 80) (Th (denote' tree') (forC 10 28) ⟨13, 4, 13, 23⟩ ⟨12, 9, 12, 110⟩ K false []) = some (S10 w.params os 90, (Th (denote' tree') (forC 10 28) ⟨13, 4, 13, 23⟩ ⟨12, 9, 12, 110⟩ K false [])) := by kernel_rfl
theorem e10l_90 (w : World) (os : OsState) (K : Result → Sem Fin) : segGo' tree' pw' w 11 ann0 1 180 (S10 w.params os 90) (Th (denote' tree') (forC 10 28) ⟨13, 4, 13, 23⟩ ⟨12, 9, 12, 110⟩ K false []) = some (S10 w.params os 94, (Th (denote' tree') (forC 10 28) ⟨13, 4, 13, 23⟩ ⟨12, 9, 12, 110⟩ K false [])) := by kernel_rfl
theorem e10l' (w : World) (os : OsState) (K : Result → Sem Fin) : segGo' tree' pw' w 11 ann0 1 (450 + (450 + (450 + (450 + (450 + (450 + (450 + (450 + (450 + (180)))))))))) (S10 w.params os 0) (Th (denote' tree') (forC 10 28) ⟨13, 4, 13, 23⟩ ⟨12, 9, 12, 110⟩ K false []) = some (S10 w.params os 94, (Th (denote' tree') (forC 10 28) ⟨13, 4, 13, 23⟩ ⟨12, 9, 12, 110⟩ K false [])) := goT_add' (e10l_0 w os K) (goT_add' (e10l_10 w os K) (goT_add' (e10l_20 w os K) (goT_add' (e10l_30 w os K) (goT_add' (e10l_40 w os K) (goT_add' (e10l_50 w os K) (goT_add' (e10l_60 w os K) (goT_add' (e10l_70 w os K) (goT_add' (e10l_80 w os K) (e10l_90 w os K)))))))))
theorem e10l (w : World) (os : OsState) (K : Result → Sem Fin) : segGo treeTable pw' w 11 ann0 1 4230 (S10 w.params os 0).abs (Th (denote treeTable) (forC 10 28) ⟨13, 4, 13, 23⟩ ⟨12, 9, 12, 110⟩ K false []) = some ((S10 w.params os 94).abs, (Th (denote treeTable) (forC 10 28) ⟨13, 4, 13, 23⟩ ⟨12, 9, 12, 110⟩ K false [])) := segGo_of (by rw [segGo_eq, tree_eq, denote_eq]; exact e10l' w os K)
theorem e10_af (w : World) (os : OsState) : segGo' tree' pw' (w.withFollow rA false) 11 ann0 1 55 (X4 (w.withFollow rA false).params os) (wh execs' 10 1 ⟨11, 0, 11, 28⟩) = some (S10 (w.withFollow rA false).params os 0, (Th (denote' tree') (forC 10 28) ⟨13, 4, 13, 23⟩ ⟨12, 9, 12, 110⟩ (Kof (segGo' tree' pw' (w.withFollow rA false) 11 ann0 1 55 (X4 (w.withFollow rA false).params os) (wh execs' 10 1 ⟨11, 0, 11, 28⟩))) false [])) := by kernel_rfl
theorem e10_zf (w : World) (os : OsState) : segRun' tree' pw' (w.withFollow rA false) 11 ann0 1 18 (S10 (w.withFollow rA false).params os 94) (Th (denote' tree') (forC 10 28) ⟨13, 4, 13, 23⟩ ⟨12, 9, 12, 110⟩ (Kof (segGo' tree' pw' (w.withFollow rA false) 11 ann0 1 55 (X4 (w.withFollow rA false).params os) (wh execs' 10 1 ⟨11, 0, 11, 28⟩))) false []) = some (.next, X5 (w.withFollow rA false).params os, cE, ⟨12, 9, 12, 110⟩) := by kernel_rfl
theorem e10_wf (w : World) (os : OsState) : segRun treeTable pw' (w.withFollow rA false) 11 ann0 1 (55 + (4230 + 18)) (X4 (w.withFollow rA false).params os).abs (wh execs 10 1 ⟨11, 0, 11, 28⟩) = some (.next, (X5 (w.withFollow rA false).params os).abs, cE, ⟨12, 9, 12, 110⟩) :=
  seg_go (segGo_of (by rw [segGo_eq, tree_eq, execs_eq]; exact e10_af w os)) (seg_go (by rw [← tree_eq, ← denote_eq]; exact e10l (w.withFollow rA false) os _) (segRun_of (by rw [segRun_eq, tree_eq]; exact e10_zf w os)))
theorem e10_at (w : World) (os : OsState) : segGo' tree' pw' (w.withFollow rA true) 11 ann0 1 55 (X4 (w.withFollow rA true).params os) (wh execs' 10 1 ⟨11, 0, 11, 28⟩) = some (S10 (w.withFollow rA true).params os 0, (Th (denote' tree') (forC 10 28) ⟨13, 4, 13, 23⟩ ⟨12, 9, 12, 110⟩ (Kof (segGo' tree' pw' (w.withFollow rA true) 11 ann0 1 55 (X4 (w.withFollow rA true).params os) (wh execs' 10 1 ⟨11, 0, 11, 28⟩))) false [])) := by kernel_rfl
theorem e10_zt (w : World) (os : OsState) : segRun' tree' pw' (w.withFollow rA true) 11 ann0 1 18 (S10 (w.withFollow rA true).params os 94) (Th (denote' tree') (forC 10 28) ⟨13, 4, 13, 23⟩ ⟨12, 9, 12, 110⟩ (Kof (segGo' tree' pw' (w.withFollow rA true) 11 ann0 1 55 (X4 (w.withFollow rA true).params os) (wh execs' 10 1 ⟨11, 0, 11, 28⟩))) false []) = some (.next, X5 (w.withFollow rA true).params os, cE, ⟨12, 9, 12, 110⟩) := by kernel_rfl
theorem e10_wt (w : World) (os : OsState) : segRun treeTable pw' (w.withFollow rA true) 11 ann0 1 (55 + (4230 + 18)) (X4 (w.withFollow rA true).params os).abs (wh execs 10 1 ⟨11, 0, 11, 28⟩) = some (.next, (X5 (w.withFollow rA true).params os).abs, cE, ⟨12, 9, 12, 110⟩) :=
  seg_go (segGo_of (by rw [segGo_eq, tree_eq, execs_eq]; exact e10_at w os)) (seg_go (by rw [← tree_eq, ← denote_eq]; exact e10l (w.withFollow rA true) os _) (segRun_of (by rw [segRun_eq, tree_eq]; exact e10_zt w os)))
theorem p10 (w : World) (os : OsState) : segRun treeTable pw' w 11 ann0 1 4303 (X4 w.params os).abs (wh execs 10 1 ⟨11, 0, 11, 28⟩) = some (.next, (X5 w.params os).abs, cE, ⟨12, 9, 12, 110⟩) :=
  byRow2 rA (P := fun w => segRun treeTable pw' w 11 ann0 1 4303 (X4 w.params os).abs (wh execs 10 1 ⟨11, 0, 11, 28⟩) = some (.next, (X5 w.params os).abs, cE, ⟨12, 9, 12, 110⟩)) (fun w => e10_wf w os) (fun w => e10_wt w os) w
end Hd
end
theorem Mine.freshHK : True := by k_with_none; w_top off; first | walk1 | trivial
-- HK
section
open PySem PySem.W PyProof.Rows
set_option Elab.async false
set_option maxRecDepth 100000
namespace Hd
/-- what the top has left, written out (the defs' own parts are taken out of the given row) -/
noncomputable def KK : Params → Frag := by
  refine (?f : dfn PySem.Challenge.pw_mr0202_01 11 = .FunctionDef ?n11 ?a11 ?b11 ?d11 ?r11 ?t11 ?s11 ?u11 ?v11 ?p11 →
    dfn PySem.Challenge.pw_mr0202_01 12 = .FunctionDef ?n12 ?a12 ?b12 ?d12 ?r12 ?t12 ?s12 ?u12 ?v12 ?p12 →
    dfn PySem.Challenge.pw_mr0202_01 17 = .FunctionDef ?n17 ?a17 ?b17 ?d17 ?r17 ?t17 ?s17 ?u17 ?v17 ?p17 →
    dfn PySem.Challenge.pw_mr0202_01 18 = .FunctionDef ?n18 ?a18 ?b18 ?d18 ?r18 ?t18 ?s18 ?u18 ?v18 ?p18 →
    dfn PySem.Challenge.pw_mr0202_01 19 = .FunctionDef ?n19 ?a19 ?b19 ?d19 ?r19 ?t19 ?s19 ?u19 ?v19 ?p19 →
    dfn PySem.Challenge.pw_mr0202_01 20 = .FunctionDef ?n20 ?a20 ?b20 ?d20 ?r20 ?t20 ?s20 ?u20 ?v20 ?p20 →
    dfn PySem.Challenge.pw_mr0202_01 21 = .FunctionDef ?n21 ?a21 ?b21 ?d21 ?r21 ?t21 ?s21 ?u21 ?v21 ?p21 →
    dfn PySem.Challenge.pw_mr0202_01 22 = .FunctionDef ?n22 ?a22 ?b22 ?d22 ?r22 ?t22 ?s22 ?u22 ?v22 ?p22 →
    dfn PySem.Challenge.pw_mr0202_01 23 = .FunctionDef ?n23 ?a23 ?b23 ?d23 ?r23 ?t23 ?s23 ?u23 ?v23 ?p23 →
    dfn PySem.Challenge.pw_mr0202_01 24 = .FunctionDef ?n24 ?a24 ?b24 ?d24 ?r24 ?t24 ?s24 ?u24 ?v24 ?p24 →
    dfn PySem.Challenge.pw_mr0202_01 25 = .FunctionDef ?n25 ?a25 ?b25 ?d25 ?r25 ?t25 ?s25 ?u25 ?v25 ?p25 →
    dfn PySem.Challenge.pw_mr0202_01 26 = .FunctionDef ?n26 ?a26 ?b26 ?d26 ?r26 ?t26 ?s26 ?u26 ?v26 ?p26 →
    dfn PySem.Challenge.pw_mr0202_01 27 = .FunctionDef ?n27 ?a27 ?b27 ?d27 ?r27 ?t27 ?s27 ?u27 ?v27 ?p27 →
    dfn PySem.Challenge.pw_mr0202_01 28 = .FunctionDef ?n28 ?a28 ?b28 ?d28 ?r28 ?t28 ?s28 ?u28 ?v28 ?p28 →
    dfn PySem.Challenge.pw_mr0202_01 29 = .FunctionDef ?n29 ?a29 ?b29 ?d29 ?r29 ?t29 ?s29 ?u29 ?v29 ?p29 →
    dfn PySem.Challenge.pw_mr0202_01 31 = .FunctionDef ?n31 ?a31 ?b31 ?d31 ?r31 ?t31 ?s31 ?u31 ?v31 ?p31 →
    dfn PySem.Challenge.pw_mr0202_01 33 = .FunctionDef ?n33 ?a33 ?b33 ?d33 ?r33 ?t33 ?s33 ?u33 ?v33 ?p33 →
    dfn PySem.Challenge.pw_mr0202_01 34 = .FunctionDef ?n34 ?a34 ?b34 ?d34 ?r34 ?t34 ?s34 ?u34 ?v34 ?p34 →
    dfn PySem.Challenge.pw_mr0202_01 35 = .FunctionDef ?n35 ?a35 ?b35 ?d35 ?r35 ?t35 ?s35 ?u35 ?v35 ?p35 →
    dfn PySem.Challenge.pw_mr0202_01 36 = .FunctionDef ?n36 ?a36 ?b36 ?d36 ?r36 ?t36 ?s36 ?u36 ?v36 ?p36 → Params → Frag) ?h11 ?h12 ?h17 ?h18 ?h19 ?h20 ?h21 ?h22 ?h23 ?h24 ?h25 ?h26 ?h27 ?h28 ?h29 ?h31 ?h33 ?h34 ?h35 ?h36
  case h11 => exact rfl
  case h12 => exact rfl
  case h17 => exact rfl
  case h18 => exact rfl
  case h19 => exact rfl
  case h20 => exact rfl
  case h21 => exact rfl
  case h22 => exact rfl
  case h23 => exact rfl
  case h24 => exact rfl
  case h25 => exact rfl
  case h26 => exact rfl
  case h27 => exact rfl
  case h28 => exact rfl
  case h29 => exact rfl
  case h31 => exact rfl
  case h33 => exact rfl
  case h34 => exact rfl
  case h35 => exact rfl
  case h36 => exact rfl
  case f =>
    exact fun _ _ _ _ _ _ _ _ _ _ _ _ _ _ _ _ _ _ _ _ P =>
      ((nat_lit 2), (⟨.none, none, (.dict #[] 0), #[]⟩ : Obj)) ::
      ((nat_lit 3), (⟨(.type "dict"), none, (.dict #[⟨PyData.keyHash P (Str.ofString "__name__"), (.str (Str.ofString "__name__") 165), (.str (Str.ofString "law_mr0202_01") 1878)⟩, ⟨PyData.keyHash P (Str.ofString "__doc__"), (.str (Str.ofString "__doc__") 166), .none⟩, ⟨PyData.keyHash P (Str.ofString "__package__"), (.str (Str.ofString "__package__") 167), .none⟩, ⟨PyData.keyHash P (Str.ofString "__loader__"), (.str (Str.ofString "__loader__") 168), (.builtin "__main__.__loader__#opaque")⟩, ⟨PyData.keyHash P (Str.ofString "__spec__"), (.str (Str.ofString "__spec__") 169), .none⟩, ⟨PyData.keyHash P (Str.ofString "__annotations__"), (.str (Str.ofString "__annotations__") 170), (.ref 6)⟩, ⟨PyData.keyHash P (Str.ofString "__builtins__"), (.str (Str.ofString "__builtins__") 171), (.ref 4)⟩, ⟨PyData.keyHash P (Str.ofString "__file__"), (.str (Str.ofString "__file__") 173), (.str (Str.ofString "/claim/cut.py") 172)⟩, ⟨PyData.keyHash P (Str.ofString "__cached__"), (.str (Str.ofString "__cached__") 174), .none⟩, ⟨PyData.keyHash P (Str.ofString "_QUOPRI_MAP"), (.str (Str.ofString "_QUOPRI_MAP") 1214), (.ref 17)⟩, ⟨PyData.keyHash P (Str.ofString "_QUOPRI_HEADER_MAP"), (.str (Str.ofString "_QUOPRI_HEADER_MAP") 1215), (.ref 22)⟩, ⟨PyData.keyHash P (Str.ofString "_QUOPRI_BODY_MAP"), (.str (Str.ofString "_QUOPRI_BODY_MAP") 1216), (.ref 24)⟩, ⟨PyData.keyHash P (Str.ofString "ascii_lowercase"), (.str (Str.ofString "ascii_lowercase") 1218), (.str (Str.ofString "abcdefghijklmnopqrstuvwxyz") 1217)⟩, ⟨PyData.keyHash P (Str.ofString "ascii_uppercase"), (.str (Str.ofString "ascii_uppercase") 1220), (.str (Str.ofString "ABCDEFGHIJKLMNOPQRSTUVWXYZ") 1219)⟩, ⟨PyData.keyHash P (Str.ofString "ascii_letters"), (.str (Str.ofString "ascii_letters") 1222), (.str (Str.ofString "abcdefghijklmnopqrstuvwxyzABCDEFGHIJKLMNOPQRSTUVWXYZ") 1221)⟩, ⟨PyData.keyHash P (Str.ofString "digits"), (.str (Str.ofString "digits") 1224), (.str (Str.ofString "0123456789") 1223)⟩, ⟨PyData.keyHash P (Str.ofString "unquote"), (.str (Str.ofString "unquote") 1730), (.ref 37)⟩, ⟨PyData.keyHash P (Str.ofString "quote"), (.str (Str.ofString "quote") 1737), (.ref 44)⟩, ⟨PyData.keyHash P (Str.ofString "_QUOPRI_BODY_ENCODE_MAP"), (.str (Str.ofString "_QUOPRI_BODY_ENCODE_MAP") 1738), (.ref 46)⟩, ⟨PyData.keyHash P (Str.ofString "_gt_from_lt"), (.str (Str.ofString "_gt_from_lt") 1756), (.ref 56)⟩, ⟨PyData.keyHash P (Str.ofString "_le_from_lt"), (.str (Str.ofString "_le_from_lt") 1765), (.ref 63)⟩, ⟨PyData.keyHash P (Str.ofString "_ge_from_lt"), (.str (Str.ofString "_ge_from_lt") 1774), (.ref 70)⟩, ⟨PyData.keyHash P (Str.ofString "_ge_from_le"), (.str (Str.ofString "_ge_from_le") 1783), (.ref 77)⟩, ⟨PyData.keyHash P (Str.ofString "_lt_from_le"), (.str (Str.ofString "_lt_from_le") 1792), (.ref 84)⟩, ⟨PyData.keyHash P (Str.ofString "_gt_from_le"), (.str (Str.ofString "_gt_from_le") 1801), (.ref 91)⟩, ⟨PyData.keyHash P (Str.ofString "_lt_from_gt"), (.str (Str.ofString "_lt_from_gt") 1810), (.ref 98)⟩, ⟨PyData.keyHash P (Str.ofString "_ge_from_gt"), (.str (Str.ofString "_ge_from_gt") 1819), (.ref 105)⟩, ⟨PyData.keyHash P (Str.ofString "_le_from_gt"), (.str (Str.ofString "_le_from_gt") 1828), (.ref 112)⟩, ⟨PyData.keyHash P (Str.ofString "_le_from_ge"), (.str (Str.ofString "_le_from_ge") 1837), (.ref 119)⟩, ⟨PyData.keyHash P (Str.ofString "_gt_from_ge"), (.str (Str.ofString "_gt_from_ge") 1846), (.ref 126)⟩, ⟨PyData.keyHash P (Str.ofString "_lt_from_ge"), (.str (Str.ofString "_lt_from_ge") 1855), (.ref 133)⟩, ⟨PyData.keyHash P (Str.ofString "cmp_to_key"), (.str (Str.ofString "cmp_to_key") 1864), (.ref 140)⟩, ⟨PyData.keyHash P (Str.ofString "_initial_missing"), (.str (Str.ofString "_initial_missing") 1865), (.ref 141)⟩, ⟨PyData.keyHash P (Str.ofString "reduce"), (.str (Str.ofString "reduce") 1877), (.ref 149)⟩, ⟨PyData.keyHash P (Str.ofString "_law_rows"), (.str (Str.ofString "_law_rows") 1888), (.ref 156)⟩, ⟨PyData.keyHash P (Str.ofString "_law_hex"), (.str (Str.ofString "_law_hex") 1894), (.ref 161)⟩, ⟨PyData.keyHash P (Str.ofString "_law_twelve"), (.str (Str.ofString "_law_twelve") 1900), (.ref 166)⟩, ⟨PyData.keyHash P (Str.ofString "law"), (.str (Str.ofString "law") 1906), (.ref 171)⟩] 40), #[]⟩ : Obj)) ::
      ((nat_lit 17), (⟨(.type "list"), none, (.seq (List.toArray ((.str (Str.ofString "=00") 193) :: (.str (Str.ofString "=01") 197) :: (.str (Str.ofString "=02") 201) :: (.str (Str.ofString "=03") 205) :: (.str (Str.ofString "=04") 209) :: (.str (Str.ofString "=05") 213) :: (.str (Str.ofString "=06") 217) :: (.str (Str.ofString "=07") 221) :: (.str (Str.ofString "=08") 225) :: (.str (Str.ofString "=09") 229) :: (.str (Str.ofString "=0A") 233) :: (.str (Str.ofString "=0B") 237) :: (.str (Str.ofString "=0C") 241) :: (.str (Str.ofString "=0D") 245) :: (.str (Str.ofString "=0E") 249) :: (.str (Str.ofString "=0F") 253) :: (.str (Str.ofString "=10") 257) :: (.str (Str.ofString "=11") 261) :: (.str (Str.ofString "=12") 265) :: (.str (Str.ofString "=13") 269) :: (.str (Str.ofString "=14") 273) :: (.str (Str.ofString "=15") 277) :: (.str (Str.ofString "=16") 281) :: (.str (Str.ofString "=17") 285) :: (.str (Str.ofString "=18") 289) :: (.str (Str.ofString "=19") 293) :: (.str (Str.ofString "=1A") 297) :: (.str (Str.ofString "=1B") 301) :: (.str (Str.ofString "=1C") 305) :: (.str (Str.ofString "=1D") 309) :: (.str (Str.ofString "=1E") 313) :: (.str (Str.ofString "=1F") 317) :: (.str (Str.ofString "=20") 321) :: (.str (Str.ofString "=21") 325) :: (.str (Str.ofString "=22") 329) :: (.str (Str.ofString "=23") 333) :: (.str (Str.ofString "=24") 337) :: (.str (Str.ofString "=25") 341) :: (.str (Str.ofString "=26") 345) :: (.str (Str.ofString "=27") 349) :: (.str (Str.ofString "=28") 353) :: (.str (Str.ofString "=29") 357) :: (.str (Str.ofString "=2A") 361) :: (.str (Str.ofString "=2B") 365) :: (.str (Str.ofString "=2C") 369) :: (.str (Str.ofString "=2D") 373) :: (.str (Str.ofString "=2E") 377) :: (.str (Str.ofString "=2F") 381) :: (.str (Str.ofString "=30") 385) :: (.str (Str.ofString "=31") 389) :: (.str (Str.ofString "=32") 393) :: (.str (Str.ofString "=33") 397) :: (.str (Str.ofString "=34") 401) :: (.str (Str.ofString "=35") 405) :: (.str (Str.ofString "=36") 409) :: (.str (Str.ofString "=37") 413) :: (.str (Str.ofString "=38") 417) :: (.str (Str.ofString "=39") 421) :: (.str (Str.ofString "=3A") 425) :: (.str (Str.ofString "=3B") 429) :: (.str (Str.ofString "=3C") 433) :: (.str (Str.ofString "=3D") 437) :: (.str (Str.ofString "=3E") 441) :: (.str (Str.ofString "=3F") 445) :: (.str (Str.ofString "=40") 449) :: (.str (Str.ofString "=41") 453) :: (.str (Str.ofString "=42") 457) :: (.str (Str.ofString "=43") 461) :: (.str (Str.ofString "=44") 465) :: (.str (Str.ofString "=45") 469) :: (.str (Str.ofString "=46") 473) :: (.str (Str.ofString "=47") 477) :: (.str (Str.ofString "=48") 481) :: (.str (Str.ofString "=49") 485) :: (.str (Str.ofString "=4A") 489) :: (.str (Str.ofString "=4B") 493) :: (.str (Str.ofString "=4C") 497) :: (.str (Str.ofString "=4D") 501) :: (.str (Str.ofString "=4E") 505) :: (.str (Str.ofString "=4F") 509) :: (.str (Str.ofString "=50") 513) :: (.str (Str.ofString "=51") 517) :: (.str (Str.ofString "=52") 521) :: (.str (Str.ofString "=53") 525) :: (.str (Str.ofString "=54") 529) :: (.str (Str.ofString "=55") 533) :: (.str (Str.ofString "=56") 537) :: (.str (Str.ofString "=57") 541) :: (.str (Str.ofString "=58") 545) :: (.str (Str.ofString "=59") 549) :: (.str (Str.ofString "=5A") 553) :: (.str (Str.ofString "=5B") 557) :: (.str (Str.ofString "=5C") 561) :: (.str (Str.ofString "=5D") 565) :: (.str (Str.ofString "=5E") 569) :: (.str (Str.ofString "=5F") 573) :: (.str (Str.ofString "=60") 577) :: (.str (Str.ofString "=61") 581) :: (.str (Str.ofString "=62") 585) :: (.str (Str.ofString "=63") 589) :: (.str (Str.ofString "=64") 593) :: (.str (Str.ofString "=65") 597) :: (.str (Str.ofString "=66") 601) :: (.str (Str.ofString "=67") 605) :: (.str (Str.ofString "=68") 609) :: (.str (Str.ofString "=69") 613) :: (.str (Str.ofString "=6A") 617) :: (.str (Str.ofString "=6B") 621) :: (.str (Str.ofString "=6C") 625) :: (.str (Str.ofString "=6D") 629) :: (.str (Str.ofString "=6E") 633) :: (.str (Str.ofString "=6F") 637) :: (.str (Str.ofString "=70") 641) :: (.str (Str.ofString "=71") 645) :: (.str (Str.ofString "=72") 649) :: (.str (Str.ofString "=73") 653) :: (.str (Str.ofString "=74") 657) :: (.str (Str.ofString "=75") 661) :: (.str (Str.ofString "=76") 665) :: (.str (Str.ofString "=77") 669) :: (.str (Str.ofString "=78") 673) :: (.str (Str.ofString "=79") 677) :: (.str (Str.ofString "=7A") 681) :: (.str (Str.ofString "=7B") 685) :: (.str (Str.ofString "=7C") 689) :: (.str (Str.ofString "=7D") 693) :: (.str (Str.ofString "=7E") 697) :: (.str (Str.ofString "=7F") 701) :: (.str (Str.ofString "=80") 705) :: (.str (Str.ofString "=81") 709) :: (.str (Str.ofString "=82") 713) :: (.str (Str.ofString "=83") 717) :: (.str (Str.ofString "=84") 721) :: (.str (Str.ofString "=85") 725) :: (.str (Str.ofString "=86") 729) :: (.str (Str.ofString "=87") 733) :: (.str (Str.ofString "=88") 737) :: (.str (Str.ofString "=89") 741) :: (.str (Str.ofString "=8A") 745) :: (.str (Str.ofString "=8B") 749) :: (.str (Str.ofString "=8C") 753) :: (.str (Str.ofString "=8D") 757) :: (.str (Str.ofString "=8E") 761) :: (.str (Str.ofString "=8F") 765) :: (.str (Str.ofString "=90") 769) :: (.str (Str.ofString "=91") 773) :: (.str (Str.ofString "=92") 777) :: (.str (Str.ofString "=93") 781) :: (.str (Str.ofString "=94") 785) :: (.str (Str.ofString "=95") 789) :: (.str (Str.ofString "=96") 793) :: (.str (Str.ofString "=97") 797) :: (.str (Str.ofString "=98") 801) :: (.str (Str.ofString "=99") 805) :: (.str (Str.ofString "=9A") 809) :: (.str (Str.ofString "=9B") 813) :: (.str (Str.ofString "=9C") 817) :: (.str (Str.ofString "=9D") 821) :: (.str (Str.ofString "=9E") 825) :: (.str (Str.ofString "=9F") 829) :: (.str (Str.ofString "=A0") 833) :: (.str (Str.ofString "=A1") 837) :: (.str (Str.ofString "=A2") 841) :: (.str (Str.ofString "=A3") 845) :: (.str (Str.ofString "=A4") 849) :: (.str (Str.ofString "=A5") 853) :: (.str (Str.ofString "=A6") 857) :: (.str (Str.ofString "=A7") 861) :: (.str (Str.ofString "=A8") 865) :: (.str (Str.ofString "=A9") 869) :: (.str (Str.ofString "=AA") 873) :: (.str (Str.ofString "=AB") 877) :: (.str (Str.ofString "=AC") 881) :: (.str (Str.ofString "=AD") 885) :: (.str (Str.ofString "=AE") 889) :: (.str (Str.ofString "=AF") 893) :: (.str (Str.ofString "=B0") 897) :: (.str (Str.ofString "=B1") 901) :: (.str (Str.ofString "=B2") 905) :: (.str (Str.ofString "=B3") 909) :: (.str (Str.ofString "=B4") 913) :: (.str (Str.ofString "=B5") 917) :: (.str (Str.ofString "=B6") 921) :: (.str (Str.ofString "=B7") 925) :: (.str (Str.ofString "=B8") 929) :: (.str (Str.ofString "=B9") 933) :: (.str (Str.ofString "=BA") 937) :: (.str (Str.ofString "=BB") 941) :: (.str (Str.ofString "=BC") 945) :: (.str (Str.ofString "=BD") 949) :: (.str (Str.ofString "=BE") 953) :: (.str (Str.ofString "=BF") 957) :: (.str (Str.ofString "=C0") 961) :: (.str (Str.ofString "=C1") 965) :: (.str (Str.ofString "=C2") 969) :: (.str (Str.ofString "=C3") 973) :: (.str (Str.ofString "=C4") 977) :: (.str (Str.ofString "=C5") 981) :: (.str (Str.ofString "=C6") 985) :: (.str (Str.ofString "=C7") 989) :: (.str (Str.ofString "=C8") 993) :: (.str (Str.ofString "=C9") 997) :: (.str (Str.ofString "=CA") 1001) :: (.str (Str.ofString "=CB") 1005) :: (.str (Str.ofString "=CC") 1009) :: (.str (Str.ofString "=CD") 1013) :: (.str (Str.ofString "=CE") 1017) :: (.str (Str.ofString "=CF") 1021) :: (.str (Str.ofString "=D0") 1025) :: (.str (Str.ofString "=D1") 1029) :: (.str (Str.ofString "=D2") 1033) :: (.str (Str.ofString "=D3") 1037) :: (.str (Str.ofString "=D4") 1041) :: (.str (Str.ofString "=D5") 1045) :: (.str (Str.ofString "=D6") 1049) :: (.str (Str.ofString "=D7") 1053) :: (.str (Str.ofString "=D8") 1057) :: (.str (Str.ofString "=D9") 1061) :: (.str (Str.ofString "=DA") 1065) :: (.str (Str.ofString "=DB") 1069) :: (.str (Str.ofString "=DC") 1073) :: (.str (Str.ofString "=DD") 1077) :: (.str (Str.ofString "=DE") 1081) :: (.str (Str.ofString "=DF") 1085) :: (.str (Str.ofString "=E0") 1089) :: (.str (Str.ofString "=E1") 1093) :: (.str (Str.ofString "=E2") 1097) :: (.str (Str.ofString "=E3") 1101) :: (.str (Str.ofString "=E4") 1105) :: (.str (Str.ofString "=E5") 1109) :: (.str (Str.ofString "=E6") 1113) :: (.str (Str.ofString "=E7") 1117) :: (.str (Str.ofString "=E8") 1121) :: (.str (Str.ofString "=E9") 1125) :: (.str (Str.ofString "=EA") 1129) :: (.str (Str.ofString "=EB") 1133) :: (.str (Str.ofString "=EC") 1137) :: (.str (Str.ofString "=ED") 1141) :: (.str (Str.ofString "=EE") 1145) :: (.str (Str.ofString "=EF") 1149) :: (.str (Str.ofString "=F0") 1153) :: (.str (Str.ofString "=F1") 1157) :: (.str (Str.ofString "=F2") 1161) :: (.str (Str.ofString "=F3") 1165) :: (.str (Str.ofString "=F4") 1169) :: (.str (Str.ofString "=F5") 1173) :: (.str (Str.ofString "=F6") 1177) :: (.str (Str.ofString "=F7") 1181) :: (.str (Str.ofString "=F8") 1185) :: (.str (Str.ofString "=F9") 1189) :: (.str (Str.ofString "=FA") 1193) :: (.str (Str.ofString "=FB") 1197) :: (.str (Str.ofString "=FC") 1201) :: (.str (Str.ofString "=FD") 1205) :: (.str (Str.ofString "=FE") 1209) :: (.str (Str.ofString "=FF") 1213) :: [])) 256), #[]⟩ : Obj)) ::
      ((nat_lit 31), (⟨(.type "tuple"), none, (.seq #[] 0), #[]⟩ : Obj)) ::
      ((nat_lit 33), (⟨(.type "tuple"), none, (.seq #[(.str (Str.ofString "s") 1727)] 0), #[]⟩ : Obj)) ::
      ((nat_lit 34), (⟨(.type "tuple"), none, (.seq #[] 0), #[]⟩ : Obj)) ::
      ((nat_lit 36), (⟨(.type "code"), none, (.fields #[(.str (Str.ofString "unquote") 1724), (.str (Str.ofString "unquote") 1725), (.str (Str.ofString "/claim/cut.py") 1726), (.int 14 0), (.int 1 0), (.int 0 0), (.int 0 0), (.int 3 0), (.ref 31), (.bool true), (.int 181 0), (.ref 32), .none, (.ref 33), (.ref 34), (.ref 35), (.int 1728 0), (.int 14 0), (.str (Str.ofString "/claim/cut.py") 1729)]), #[]⟩ : Obj)) ::
      ((nat_lit 37), (⟨(.type "function"), none, (.func ⟨?n11, ?n11, ?a11, .stmts ?b11, ?s11, 3, [], .none, .none, .none, (.str (Str.ofString "cpy313.email.quoprimime") 1225), none, (.ref 36), .none, 0⟩), #[]⟩ : Obj)) ::
      ((nat_lit 38), (⟨(.type "tuple"), none, (.seq #[] 0), #[]⟩ : Obj)) ::
      ((nat_lit 40), (⟨(.type "tuple"), none, (.seq #[(.str (Str.ofString "c") 1734)] 0), #[]⟩ : Obj)) ::
      ((nat_lit 41), (⟨(.type "tuple"), none, (.seq #[] 0), #[]⟩ : Obj)) ::
      ((nat_lit 43), (⟨(.type "code"), none, (.fields #[(.str (Str.ofString "quote") 1731), (.str (Str.ofString "quote") 1732), (.str (Str.ofString "/claim/cut.py") 1733), (.int 16 0), (.int 1 0), (.int 0 0), (.int 0 0), (.int 3 0), (.ref 38), (.bool true), (.int 181 0), (.ref 39), .none, (.ref 40), (.ref 41), (.ref 42), (.int 1735 0), (.int 16 0), (.str (Str.ofString "/claim/cut.py") 1736)]), #[]⟩ : Obj)) ::
      ((nat_lit 44), (⟨(.type "function"), none, (.func ⟨?n12, ?n12, ?a12, .stmts ?b12, ?s12, 3, [], .none, .none, .none, (.str (Str.ofString "cpy313.email.quoprimime") 1225), none, (.ref 43), .none, 0⟩), #[]⟩ : Obj)) ::
      ((nat_lit 50), (⟨(.type "tuple"), none, (.seq #[] 0), #[]⟩ : Obj)) ::
      ((nat_lit 52), (⟨(.type "tuple"), none, (.seq #[(.str (Str.ofString "self") 1751), (.str (Str.ofString "other") 1752), (.str (Str.ofString "op_result") 1753)] 0), #[]⟩ : Obj)) ::
      ((nat_lit 53), (⟨(.type "tuple"), none, (.seq #[] 0), #[]⟩ : Obj)) ::
      ((nat_lit 55), (⟨(.type "code"), none, (.fields #[(.str (Str.ofString "_gt_from_lt") 1748), (.str (Str.ofString "_gt_from_lt") 1749), (.str (Str.ofString "/claim/cut.py") 1750), (.int 23 0), (.int 2 0), (.int 0 0), (.int 0 0), (.int 3 0), (.ref 50), (.bool true), (.int 181 0), (.ref 51), .none, (.ref 52), (.ref 53), (.ref 54), (.int 1754 0), (.int 23 0), (.str (Str.ofString "/claim/cut.py") 1755)]), #[]⟩ : Obj)) ::
      ((nat_lit 56), (⟨(.type "function"), none, (.func ⟨?n17, ?n17, ?a17, .stmts ?b17, ?s17, 3, [], .none, .none, .none, (.str (Str.ofString "cpy313.functools") 1746), none, (.ref 55), .none, 0⟩), #[]⟩ : Obj)) ::
      ((nat_lit 57), (⟨(.type "tuple"), none, (.seq #[] 0), #[]⟩ : Obj)) ::
      ((nat_lit 59), (⟨(.type "tuple"), none, (.seq #[(.str (Str.ofString "self") 1760), (.str (Str.ofString "other") 1761), (.str (Str.ofString "op_result") 1762)] 0), #[]⟩ : Obj)) ::
      ((nat_lit 60), (⟨(.type "tuple"), none, (.seq #[] 0), #[]⟩ : Obj)) ::
      ((nat_lit 62), (⟨(.type "code"), none, (.fields #[(.str (Str.ofString "_le_from_lt") 1757), (.str (Str.ofString "_le_from_lt") 1758), (.str (Str.ofString "/claim/cut.py") 1759), (.int 28 0), (.int 2 0), (.int 0 0), (.int 0 0), (.int 3 0), (.ref 57), (.bool true), (.int 181 0), (.ref 58), .none, (.ref 59), (.ref 60), (.ref 61), (.int 1763 0), (.int 28 0), (.str (Str.ofString "/claim/cut.py") 1764)]), #[]⟩ : Obj)) ::
      ((nat_lit 63), (⟨(.type "function"), none, (.func ⟨?n18, ?n18, ?a18, .stmts ?b18, ?s18, 3, [], .none, .none, .none, (.str (Str.ofString "cpy313.functools") 1746), none, (.ref 62), .none, 0⟩), #[]⟩ : Obj)) ::
      ((nat_lit 64), (⟨(.type "tuple"), none, (.seq #[] 0), #[]⟩ : Obj)) ::
      ((nat_lit 66), (⟨(.type "tuple"), none, (.seq #[(.str (Str.ofString "self") 1769), (.str (Str.ofString "other") 1770), (.str (Str.ofString "op_result") 1771)] 0), #[]⟩ : Obj)) ::
      ((nat_lit 67), (⟨(.type "tuple"), none, (.seq #[] 0), #[]⟩ : Obj)) ::
      ((nat_lit 69), (⟨(.type "code"), none, (.fields #[(.str (Str.ofString "_ge_from_lt") 1766), (.str (Str.ofString "_ge_from_lt") 1767), (.str (Str.ofString "/claim/cut.py") 1768), (.int 33 0), (.int 2 0), (.int 0 0), (.int 0 0), (.int 3 0), (.ref 64), (.bool true), (.int 181 0), (.ref 65), .none, (.ref 66), (.ref 67), (.ref 68), (.int 1772 0), (.int 33 0), (.str (Str.ofString "/claim/cut.py") 1773)]), #[]⟩ : Obj)) ::
      ((nat_lit 70), (⟨(.type "function"), none, (.func ⟨?n19, ?n19, ?a19, .stmts ?b19, ?s19, 3, [], .none, .none, .none, (.str (Str.ofString "cpy313.functools") 1746), none, (.ref 69), .none, 0⟩), #[]⟩ : Obj)) ::
      ((nat_lit 71), (⟨(.type "tuple"), none, (.seq #[] 0), #[]⟩ : Obj)) ::
      ((nat_lit 73), (⟨(.type "tuple"), none, (.seq #[(.str (Str.ofString "self") 1778), (.str (Str.ofString "other") 1779), (.str (Str.ofString "op_result") 1780)] 0), #[]⟩ : Obj)) ::
      ((nat_lit 74), (⟨(.type "tuple"), none, (.seq #[] 0), #[]⟩ : Obj)) ::
      ((nat_lit 76), (⟨(.type "code"), none, (.fields #[(.str (Str.ofString "_ge_from_le") 1775), (.str (Str.ofString "_ge_from_le") 1776), (.str (Str.ofString "/claim/cut.py") 1777), (.int 38 0), (.int 2 0), (.int 0 0), (.int 0 0), (.int 3 0), (.ref 71), (.bool true), (.int 181 0), (.ref 72), .none, (.ref 73), (.ref 74), (.ref 75), (.int 1781 0), (.int 38 0), (.str (Str.ofString "/claim/cut.py") 1782)]), #[]⟩ : Obj)) ::
      ((nat_lit 77), (⟨(.type "function"), none, (.func ⟨?n20, ?n20, ?a20, .stmts ?b20, ?s20, 3, [], .none, .none, .none, (.str (Str.ofString "cpy313.functools") 1746), none, (.ref 76), .none, 0⟩), #[]⟩ : Obj)) ::
      ((nat_lit 78), (⟨(.type "tuple"), none, (.seq #[] 0), #[]⟩ : Obj)) ::
      ((nat_lit 80), (⟨(.type "tuple"), none, (.seq #[(.str (Str.ofString "self") 1787), (.str (Str.ofString "other") 1788), (.str (Str.ofString "op_result") 1789)] 0), #[]⟩ : Obj)) ::
      ((nat_lit 81), (⟨(.type "tuple"), none, (.seq #[] 0), #[]⟩ : Obj)) ::
      ((nat_lit 83), (⟨(.type "code"), none, (.fields #[(.str (Str.ofString "_lt_from_le") 1784), (.str (Str.ofString "_lt_from_le") 1785), (.str (Str.ofString "/claim/cut.py") 1786), (.int 43 0), (.int 2 0), (.int 0 0), (.int 0 0), (.int 3 0), (.ref 78), (.bool true), (.int 181 0), (.ref 79), .none, (.ref 80), (.ref 81), (.ref 82), (.int 1790 0), (.int 43 0), (.str (Str.ofString "/claim/cut.py") 1791)]), #[]⟩ : Obj)) ::
      ((nat_lit 84), (⟨(.type "function"), none, (.func ⟨?n21, ?n21, ?a21, .stmts ?b21, ?s21, 3, [], .none, .none, .none, (.str (Str.ofString "cpy313.functools") 1746), none, (.ref 83), .none, 0⟩), #[]⟩ : Obj)) ::
      ((nat_lit 85), (⟨(.type "tuple"), none, (.seq #[] 0), #[]⟩ : Obj)) ::
      ((nat_lit 87), (⟨(.type "tuple"), none, (.seq #[(.str (Str.ofString "self") 1796), (.str (Str.ofString "other") 1797), (.str (Str.ofString "op_result") 1798)] 0), #[]⟩ : Obj)) ::
      ((nat_lit 88), (⟨(.type "tuple"), none, (.seq #[] 0), #[]⟩ : Obj)) ::
      ((nat_lit 90), (⟨(.type "code"), none, (.fields #[(.str (Str.ofString "_gt_from_le") 1793), (.str (Str.ofString "_gt_from_le") 1794), (.str (Str.ofString "/claim/cut.py") 1795), (.int 48 0), (.int 2 0), (.int 0 0), (.int 0 0), (.int 3 0), (.ref 85), (.bool true), (.int 181 0), (.ref 86), .none, (.ref 87), (.ref 88), (.ref 89), (.int 1799 0), (.int 48 0), (.str (Str.ofString "/claim/cut.py") 1800)]), #[]⟩ : Obj)) ::
      ((nat_lit 91), (⟨(.type "function"), none, (.func ⟨?n22, ?n22, ?a22, .stmts ?b22, ?s22, 3, [], .none, .none, .none, (.str (Str.ofString "cpy313.functools") 1746), none, (.ref 90), .none, 0⟩), #[]⟩ : Obj)) ::
      ((nat_lit 92), (⟨(.type "tuple"), none, (.seq #[] 0), #[]⟩ : Obj)) ::
      ((nat_lit 94), (⟨(.type "tuple"), none, (.seq #[(.str (Str.ofString "self") 1805), (.str (Str.ofString "other") 1806), (.str (Str.ofString "op_result") 1807)] 0), #[]⟩ : Obj)) ::
      ((nat_lit 95), (⟨(.type "tuple"), none, (.seq #[] 0), #[]⟩ : Obj)) ::
      ((nat_lit 97), (⟨(.type "code"), none, (.fields #[(.str (Str.ofString "_lt_from_gt") 1802), (.str (Str.ofString "_lt_from_gt") 1803), (.str (Str.ofString "/claim/cut.py") 1804), (.int 53 0), (.int 2 0), (.int 0 0), (.int 0 0), (.int 3 0), (.ref 92), (.bool true), (.int 181 0), (.ref 93), .none, (.ref 94), (.ref 95), (.ref 96), (.int 1808 0), (.int 53 0), (.str (Str.ofString "/claim/cut.py") 1809)]), #[]⟩ : Obj)) ::
      ((nat_lit 98), (⟨(.type "function"), none, (.func ⟨?n23, ?n23, ?a23, .stmts ?b23, ?s23, 3, [], .none, .none, .none, (.str (Str.ofString "cpy313.functools") 1746), none, (.ref 97), .none, 0⟩), #[]⟩ : Obj)) ::
      ((nat_lit 99), (⟨(.type "tuple"), none, (.seq #[] 0), #[]⟩ : Obj)) ::
      ((nat_lit 101), (⟨(.type "tuple"), none, (.seq #[(.str (Str.ofString "self") 1814), (.str (Str.ofString "other") 1815), (.str (Str.ofString "op_result") 1816)] 0), #[]⟩ : Obj)) ::
      ((nat_lit 102), (⟨(.type "tuple"), none, (.seq #[] 0), #[]⟩ : Obj)) ::
      ((nat_lit 104), (⟨(.type "code"), none, (.fields #[(.str (Str.ofString "_ge_from_gt") 1811), (.str (Str.ofString "_ge_from_gt") 1812), (.str (Str.ofString "/claim/cut.py") 1813), (.int 58 0), (.int 2 0), (.int 0 0), (.int 0 0), (.int 3 0), (.ref 99), (.bool true), (.int 181 0), (.ref 100), .none, (.ref 101), (.ref 102), (.ref 103), (.int 1817 0), (.int 58 0), (.str (Str.ofString "/claim/cut.py") 1818)]), #[]⟩ : Obj)) ::
      ((nat_lit 105), (⟨(.type "function"), none, (.func ⟨?n24, ?n24, ?a24, .stmts ?b24, ?s24, 3, [], .none, .none, .none, (.str (Str.ofString "cpy313.functools") 1746), none, (.ref 104), .none, 0⟩), #[]⟩ : Obj)) ::
      ((nat_lit 106), (⟨(.type "tuple"), none, (.seq #[] 0), #[]⟩ : Obj)) ::
      ((nat_lit 108), (⟨(.type "tuple"), none, (.seq #[(.str (Str.ofString "self") 1823), (.str (Str.ofString "other") 1824), (.str (Str.ofString "op_result") 1825)] 0), #[]⟩ : Obj)) ::
      ((nat_lit 109), (⟨(.type "tuple"), none, (.seq #[] 0), #[]⟩ : Obj)) ::
      ((nat_lit 111), (⟨(.type "code"), none, (.fields #[(.str (Str.ofString "_le_from_gt") 1820), (.str (Str.ofString "_le_from_gt") 1821), (.str (Str.ofString "/claim/cut.py") 1822), (.int 63 0), (.int 2 0), (.int 0 0), (.int 0 0), (.int 3 0), (.ref 106), (.bool true), (.int 181 0), (.ref 107), .none, (.ref 108), (.ref 109), (.ref 110), (.int 1826 0), (.int 63 0), (.str (Str.ofString "/claim/cut.py") 1827)]), #[]⟩ : Obj)) ::
      ((nat_lit 112), (⟨(.type "function"), none, (.func ⟨?n25, ?n25, ?a25, .stmts ?b25, ?s25, 3, [], .none, .none, .none, (.str (Str.ofString "cpy313.functools") 1746), none, (.ref 111), .none, 0⟩), #[]⟩ : Obj)) ::
      ((nat_lit 113), (⟨(.type "tuple"), none, (.seq #[] 0), #[]⟩ : Obj)) ::
      ((nat_lit 115), (⟨(.type "tuple"), none, (.seq #[(.str (Str.ofString "self") 1832), (.str (Str.ofString "other") 1833), (.str (Str.ofString "op_result") 1834)] 0), #[]⟩ : Obj)) ::
      ((nat_lit 116), (⟨(.type "tuple"), none, (.seq #[] 0), #[]⟩ : Obj)) ::
      ((nat_lit 118), (⟨(.type "code"), none, (.fields #[(.str (Str.ofString "_le_from_ge") 1829), (.str (Str.ofString "_le_from_ge") 1830), (.str (Str.ofString "/claim/cut.py") 1831), (.int 68 0), (.int 2 0), (.int 0 0), (.int 0 0), (.int 3 0), (.ref 113), (.bool true), (.int 181 0), (.ref 114), .none, (.ref 115), (.ref 116), (.ref 117), (.int 1835 0), (.int 68 0), (.str (Str.ofString "/claim/cut.py") 1836)]), #[]⟩ : Obj)) ::
      ((nat_lit 119), (⟨(.type "function"), none, (.func ⟨?n26, ?n26, ?a26, .stmts ?b26, ?s26, 3, [], .none, .none, .none, (.str (Str.ofString "cpy313.functools") 1746), none, (.ref 118), .none, 0⟩), #[]⟩ : Obj)) ::
      ((nat_lit 120), (⟨(.type "tuple"), none, (.seq #[] 0), #[]⟩ : Obj)) ::
      ((nat_lit 122), (⟨(.type "tuple"), none, (.seq #[(.str (Str.ofString "self") 1841), (.str (Str.ofString "other") 1842), (.str (Str.ofString "op_result") 1843)] 0), #[]⟩ : Obj)) ::
      ((nat_lit 123), (⟨(.type "tuple"), none, (.seq #[] 0), #[]⟩ : Obj)) ::
      ((nat_lit 125), (⟨(.type "code"), none, (.fields #[(.str (Str.ofString "_gt_from_ge") 1838), (.str (Str.ofString "_gt_from_ge") 1839), (.str (Str.ofString "/claim/cut.py") 1840), (.int 73 0), (.int 2 0), (.int 0 0), (.int 0 0), (.int 3 0), (.ref 120), (.bool true), (.int 181 0), (.ref 121), .none, (.ref 122), (.ref 123), (.ref 124), (.int 1844 0), (.int 73 0), (.str (Str.ofString "/claim/cut.py") 1845)]), #[]⟩ : Obj)) ::
      ((nat_lit 126), (⟨(.type "function"), none, (.func ⟨?n27, ?n27, ?a27, .stmts ?b27, ?s27, 3, [], .none, .none, .none, (.str (Str.ofString "cpy313.functools") 1746), none, (.ref 125), .none, 0⟩), #[]⟩ : Obj)) ::
      ((nat_lit 127), (⟨(.type "tuple"), none, (.seq #[] 0), #[]⟩ : Obj)) ::
      ((nat_lit 129), (⟨(.type "tuple"), none, (.seq #[(.str (Str.ofString "self") 1850), (.str (Str.ofString "other") 1851), (.str (Str.ofString "op_result") 1852)] 0), #[]⟩ : Obj)) ::
      ((nat_lit 130), (⟨(.type "tuple"), none, (.seq #[] 0), #[]⟩ : Obj)) ::
      ((nat_lit 132), (⟨(.type "code"), none, (.fields #[(.str (Str.ofString "_lt_from_ge") 1847), (.str (Str.ofString "_lt_from_ge") 1848), (.str (Str.ofString "/claim/cut.py") 1849), (.int 78 0), (.int 2 0), (.int 0 0), (.int 0 0), (.int 3 0), (.ref 127), (.bool true), (.int 181 0), (.ref 128), .none, (.ref 129), (.ref 130), (.ref 131), (.int 1853 0), (.int 78 0), (.str (Str.ofString "/claim/cut.py") 1854)]), #[]⟩ : Obj)) ::
      ((nat_lit 133), (⟨(.type "function"), none, (.func ⟨?n28, ?n28, ?a28, .stmts ?b28, ?s28, 3, [], .none, .none, .none, (.str (Str.ofString "cpy313.functools") 1746), none, (.ref 132), .none, 0⟩), #[]⟩ : Obj)) ::
      ((nat_lit 134), (⟨(.type "tuple"), none, (.seq #[] 0), #[]⟩ : Obj)) ::
      ((nat_lit 136), (⟨(.type "tuple"), none, (.seq #[(.str (Str.ofString "mycmp") 1859), (.str (Str.ofString "K") 1860)] 0), #[]⟩ : Obj)) ::
      ((nat_lit 137), (⟨(.type "tuple"), none, (.seq #[(.str (Str.ofString "mycmp") 1861)] 0), #[]⟩ : Obj)) ::
      ((nat_lit 139), (⟨(.type "code"), none, (.fields #[(.str (Str.ofString "cmp_to_key") 1856), (.str (Str.ofString "cmp_to_key") 1857), (.str (Str.ofString "/claim/cut.py") 1858), (.int 83 0), (.int 1 0), (.int 0 0), (.int 0 0), (.int 3 0), (.ref 134), (.bool true), (.int 181 0), (.ref 135), .none, (.ref 136), (.ref 137), (.ref 138), (.int 1862 0), (.int 83 0), (.str (Str.ofString "/claim/cut.py") 1863)]), #[]⟩ : Obj)) ::
      ((nat_lit 140), (⟨(.type "function"), none, (.func ⟨?n29, ?n29, ?a29, .stmts ?b29, ?s29, 3, [], .none, .none, .none, (.str (Str.ofString "cpy313.functools") 1746), none, (.ref 139), .none, 0⟩), #[]⟩ : Obj)) ::
      ((nat_lit 141), (⟨(.type "object"), none, .plain, #[]⟩ : Obj)) ::
      ((nat_lit 142), (⟨(.type "tuple"), none, (.seq #[(.ref 141)] 0), #[]⟩ : Obj)) ::
      ((nat_lit 143), (⟨(.type "tuple"), none, (.seq #[] 0), #[]⟩ : Obj)) ::
      ((nat_lit 145), (⟨(.type "tuple"), none, (.seq #[(.str (Str.ofString "function") 1869), (.str (Str.ofString "sequence") 1870), (.str (Str.ofString "initial") 1871), (.str (Str.ofString "it") 1872), (.str (Str.ofString "value") 1873), (.str (Str.ofString "element") 1874)] 0), #[]⟩ : Obj)) ::
      ((nat_lit 146), (⟨(.type "tuple"), none, (.seq #[] 0), #[]⟩ : Obj)) ::
      ((nat_lit 148), (⟨(.type "code"), none, (.fields #[(.str (Str.ofString "reduce") 1866), (.str (Str.ofString "reduce") 1867), (.str (Str.ofString "/claim/cut.py") 1868), (.int 109 0), (.int 3 0), (.int 0 0), (.int 0 0), (.int 3 0), (.ref 143), (.bool true), (.int 181 0), (.ref 144), .none, (.ref 145), (.ref 146), (.ref 147), (.int 1875 0), (.int 109 0), (.str (Str.ofString "/claim/cut.py") 1876)]), #[]⟩ : Obj)) ::
      ((nat_lit 149), (⟨(.type "function"), none, (.func ⟨?n31, ?n31, ?a31, .stmts ?b31, ?s31, 3, [], (.ref 142), .none, .none, (.str (Str.ofString "cpy313.functools") 1746), none, (.ref 148), .none, 0⟩), #[]⟩ : Obj)) ::
      ((nat_lit 150), (⟨(.type "tuple"), none, (.seq #[] 0), #[]⟩ : Obj)) ::
      ((nat_lit 152), (⟨(.type "tuple"), none, (.seq #[(.str (Str.ofString "numbers") 1883), (.str (Str.ofString "rows") 1884), (.str (Str.ofString "x") 1885)] 0), #[]⟩ : Obj)) ::
      ((nat_lit 153), (⟨(.type "tuple"), none, (.seq #[] 0), #[]⟩ : Obj)) ::
      ((nat_lit 155), (⟨(.type "code"), none, (.fields #[(.str (Str.ofString "_law_rows") 1880), (.str (Str.ofString "_law_rows") 1881), (.str (Str.ofString "/claim/cut.py") 1882), (.int 122 0), (.int 1 0), (.int 0 0), (.int 0 0), (.int 3 0), (.ref 150), (.bool true), (.int 181 0), (.ref 151), .none, (.ref 152), (.ref 153), (.ref 154), (.int 1886 0), (.int 122 0), (.str (Str.ofString "/claim/cut.py") 1887)]), #[]⟩ : Obj)) ::
      ((nat_lit 156), (⟨(.type "function"), none, (.func ⟨?n33, ?n33, ?a33, .stmts ?b33, ?s33, 3, [], .none, .none, .none, (.str (Str.ofString "law_mr0202_01") 1878), none, (.ref 155), .none, 0⟩), #[]⟩ : Obj)) ::
      ((nat_lit 157), (⟨(.type "tuple"), none, (.seq #[] 0), #[]⟩ : Obj)) ::
      ((nat_lit 160), (⟨(.type "code"), none, (.fields #[(.str (Str.ofString "_law_hex") 1889), (.str (Str.ofString "_law_hex") 1890), (.str (Str.ofString "/claim/cut.py") 1891), (.int 130 0), (.int 1 0), (.int 0 0), (.int 0 0), (.int 3 0), (.ref 157), (.bool true), (.int 181 0), (.ref 158), .none, .none, .none, (.ref 159), (.int 1892 0), (.int 130 0), (.str (Str.ofString "/claim/cut.py") 1893)]), #[]⟩ : Obj)) ::
      ((nat_lit 161), (⟨(.type "function"), none, (.func ⟨?n34, ?n34, ?a34, .stmts ?b34, ?s34, 3, [], .none, .none, .none, (.str (Str.ofString "law_mr0202_01") 1878), none, (.ref 160), .none, 0⟩), #[]⟩ : Obj)) ::
      ((nat_lit 162), (⟨(.type "tuple"), none, (.seq #[] 0), #[]⟩ : Obj)) ::
      ((nat_lit 165), (⟨(.type "code"), none, (.fields #[(.str (Str.ofString "_law_twelve") 1895), (.str (Str.ofString "_law_twelve") 1896), (.str (Str.ofString "/claim/cut.py") 1897), (.int 133 0), (.int 4 0), (.int 0 0), (.int 0 0), (.int 3 0), (.ref 162), (.bool true), (.int 181 0), (.ref 163), .none, .none, .none, (.ref 164), (.int 1898 0), (.int 133 0), (.str (Str.ofString "/claim/cut.py") 1899)]), #[]⟩ : Obj)) ::
      ((nat_lit 166), (⟨(.type "function"), none, (.func ⟨?n35, ?n35, ?a35, .stmts ?b35, ?s35, 3, [], .none, .none, .none, (.str (Str.ofString "law_mr0202_01") 1878), none, (.ref 165), .none, 0⟩), #[]⟩ : Obj)) ::
      ((nat_lit 167), (⟨(.type "tuple"), none, (.seq #[] 0), #[]⟩ : Obj)) ::
      ((nat_lit 170), (⟨(.type "code"), none, (.fields #[(.str (Str.ofString "law") 1901), (.str (Str.ofString "law") 1902), (.str (Str.ofString "/claim/cut.py") 1903), (.int 141 0), (.int 1 0), (.int 0 0), (.int 0 0), (.int 3 0), (.ref 167), (.bool true), (.int 181 0), (.ref 168), .none, .none, .none, (.ref 169), (.int 1904 0), (.int 141 0), (.str (Str.ofString "/claim/cut.py") 1905)]), #[]⟩ : Obj)) ::
      ((nat_lit 171), (⟨(.type "function"), none, (.func ⟨?n36, ?n36, ?a36, .stmts ?b36, ?s36, 3, [], .none, .none, .none, (.str (Str.ofString "law_mr0202_01") 1878), none, (.ref 170), .none, 0⟩), #[]⟩ : Obj)) ::
      ((nat_lit 0), boot_o_0 P) ::
      ((nat_lit 1), boot_o_1 P) ::
      ((nat_lit 4), boot_o_4 P) :: []
def KAs : List Addr := [2, 3, 17, 31, 33, 34, 36, 37, 38, 40, 41, 43, 44, 50, 52, 53, 55, 56, 57, 59, 60, 62, 63, 64, 66, 67, 69, 70, 71, 73, 74, 76, 77, 78, 80, 81, 83, 84, 85, 87, 88, 90, 91, 92, 94, 95, 97, 98, 99, 101, 102, 104, 105, 106, 108, 109, 111, 112, 113, 115, 116, 118, 119, 120, 122, 123, 125, 126, 127, 129, 130, 132, 133, 134, 136, 137, 139, 140, 141, 142, 143, 145, 146, 148, 149, 150, 152, 153, 155, 156, 157, 160, 161, 162, 165, 166, 167, 170, 171, 0, 1, 4]
theorem KAs_eq (P : Params) : KAs = (KK P).map (·.1) := by kernel_rfl
noncomputable def qv : Program := view PySem.Challenge.pw_mr0202_01 [0, 1, 2, 3, 4, 5, 6, 11, 12, 13, 17, 18, 19, 20, 21, 22, 23, 24, 25, 26, 27, 28, 29, 30, 33, 34, 35, 36]
def lo : List Str := [Str.ofString "_QUOPRI_MAP", Str.ofString "_QUOPRI_HEADER_MAP", Str.ofString "_QUOPRI_BODY_MAP", Str.ofString "ascii_letters", Str.ofString "_QUOPRI_BODY_ENCODE_MAP", Str.ofString "_initial_missing", Str.ofString "reduce"]
end Hd
end
theorem Mine.freshHC : True := by k_with_none; w_top off; first | walk1 | trivial
-- HC
section
open PySem PySem.W PyProof.Rows
set_option Elab.async false
set_option maxRecDepth 100000
set_option maxHeartbeats 0
namespace Hd
open PySem.W.Fast renaming tw13178266114437594781 → pw', te13178266114437594781 → pw_eq, tw10295753902157049106 → segGo', te10295753902157049106 → segGo_eq, tw10110043849684766642 → segRun', te10110043849684766642 → segRun_eq, tw14364793385576792824 → tree', te14364793385576792824 → tree_eq, tw11892475500146522536 → denote', te11892475500146522536 → denote_eq, tw12563942051412417395 → execs', te12563942051412417395 → execs_eq, tw15667345088766844465 → topGo', te15667345088766844465 → topGo_eq, tw14082659384304107361 → topRun', te14082659384304107361 → topRun_eq
theorem body_split : behindTheImports pw' = sg 0 1 ++ (sg 1 7 ++ (sg 8 1 ++ (sg 9 1 ++ (sg 10 1 ++ (sg 11 3 ++ (sg 14 1 ++ (sg 15 12 ++ (sg 27 10 ++ [])))))))) := by kernel_rfl
theorem pre' (w : World) (os : OsState) : topGo' tree' pw' w 11 ann0 12 ⟨boot_heap w.params, #[], boot_drawn, boot_toks, os⟩ (topStub pw') = some ((X0 w.params os).abs, ⟨denote' tree' cE, cE, ⟨0, 0, 0, 0⟩, [topFrame q0]⟩) := by kernel_rfl
theorem pre (w : World) (os : OsState) : topGo treeTable pw' w 11 ann0 12 ⟨boot_heap w.params, #[], boot_drawn, boot_toks, os⟩ (topStub pw') = some ((X0 w.params os).abs, ⟨denote treeTable cE, cE, ⟨0, 0, 0, 0⟩, [topFrame q0]⟩) := by
  rw [topGo_eq, tree_eq, denote_eq]; exact pre' w os
theorem block (w : World) (os : OsState) : segRun treeTable pw' w 11 ann0 1 1 (X0 w.params os).abs (blockOf (behindTheImports pw') envE cE ⟨0, 0, 0, 0⟩ [topFrame q0]) = some (.next, (X0 w.params os).abs, cE, ⟨0, 0, 0, 0⟩) := by kernel_rfl
theorem fin (w : World) (os : OsState) : topRun treeTable pw' w 11 ann0 2 (X9 w.params os).abs ⟨doneF .next, cE, ⟨141, 0, 152, 78⟩, [topFrame q0]⟩ = some ⟨H1 w.params, #[], boot_drawn, 1907, os⟩ := by kernel_rfl
theorem run (w : World) (os : OsState) : topRun treeTable pw' w 11 ann0 (12 + (1 + (9600 + (109 + (3077 + (25 + (4303 + (86 + (118 + (326 + (275 + 2))))))))))) ⟨boot_heap w.params, #[], boot_drawn, boot_toks, os⟩ (topStub pw') = some ⟨H1 w.params, #[], boot_drawn, 1907, os⟩ :=
  go_top (pre w os) (piece_block (block w os) (by
    rw [body_split]
    exact piece_app (p0 w os) (piece_app (p1 w os) (piece_app (p8 w os) (piece_app (p9 w os) (piece_app (p10 w os) (piece_app (p11 w os) (piece_app (p14 w os) (piece_app (p15 w os) (piece_app (p27 w os) (piece_nil (fin w os)))))))))))) 
end Hd
end
theorem Mine.freshHL : True := by k_with_none; w_top off; first | walk1 | trivial
-- HL
section
open PySem PySem.W PyProof.Rows
set_option Elab.async false
set_option maxRecDepth 100000
set_option maxHeartbeats 0
namespace Hd
open PySem.W.Fast renaming tw13178266114437594781 → pw', te13178266114437594781 → pw_eq, tw10295753902157049106 → segGo', te10295753902157049106 → segGo_eq, tw10110043849684766642 → segRun', te10110043849684766642 → segRun_eq, tw14364793385576792824 → tree', te14364793385576792824 → tree_eq, tw11892475500146522536 → denote', te11892475500146522536 → denote_eq, tw12563942051412417395 → execs', te12563942051412417395 → execs_eq, tw15667345088766844465 → topGo', te15667345088766844465 → topGo_eq, tw14082659384304107361 → topRun', te14082659384304107361 → topRun_eq
noncomputable def mods : List Str := importedModules pw'.main.body
noncomputable def fs (w : World) (os : OsState) : Shared := ⟨H1 w.params, #[], boot_drawn, 1907, os⟩
set_option profiler true
theorem size (w : World) : ((boot_heap w.params).isNs mainGlobals && (#[] : Array GenState).size == 0, (boot_heap w.params).objs.size, (boot_heap w.params).nsMap mainGlobals "__annotations__") = (true, 11, ann0) := by kernel_rfl
theorem lk1a (w : World) : staticsOk (importedModules pw'.main.body) (boot_heap w.params) (H1 w.params) = true := by kernel_rfl
theorem lk1b (w : World) : namesBound pw' (H1 w.params) = true := by kernel_rfl
theorem lk1c (w : World) (os : OsState) : gensDone (fs w os) = true := by kernel_rfl
theorem lk1d (w : World) : laidKept (boot_heap w.params) (H1 w.params) = true := by kernel_rfl
noncomputable def qv' : Program := view pw' [0, 1, 2, 3, 4, 5, 6, 11, 12, 13, 17, 18, 19, 20, 21, 22, 23, 24, 25, 26, 27, 28, 29, 30, 33, 34, 35, 36]
theorem qv_eq : qv = qv' := by unfold qv qv'; rw [pw_eq]
noncomputable def lo' : List Str := [st [95, 81, 85, 79, 80, 82, 73, 95, 77, 65, 80], st [95, 81, 85, 79, 80, 82, 73, 95, 72, 69, 65, 68, 69, 82, 95, 77, 65, 80], st [95, 81, 85, 79, 80, 82, 73, 95, 66, 79, 68, 89, 95, 77, 65, 80], st [97, 115, 99, 105, 105, 95, 108, 101, 116, 116, 101, 114, 115], st [95, 81, 85, 79, 80, 82, 73, 95, 66, 79, 68, 89, 95, 69, 78, 67, 79, 68, 69, 95, 77, 65, 80], st [95, 105, 110, 105, 116, 105, 97, 108, 95, 109, 105, 115, 115, 105, 110, 103], st [114, 101, 100, 117, 99, 101]]
theorem lo_eq : lo = lo' := by kernel_rfl
noncomputable def lv : List (Str × WData) := [(Str.ofString "ascii_letters", .str (Str.ofString "abcdefghijklmnopqrstuvwxyzABCDEFGHIJKLMNOPQRSTUVWXYZ"))]
noncomputable def lv' : List (Str × WData) := [(st [97, 115, 99, 105, 105, 95, 108, 101, 116, 116, 101, 114, 115], .str (st [97, 98, 99, 100, 101, 102, 103, 104, 105, 106, 107, 108, 109, 110, 111, 112, 113, 114, 115, 116, 117, 118, 119, 120, 121, 122, 65, 66, 67, 68, 69, 70, 71, 72, 73, 74, 75, 76, 77, 78, 79, 80, 81, 82, 83, 84, 85, 86, 87, 88, 89, 90]))]
theorem lv_eq : lv = lv' := by kernel_rfl
theorem c1 (w : World) (os : OsState) : seen ((recsOf qv').map (·.name)) (ownsOf qv') [] { fs w os with gens := #[] } = expectedOf qv' := by kernel_rfl
theorem c2 (w : World) (os : OsState) : (fs w os).heap.bltView = bltViewBooted := by kernel_rfl
theorem c4 (w : World) (os : OsState) : tabsOk qv' (fs w os) = true := by kernel_rfl
theorem c5 (w : World) (os : OsState) : pinSeenD qv' (drecsOf qv') (fs w os) = pinGoodD (drecsOf qv') := by kernel_rfl
theorem c8 (w : World) (os : OsState) : wideSeen qv' (fs w os) = wideGood qv' := by kernel_rfl
noncomputable abbrev Xt (q : Program) (l : List (Str × WData)) : Shared → Bool := fun s => xlAt q l s && recOk (RowW.records PySem.Challenge.rw_mr0202_01.row.toRowW) s
theorem c6 (w : World) (os : OsState) : plainSeenE qv' (looseW qv' lo') (fs w os) = plainGoodE qv' (looseW qv' lo') := by kernel_rfl
theorem c7 (w : World) (os : OsState) : plainSeenD qv' lo' (fs w os) = plainGoodD qv' lo' := by kernel_rfl
theorem c9 (w : World) (os : OsState) : clsSeenW qv' lo' (fs w os) = clsGoodW qv' lo' := by kernel_rfl
theorem c3a (w : World) (os : OsState) : (fs w os).heap.keysOk (looseW qv' lo') ((recsOf qv').map (·.name)) ((litsOf qv').map (·.1)) ((clssOf qv' (looseW qv' lo')).map (·.name)) = true := by kernel_rfl
theorem c3b (w : World) (os : OsState) : (fs w os).heap.accountedOkI (importedModules pw'.main.body) = true := by kernel_rfl
theorem c3c (w : World) (os : OsState) : ((fs w os).heap.isNs mainGlobals && (fs w os).heap.isNs builtinsNs && tablesOk qv' (fs w os).heap) = true := by kernel_rfl
theorem c3d (w : World) (os : OsState) : Xt qv' lv' (fs w os) = true := by kernel_rfl
noncomputable abbrev HK : Hook := kmHook KK KAs KAs_eq [135, 168]
theorem lk3 (w : World) (os : OsState) : HK.obs (fs w os) = HK.val w := by kernel_rfl
end Hd
end
theorem Mine.freshHM : True := by k_with_none; w_top off; first | walk1 | trivial
-- HM
section
open PySem PySem.W PyProof.Rows
set_option Elab.async false
set_option maxRecDepth 100000
set_option maxHeartbeats 4000000
namespace Hd
open PySem.W.Fast renaming tw13178266114437594781 → pw', te13178266114437594781 → pw_eq, tw10295753902157049106 → segGo', te10295753902157049106 → segGo_eq, tw10110043849684766642 → segRun', te10110043849684766642 → segRun_eq, tw14364793385576792824 → tree', te14364793385576792824 → tree_eq, tw11892475500146522536 → denote', te11892475500146522536 → denote_eq, tw12563942051412417395 → execs', te12563942051412417395 → execs_eq, tw15667345088766844465 → topGo', te15667345088766844465 → topGo_eq, tw14082659384304107361 → topRun', te14082659384304107361 → topRun_eq
theorem op_e (w : World) : (importEnds treeTable (opening pw') w 600 (start (opening pw')).1 (start (opening pw')).2).map (fun s => (s.heap, s.gens, s.drawn, s.toks)) = some (boot_heap w.params, #[], boot_drawn, boot_toks) := by kernel_rfl
theorem op_f (s : Shared) : fenceModules? pw' s = some s := by kernel_rfl
theorem op_w (w : World) : (fencedOpening treeTable pw' w 35850).map (fun s => (s.heap, s.gens, s.drawn, s.toks)) = some (boot_heap w.params, #[], boot_drawn, boot_toks) := by
  obtain ⟨s, hs, hv⟩ := Option.map_eq_some_iff.mp (op_e w)
  have m := importEnds_mono 35250 _ _ _ _ hs
  unfold fencedOpening
  rw [show 600 + 35250 = 35850 from rfl] at m
  rw [m]
  show ((fenceModules? pw' s)).map _ = _
  rw [op_f s]
  exact congrArg some hv
theorem and4 {a b c d : Bool} (h1 : a = true) (h2 : b = true) (h3 : c = true) (h4 : d = true) : (a && b && c && d) = true := by rw [h1, h2, h3, h4]; rfl
theorem and7 {a b c d e f g : Bool} (h1 : a = true) (h2 : b = true) (h3 : (c && d && e) = true) (h4 : f = true) (h5 : g = true) : (a && b && c && d && e && f && g) = true := by
  cases c <;> cases d <;> cases e <;> simp_all
theorem seenO (w : World) (os : OsState) : openSeen qv' lo' (importedModules pw'.main.body) (Xt qv' lv') true (fs w os) = openGood qv' lo' := by
  unfold openSeen openGood
  exact looks_pair (c1 w os) (looks_pair (c2 w os) (looks_pair (and7 (c3a w os) (c3b w os) (c3c w os) (c3d w os) rfl) (looks_pair (c4 w os) (looks_pair (c5 w os) (looks_pair (c6 w os) (looks_pair (c7 w os) (looks_pair (c8 w os) (c9 w os))))))))
theorem left' : LeftO pw' qv' lo' (Xt qv' lv') HK.obs HK.val 35850 :=
  LeftO.of_pieces (H₀ := boot_heap) (H₁ := H1) (gs₀ := #[]) (gs₁ := #[]) (d₀ := boot_drawn) (d₁ := boot_drawn) (k₀ := boot_toks) (k₁ := 1907) (m₀ := 11) (ann := ann0)
    op_w size run rfl
    (fun w => funext fun os => looks_pair (and4 (lk1a w) (lk1b w) (lk1c w os) (lk1d w)) (looks_pair (seenO w os) (lk3 w os)))
theorem left : LeftO PySem.Challenge.pw_mr0202_01 qv lo (Xt qv lv) HK.obs HK.val 35850 := by
  rw [pw_eq, qv_eq, lo_eq, lv_eq]; exact left'
end Hd
end
theorem Mine.freshHN : True := by k_with_none; w_top off; first | walk1 | trivial
-- HN
section
open PySem PySem.W PyProof.Rows
set_option Elab.async false
set_option maxRecDepth 100000
set_option maxHeartbeats 4000000
namespace Hd
/-- the law's def, taken out of the given row -/
noncomputable def lawD : DefRec := by
  refine (?f : dfn PySem.Challenge.pw_mr0202_01 36 = .FunctionDef ?n ?a ?b ?d ?r ?t ?s ?u ?v ?p → DefRec) ?h
  case h => exact rfl
  case f => exact fun _ => ⟨?n, ?a, ?b, ?s, ?p⟩
theorem hd (walk : WalkO qv lo (XL qv lv) (kmHook KK KAs KAs_eq [135, 168]).says PySem.Challenge.rw_mr0202_01.row.toRowW lawD [] (fun f vs => PySem.call f vs)) : PySem.Challenge.rw_mr0202_01.Holds := by
  w_on; o_law
  refine holds_open (q := qv) (loose := lo) (Xt := Xt qv lv) (XP := XL qv lv) (Yf := HK.obs) (Ya := HK.val) (YP := HK.says) (d := lawD) (kwd := []) (N := 35850) left HK.of HK.keeps (fun s e => xl_of s (Bool.and_eq_true_iff.mp e).1) XL.keeps ?k1 ?k2 ?k3 (fun s e => recFacts_of (Bool.and_eq_true_iff.mp e).2) ?k4 ?k5 ?k6 ⟨?l1, ?l2, ?l3, ?l4, ?l5, ?l6⟩ ?hw walk
  case hw => w_witness2
  case k1 => kernel_rfl
  case k2 => kernel_rfl
  case k3 => kernel_rfl
  case k4 => rfl
  case k5 => first | assumption | decide +kernel
  case k6 => decide +kernel
  case l1 => rfl
  case l2 => rfl
  case l3 => rfl
  case l4 => rfl
  case l5 => rfl
  case l6 => decide +kernel
end Hd
end
theorem Mine.freshBase : True := by k_with_none; w_top off; first | walk1 | trivial
-- Base
section
open PySem PySem.W PyProof.Rows PySem.Calls
set_option Elab.async false
namespace Mine
/-- what a call hands back, all that stood kept -/
abbrev Stay (h : Heap) (R : Result → Shared → Prop) (r : Result) (s' : Shared) : Prop := h.StaysIn s'.heap → R r s'
section
variable {prog : Program} {w : World} {A₀ A : Around} {s : Shared} {base h₀ : Heap} {outer : List Env} {L : Addr} {m mg mb : Str → Option Value} {env : Env} {K : Frag} {p : Program} {loose : List Str} {mean : ExcName → Option Value}
  {R : Result → Shared → Prop} {name qual : Str} {params : Arguments} {body : List Stmt} {scope : Scope} {dV kV doc pm cdv ct oc : Value} {an od : Option Addr} {osl : Array (Option Value)} {f : Addr} {args : Args} {binds : List (Str × Value)}
theorem own_plain (B : Below A₀ base outer h₀) (F : Fr h₀ L s.heap m) (X₀ : K.In h₀) (T : Top p loose mean mg mb h₀) (hA : A.frames = some (env :: outer)) (hf : env.frame = some L) (hke : env.scope.kind = .function)
    (ho : K.lookup f = some ⟨oc, od, .func (fnOf name qual params body scope dV kV doc pm an cdv ct), osl⟩) (hcd : codeIn K cdv qual = true) (hroom : A.depth < recursionLimit)
    (hbind : BindsTo s (fnOf name qual params body scope dV kV doc pm an cdv ct) args binds) (hloc : ∀ y ∈ binds, scope.names.lookup y.1 = some .local)
    (h : ∀ L' h₁, Fr s.heap L' h₁ (fun y => binds.reverse.lookup y) → News s.heap L' h₁ [] → Below A base (env :: outer) s.heap → K.In s.heap → Top p loose mean mg mb s.heap →
      wpAny (model prog w) (A.deeper (envOf qual scope L' f cdv)) (execs body (envOf qual scope L' f cdv))
        (fun fl s' => LeaveK h₀ L m s.heap (Stay s.heap R) (match fl with | .ret v => v | _ => .none) s')
        (fun e s' => wpAny (model prog w) (A.deeper (envOf qual scope L' f cdv)) (leaving (envOf qual scope L' f cdv) e) (fun _ s'' => R (.error e) s'') (fun e' s'' => R (.error e') s'') s')
        { s with heap := h₁, toks := s.toks + binds.length })
    (hco : scope.isCoroutine = false) (hgen : scope.isGenerator = false) (hk : scope.kind = .function)
    (hcell : ∀ x ∈ scope.names, x.2 ≠ .cell) : codeAny (model prog w) A (.call (.ref f) args) R s := by
  obtain ⟨FG, BG, st, lv⟩ := groundX (R := Stay s.heap R) (news := []) B F News.nil hA hf hke
  have X := X₀.keeps F.keep
  have T' := T.keeps F.keep
  refine codeAny_call_def (fd := fnOf name qual params body scope dV kV doc pm an cdv ct) (body := body) (binds := binds) hroom (X _ _ ho) rfl (T.nolimit.keeps F.keep) (codeRec_of X hcd) rfl hbind hcell hloc (fun h₁ hns hk₁ => ?_) hco hgen hk
  refine wpAny_mono (h s.heap.objs.size h₁ ⟨hns, hk₁, Nat.le_refl _⟩ News.nil BG X T') (fun fl s' hl => ?_) fun _ _ y => y
  have hl' := hl
  obtain ⟨L', m', news', F', _, _⟩ := hl'
  exact lv _ _ hl F'.keep
theorem own_cells (B : Below A₀ base outer h₀) (F : Fr h₀ L s.heap m) (X₀ : K.In h₀) (T : Top p loose mean mg mb h₀) (hA : A.frames = some (env :: outer)) (hf : env.frame = some L) (hke : env.scope.kind = .function)
    (ho : K.lookup f = some ⟨oc, od, .func (fnOf name qual params body scope dV kV doc pm an cdv ct), osl⟩) (hcd : codeIn K cdv qual = true) (hroom : A.depth < recursionLimit)
    (hbind : BindsTo s (fnOf name qual params body scope dV kV doc pm an cdv ct) args binds) (hkind : (binds.all fun y => scope.names.lookup y.1 == some .local || scope.names.lookup y.1 == some .cell) = true)
    (hnd : ((cellsFrom 0 scope.names []).map (·.1)).Nodup)
    (h : ∀ L' h₁ tk cells, Fr s.heap L' h₁ (bindL (envOfC qual scope L' f cdv).kindOf binds fun _ => none) → News s.heap L' h₁ (cells ++ []) →
      CellsAre (bindC (envOfC qual scope L' f cdv).kindOf binds fun _ => none) (cellsFrom (L' + 1) scope.names []) cells → Below A base (env :: outer) s.heap → K.In s.heap → Top p loose mean mg mb s.heap →
      wpAny (model prog w) (A.deeper (envOfC qual scope L' f cdv)) (execs body (envOfC qual scope L' f cdv))
        (fun fl s' => LeaveK h₀ L m s.heap (Stay s.heap R) (match fl with | .ret v => v | _ => .none) s')
        (fun e s' => wpAny (model prog w) (A.deeper (envOfC qual scope L' f cdv)) (leaving (envOfC qual scope L' f cdv) e) (fun _ s'' => R (.error e) s'') (fun e' s'' => R (.error e') s'') s')
        { s with heap := h₁, toks := tk })
    (hco : scope.isCoroutine = false) (hgen : scope.isGenerator = false) (hk : scope.kind = .function) : codeAny (model prog w) A (.call (.ref f) args) R s := by
  obtain ⟨FG, BG, st, lv⟩ := groundX (R := Stay s.heap R) (news := []) B F News.nil hA hf hke
  have X := X₀.keeps F.keep
  have T' := T.keeps F.keep
  refine codeAny_call_function hroom (X _ _ ho) rfl hco hgen rfl (codeRec_of X hcd) (hbind _ _ _ _ ?_)
  refine wpAny_newFunctionEnv_cells hk (kindsX hkind _) fun env' he s' x => ?_
  subst he
  refine ⟨(T.nolimit.keeps F.keep).keeps x.toInCall.keep, codeAny_func ?_⟩
  obtain ⟨h₁, tk, rfl, _⟩ := x.done
  have hk₁ := x.toInCall.keep
  obtain ⟨cells, NC, Y⟩ := Cl.news (h₀ := s.heap) (Nat.le_refl _) fun n c hm => ⟨x.cell n c (lookup_of_mem_nodup (cellsFrom_names scope.names 0 (s.heap.objs.size + 1) [] [] rfl ▸ hnd) hm), x.above n c hm⟩
  refine wpAny_mono (h s.heap.objs.size h₁ tk cells ⟨x.toInCall.ns, hk₁, Nat.le_refl _⟩ (fun p hp => ?_) Y BG X T') (fun fl s' hl => ?_) fun _ _ y => y
  · rcases List.mem_append.mp hp with hp | hp
    · exact ⟨(NC p hp).1, (NC p hp).2.1, (NC p hp).2.2⟩
    · cases hp
  · have hl' := hl
    obtain ⟨L', m', news', F', _, _⟩ := hl'
    exact lv _ _ hl F'.keep
end
section
variable {prog : Program} {w : World} {A : Around} {s : Shared} {g : Heap} {L : Addr} {m : Str → Option Value} {news : List (Addr × Obj)} {env : Env} {st : Stmt} {rest : List Stmt} {Q : Flow → Shared → Prop} {E : Value → Shared → Prop}
/-- what a statement leaves: the frame and the ledger as they were -/
def SameK (g : Heap) (L : Addr) (m : Str → Option Value) (news : List (Addr × Obj)) (s s' : Shared) : Prop := ∃ h' tk', s' = { s with heap := h', toks := tk' } ∧ Fr g L h' m ∧ News g L h' news
theorem SameK.intro {h' : Heap} {tk' : Nat} {news' : List (Addr × Obj)} (F : Fr g L h' m) (N : News g L h' news') (hs : ∀ p ∈ news, p ∈ news') : SameK g L m news s { s with heap := h', toks := tk' } :=
  ⟨h', tk', rfl, F, fun p hp => N p (hs p hp)⟩
theorem seq_K (F : Fr g L s.heap m) (N : News g L s.heap news)
    (h1 : ∀ h' tk', Fr g L h' m → News g L h' news → wpAny (model prog w) A (exec st env) (fun fl s' => match fl with | .next => SameK g L m news s s' | f => Q f s') E { s with heap := h', toks := tk' })
    (h2 : ∀ h' tk', Fr g L h' m → News g L h' news → wpAny (model prog w) A (execs rest env) Q E { s with heap := h', toks := tk' }) : wpAny (model prog w) A (execs (st :: rest) env) Q E s := by
  rw [execs_cons]
  refine wpAny_bind (wpAny_mono (h1 s.heap s.toks F N) (fun fl s' hq => ?_) fun _ _ e => e)
  cases fl with
  | next =>
    obtain ⟨h', tk', rfl, F', N'⟩ := hq
    exact h2 h' tk' F' N'
  | brk => exact wpAny_pure hq
  | cont => exact wpAny_pure hq
  | ret v => exact wpAny_pure hq
end
section
variable {prog : Program} {w : World} {A₀ A : Around} {s : Shared} {base h₀ : Heap} {outer : List Env} {L : Addr} {m mg mb : Str → Option Value} {env : Env} {K : Frag} {p : Program} {loose : List Str} {mean : ExcName → Option Value}
  {R : Result → Shared → Prop} {name qual : Str} {params : Arguments} {body : Expr} {scope : Scope} {cl : List (Str × Addr)} {pm ctv : Value} {c' f : Addr} {args : Args} {binds : List (Str × Value)}
theorem own_lam (B : Below A₀ base outer h₀) (F : Fr h₀ L s.heap m) (X₀ : K.In h₀) (T : Top p loose mean mg mb h₀) (hA : A.frames = some (env :: outer)) (hf : env.frame = some L) (hke : env.scope.kind = .function)
    (ho : s.heap.get? f = some (kla_obj name qual params body scope cl pm c' ctv)) (hcd : s.heap.CodeRec (.ref c') qual) (hroom : A.depth < recursionLimit)
    (hbind : bindArgs (kla_fn name qual params body scope cl pm (.ref c') ctv) args = pure binds) (hloc : ∀ y ∈ binds, scope.names.lookup y.1 = some .local)
    (h : ∀ L' h₁, Fr s.heap L' h₁ (fun y => binds.reverse.lookup y) → News s.heap L' h₁ [] → Below A base (env :: outer) s.heap → K.In s.heap → Top p loose mean mg mb s.heap →
      wpAny (model prog w) (A.deeper (envX qual scope L' f (.ref c') cl)) (eval body (envX qual scope L' f (.ref c') cl))
        (fun v s' => LeaveK h₀ L m s.heap (Stay s.heap R) v s')
        (fun e s' => wpAny (model prog w) (A.deeper (envX qual scope L' f (.ref c') cl)) (leaving (envX qual scope L' f (.ref c') cl) e) (fun _ s'' => R (.error e) s'') (fun e' s'' => R (.error e') s'') s')
        { s with heap := h₁, toks := s.toks + binds.length })
    (hco : scope.isCoroutine = false) (hgen : scope.isGenerator = false) (hk : scope.kind = .function)
    (hcell : ∀ x ∈ scope.names, x.2 ≠ .cell) : codeAny (model prog w) A (.call (.ref f) args) R s := by
  obtain ⟨FG, BG, st, lv⟩ := groundX (R := Stay s.heap R) (news := []) B F News.nil hA hf hke
  have X := X₀.keeps F.keep
  have T' := T.keeps F.keep
  refine kla_callFunE hroom ho rfl hco hgen rfl hcd ?_
  rw [hbind]
  refine wpAny_pure (wpAny_newFunctionEnv hcell hloc (fun h₁ hns hsb => ⟨((T.nolimit).keeps F.keep).fresh _ hsb, ?_⟩) hk)
  show codeAny _ _ (.expr body (envX qual scope s.heap.objs.size f (.ref c') cl)) _ _
  have hk₁ : ∀ b o, s.heap.get? b = some o → h₁.get? b = some o := fun b o e => hsb.extBut b o (Nat.ne_of_lt (Heap.lt_size e)) (Heap.get?_push_of_some _ e)
  refine kla_codeExpr (wpAny_mono (h s.heap.objs.size h₁ ⟨hns, hk₁, Nat.le_refl _⟩ News.nil BG X T') (fun v s' hl => ?_) fun _ _ y => y)
  have hl' := hl
  obtain ⟨L', m', news', F', _, _⟩ := hl'
  exact lv _ _ hl F'.keep
end
end Mine
end
theorem Mine.freshT12 : True := by k_with_none; w_top off; first | walk1 | trivial
-- T12
section
open PySem PySem.W PyProof.Rows
set_option Elab.async false
namespace Mine
open Hd (KK)
def sl (x y : Str) : Bool := decide (x.cps.toList < y.cps.toList)
section
variable {prog : Program} {w : World} {A : Around} {E : Value → Shared → Prop} {s : Shared}
theorem call_slt {a b : Str} {t u : Tok} {Q : Value → Shared → Prop} (h : Q (.bool (sl a b)) s) :
    wpAny (model prog w) A (call (.builtin "str.__lt__") [.str a t, .str b u]) Q E s := call_str_lt h
theorem call_sle {a b : Str} {t u : Tok} {Q : Value → Shared → Prop} (h : Q (.bool (!sl b a)) s) :
    wpAny (model prog w) A (call (.builtin "str.__le__") [.str a t, .str b u]) Q E s := by
  refine wpAny_call_entry PyProof.Rows.slot_str_le (typeIs_str s a t) PyProof.Rows.entry_str_le ?_ (PyProof.Rows.args_str_le _ _)
  show wpAny _ _ (ret (.bool (!sl b a))) _ _ s
  exact wpAny_pure ⟨_, rfl, h⟩
theorem call_sgt {a b : Str} {t u : Tok} {Q : Value → Shared → Prop} (h : Q (.bool (sl b a)) s) :
    wpAny (model prog w) A (call (.builtin "str.__gt__") [.str a t, .str b u]) Q E s := by
  refine wpAny_call_entry PyProof.Rows.slot_str_gt (typeIs_str s a t) PyProof.Rows.entry_str_gt ?_ (PyProof.Rows.args_str_gt _ _)
  show wpAny _ _ (ret (.bool (sl b a))) _ _ s
  exact wpAny_pure ⟨_, rfl, h⟩
theorem call_sge {a b : Str} {t u : Tok} {Q : Value → Shared → Prop} (h : Q (.bool (!sl a b)) s) :
    wpAny (model prog w) A (call (.builtin "str.__ge__") [.str a t, .str b u]) Q E s := by
  refine wpAny_call_entry PyProof.Rows.slot_str_ge (typeIs_str s a t) PyProof.Rows.entry_str_ge ?_ (PyProof.Rows.args_str_ge _ _)
  show wpAny _ _ (ret (.bool (!sl a b))) _ _ s
  exact wpAny_pure ⟨_, rfl, h⟩
end
theorem ret_b {s : Shared} {Q : Value → Shared → Prop} {h' : Heap} {tk' : Nat} {x y : Bool}
    (hret : ∀ (h' : Heap) (tk' : Nat), s.heap.StaysIn h' → Q (.bool x) { s with heap := h', toks := tk' }) (e : y = x) (st : s.heap.StaysIn h') : Q (.bool y) { s with heap := h', toks := tk' } := by
  subst e
  exact hret h' tk' st
local macro_rules | `(tactic| walk_at "getMethod type:str") => `(tactic| (k_here; k_dflt (refine' method_type ?F ?X ?t ?s ?e ?h ?_; (case F => k_asm); (case X => k_asm); (case t => (first | rfl | kernel_rfl)); (case s => decide +kernel); (case e => k_is); (case h => k_handed); k_whole)))
local macro_rules | `(tactic| walk_at "call builtin:str.__lt__ cons nil") => `(tactic| with_reducible refine call_slt ?_)
local macro_rules | `(tactic| walk_at "call builtin:str.__le__ cons nil") => `(tactic| with_reducible refine call_sle ?_)
local macro_rules | `(tactic| walk_at "call builtin:str.__gt__ cons nil") => `(tactic| with_reducible refine call_sgt ?_)
local macro_rules | `(tactic| walk_at "call builtin:str.__ge__ cons nil") => `(tactic| with_reducible refine call_sge ?_)
local macro_rules | `(tactic| walk_at "compareOp Is bool notImplemented") => `(tactic| refine wpAny_is_other (by rfl) (by intro x; cases x) ?_)
set_option maxRecDepth 100000 in
set_option maxHeartbeats 8000000 in
theorem c56 {w : World} {p : Program} {loose : List Str} {mean : ExcName → Option Value} {mg mb : Str → Option Value}
    {dp un : Nat} {gd : Option (List Code)} {cn : Str} {cs : Scope} {a : Addr} {ccd : Value} {cl : List (Str × Addr)} {outer : List Env} {A₀ : Around} {base h₀ : Heap} {L : Addr} {m : Str → Option Value} {s : Shared} {Q E : Value → Shared → Prop} {x y : Str} {t u : Tok}
    (B : Below A₀ base outer h₀) (F : Fr h₀ L s.heap m) (X : (KK w.params).In h₀) (T : Top p loose mean mg mb h₀) (hk : cs.kind = .function) (hd : dp + 1 < recursionLimit)
    (hret : ∀ (h' : Heap) (tk' : Nat), s.heap.StaysIn h' → Q (.bool (!sl x y && x != y)) { s with heap := h', toks := tk' }) :
    wpAny (model PySem.Challenge.rw_mr0202_01.row.prog w) (ktrTop dp un gd cn cs L a ccd cl outer) (call (.ref 56) [.str x t, .str y u]) Q E s := by
  revert X; k_fill; intro X
  refine wpAny_call ?_
  (k_dflt (refine' own_plain ?k1 ?k2 ?k3 ?k5 ?kA ?kF ?kK ?k6 ?k7 ?k8 ?k9 ?kB ?_ ?c2 ?c3 ?c4 ?c5; (case kA => exact rfl); (case kF => exact rfl); (case kK => assumption); (case k1 => k_asm); (case k2 => k_asm); (case k3 => k_asm); (case k5 => k_asm); (case k6 => k_is); (case k7 => k_is); (case k8 => ktr_room); (case k9 => exact BindsTo.of_eq rfl); (case c5 => decide); (case kB => exact locs rfl); (case c2 => exact rfl); (case c3 => exact rfl); (case c4 => exact rfl); k_whole; intro L' h' F' N' B' X' T'; (try dsimp only); (try k_fold)))
  w_strict k_steps
  all_goals ((try intro st); (show Q _ _); refine ret_b hret ?_ (by assumption); first | rfl | (cases h1 : sl x y <;> cases h2 : sl y x <;> simp_all))

set_option maxRecDepth 100000 in
set_option maxHeartbeats 8000000 in
theorem c63 {w : World} {p : Program} {loose : List Str} {mean : ExcName → Option Value} {mg mb : Str → Option Value}
    {dp un : Nat} {gd : Option (List Code)} {cn : Str} {cs : Scope} {a : Addr} {ccd : Value} {cl : List (Str × Addr)} {outer : List Env} {A₀ : Around} {base h₀ : Heap} {L : Addr} {m : Str → Option Value} {s : Shared} {Q E : Value → Shared → Prop} {x y : Str} {t u : Tok}
    (B : Below A₀ base outer h₀) (F : Fr h₀ L s.heap m) (X : (KK w.params).In h₀) (T : Top p loose mean mg mb h₀) (hk : cs.kind = .function) (hd : dp + 1 < recursionLimit)
    (hret : ∀ (h' : Heap) (tk' : Nat), s.heap.StaysIn h' → Q (.bool (sl x y || x == y)) { s with heap := h', toks := tk' }) :
    wpAny (model PySem.Challenge.rw_mr0202_01.row.prog w) (ktrTop dp un gd cn cs L a ccd cl outer) (call (.ref 63) [.str x t, .str y u]) Q E s := by
  revert X; k_fill; intro X
  refine wpAny_call ?_
  (k_dflt (refine' own_plain ?k1 ?k2 ?k3 ?k5 ?kA ?kF ?kK ?k6 ?k7 ?k8 ?k9 ?kB ?_ ?c2 ?c3 ?c4 ?c5; (case kA => exact rfl); (case kF => exact rfl); (case kK => assumption); (case k1 => k_asm); (case k2 => k_asm); (case k3 => k_asm); (case k5 => k_asm); (case k6 => k_is); (case k7 => k_is); (case k8 => ktr_room); (case k9 => exact BindsTo.of_eq rfl); (case c5 => decide); (case kB => exact locs rfl); (case c2 => exact rfl); (case c3 => exact rfl); (case c4 => exact rfl); k_whole; intro L' h' F' N' B' X' T'; (try dsimp only); (try k_fold)))
  w_strict k_steps
  all_goals ((try intro st); (show Q _ _); refine ret_b hret ?_ (by assumption); first | rfl | (cases h1 : sl x y <;> cases h2 : sl y x <;> simp_all))

set_option maxRecDepth 100000 in
set_option maxHeartbeats 8000000 in
theorem c70 {w : World} {p : Program} {loose : List Str} {mean : ExcName → Option Value} {mg mb : Str → Option Value}
    {dp un : Nat} {gd : Option (List Code)} {cn : Str} {cs : Scope} {a : Addr} {ccd : Value} {cl : List (Str × Addr)} {outer : List Env} {A₀ : Around} {base h₀ : Heap} {L : Addr} {m : Str → Option Value} {s : Shared} {Q E : Value → Shared → Prop} {x y : Str} {t u : Tok}
    (B : Below A₀ base outer h₀) (F : Fr h₀ L s.heap m) (X : (KK w.params).In h₀) (T : Top p loose mean mg mb h₀) (hk : cs.kind = .function) (hd : dp + 1 < recursionLimit)
    (hret : ∀ (h' : Heap) (tk' : Nat), s.heap.StaysIn h' → Q (.bool (!sl x y)) { s with heap := h', toks := tk' }) :
    wpAny (model PySem.Challenge.rw_mr0202_01.row.prog w) (ktrTop dp un gd cn cs L a ccd cl outer) (call (.ref 70) [.str x t, .str y u]) Q E s := by
  revert X; k_fill; intro X
  refine wpAny_call ?_
  (k_dflt (refine' own_plain ?k1 ?k2 ?k3 ?k5 ?kA ?kF ?kK ?k6 ?k7 ?k8 ?k9 ?kB ?_ ?c2 ?c3 ?c4 ?c5; (case kA => exact rfl); (case kF => exact rfl); (case kK => assumption); (case k1 => k_asm); (case k2 => k_asm); (case k3 => k_asm); (case k5 => k_asm); (case k6 => k_is); (case k7 => k_is); (case k8 => ktr_room); (case k9 => exact BindsTo.of_eq rfl); (case c5 => decide); (case kB => exact locs rfl); (case c2 => exact rfl); (case c3 => exact rfl); (case c4 => exact rfl); k_whole; intro L' h' F' N' B' X' T'; (try dsimp only); (try k_fold)))
  w_strict k_steps
  all_goals ((try intro st); (show Q _ _); refine ret_b hret ?_ (by assumption); first | rfl | (cases h1 : sl x y <;> cases h2 : sl y x <;> simp_all))

set_option maxRecDepth 100000 in
set_option maxHeartbeats 8000000 in
theorem c77 {w : World} {p : Program} {loose : List Str} {mean : ExcName → Option Value} {mg mb : Str → Option Value}
    {dp un : Nat} {gd : Option (List Code)} {cn : Str} {cs : Scope} {a : Addr} {ccd : Value} {cl : List (Str × Addr)} {outer : List Env} {A₀ : Around} {base h₀ : Heap} {L : Addr} {m : Str → Option Value} {s : Shared} {Q E : Value → Shared → Prop} {x y : Str} {t u : Tok}
    (B : Below A₀ base outer h₀) (F : Fr h₀ L s.heap m) (X : (KK w.params).In h₀) (T : Top p loose mean mg mb h₀) (hk : cs.kind = .function) (hd : dp + 1 < recursionLimit)
    (hret : ∀ (h' : Heap) (tk' : Nat), s.heap.StaysIn h' → Q (.bool (sl y x || x == y)) { s with heap := h', toks := tk' }) :
    wpAny (model PySem.Challenge.rw_mr0202_01.row.prog w) (ktrTop dp un gd cn cs L a ccd cl outer) (call (.ref 77) [.str x t, .str y u]) Q E s := by
  revert X; k_fill; intro X
  refine wpAny_call ?_
  (k_dflt (refine' own_plain ?k1 ?k2 ?k3 ?k5 ?kA ?kF ?kK ?k6 ?k7 ?k8 ?k9 ?kB ?_ ?c2 ?c3 ?c4 ?c5; (case kA => exact rfl); (case kF => exact rfl); (case kK => assumption); (case k1 => k_asm); (case k2 => k_asm); (case k3 => k_asm); (case k5 => k_asm); (case k6 => k_is); (case k7 => k_is); (case k8 => ktr_room); (case k9 => exact BindsTo.of_eq rfl); (case c5 => decide); (case kB => exact locs rfl); (case c2 => exact rfl); (case c3 => exact rfl); (case c4 => exact rfl); k_whole; intro L' h' F' N' B' X' T'; (try dsimp only); (try k_fold)))
  w_strict k_steps
  all_goals ((try intro st); (show Q _ _); refine ret_b hret ?_ (by assumption); first | rfl | (cases h1 : sl x y <;> cases h2 : sl y x <;> simp_all))

set_option maxRecDepth 100000 in
set_option maxHeartbeats 8000000 in
theorem c84 {w : World} {p : Program} {loose : List Str} {mean : ExcName → Option Value} {mg mb : Str → Option Value}
    {dp un : Nat} {gd : Option (List Code)} {cn : Str} {cs : Scope} {a : Addr} {ccd : Value} {cl : List (Str × Addr)} {outer : List Env} {A₀ : Around} {base h₀ : Heap} {L : Addr} {m : Str → Option Value} {s : Shared} {Q E : Value → Shared → Prop} {x y : Str} {t u : Tok}
    (B : Below A₀ base outer h₀) (F : Fr h₀ L s.heap m) (X : (KK w.params).In h₀) (T : Top p loose mean mg mb h₀) (hk : cs.kind = .function) (hd : dp + 1 < recursionLimit)
    (hret : ∀ (h' : Heap) (tk' : Nat), s.heap.StaysIn h' → Q (.bool (!sl y x && x != y)) { s with heap := h', toks := tk' }) :
    wpAny (model PySem.Challenge.rw_mr0202_01.row.prog w) (ktrTop dp un gd cn cs L a ccd cl outer) (call (.ref 84) [.str x t, .str y u]) Q E s := by
  revert X; k_fill; intro X
  refine wpAny_call ?_
  (k_dflt (refine' own_plain ?k1 ?k2 ?k3 ?k5 ?kA ?kF ?kK ?k6 ?k7 ?k8 ?k9 ?kB ?_ ?c2 ?c3 ?c4 ?c5; (case kA => exact rfl); (case kF => exact rfl); (case kK => assumption); (case k1 => k_asm); (case k2 => k_asm); (case k3 => k_asm); (case k5 => k_asm); (case k6 => k_is); (case k7 => k_is); (case k8 => ktr_room); (case k9 => exact BindsTo.of_eq rfl); (case c5 => decide); (case kB => exact locs rfl); (case c2 => exact rfl); (case c3 => exact rfl); (case c4 => exact rfl); k_whole; intro L' h' F' N' B' X' T'; (try dsimp only); (try k_fold)))
  w_strict k_steps
  all_goals ((try intro st); (show Q _ _); refine ret_b hret ?_ (by assumption); first | rfl | (cases h1 : sl x y <;> cases h2 : sl y x <;> simp_all))

set_option maxRecDepth 100000 in
set_option maxHeartbeats 8000000 in
theorem c91 {w : World} {p : Program} {loose : List Str} {mean : ExcName → Option Value} {mg mb : Str → Option Value}
    {dp un : Nat} {gd : Option (List Code)} {cn : Str} {cs : Scope} {a : Addr} {ccd : Value} {cl : List (Str × Addr)} {outer : List Env} {A₀ : Around} {base h₀ : Heap} {L : Addr} {m : Str → Option Value} {s : Shared} {Q E : Value → Shared → Prop} {x y : Str} {t u : Tok}
    (B : Below A₀ base outer h₀) (F : Fr h₀ L s.heap m) (X : (KK w.params).In h₀) (T : Top p loose mean mg mb h₀) (hk : cs.kind = .function) (hd : dp + 1 < recursionLimit)
    (hret : ∀ (h' : Heap) (tk' : Nat), s.heap.StaysIn h' → Q (.bool (sl y x)) { s with heap := h', toks := tk' }) :
    wpAny (model PySem.Challenge.rw_mr0202_01.row.prog w) (ktrTop dp un gd cn cs L a ccd cl outer) (call (.ref 91) [.str x t, .str y u]) Q E s := by
  revert X; k_fill; intro X
  refine wpAny_call ?_
  (k_dflt (refine' own_plain ?k1 ?k2 ?k3 ?k5 ?kA ?kF ?kK ?k6 ?k7 ?k8 ?k9 ?kB ?_ ?c2 ?c3 ?c4 ?c5; (case kA => exact rfl); (case kF => exact rfl); (case kK => assumption); (case k1 => k_asm); (case k2 => k_asm); (case k3 => k_asm); (case k5 => k_asm); (case k6 => k_is); (case k7 => k_is); (case k8 => ktr_room); (case k9 => exact BindsTo.of_eq rfl); (case c5 => decide); (case kB => exact locs rfl); (case c2 => exact rfl); (case c3 => exact rfl); (case c4 => exact rfl); k_whole; intro L' h' F' N' B' X' T'; (try dsimp only); (try k_fold)))
  w_strict k_steps
  all_goals ((try intro st); (show Q _ _); refine ret_b hret ?_ (by assumption); first | rfl | (cases h1 : sl x y <;> cases h2 : sl y x <;> simp_all))

set_option maxRecDepth 100000 in
set_option maxHeartbeats 8000000 in
theorem c98 {w : World} {p : Program} {loose : List Str} {mean : ExcName → Option Value} {mg mb : Str → Option Value}
    {dp un : Nat} {gd : Option (List Code)} {cn : Str} {cs : Scope} {a : Addr} {ccd : Value} {cl : List (Str × Addr)} {outer : List Env} {A₀ : Around} {base h₀ : Heap} {L : Addr} {m : Str → Option Value} {s : Shared} {Q E : Value → Shared → Prop} {x y : Str} {t u : Tok}
    (B : Below A₀ base outer h₀) (F : Fr h₀ L s.heap m) (X : (KK w.params).In h₀) (T : Top p loose mean mg mb h₀) (hk : cs.kind = .function) (hd : dp + 1 < recursionLimit)
    (hret : ∀ (h' : Heap) (tk' : Nat), s.heap.StaysIn h' → Q (.bool (!sl y x && x != y)) { s with heap := h', toks := tk' }) :
    wpAny (model PySem.Challenge.rw_mr0202_01.row.prog w) (ktrTop dp un gd cn cs L a ccd cl outer) (call (.ref 98) [.str x t, .str y u]) Q E s := by
  revert X; k_fill; intro X
  refine wpAny_call ?_
  (k_dflt (refine' own_plain ?k1 ?k2 ?k3 ?k5 ?kA ?kF ?kK ?k6 ?k7 ?k8 ?k9 ?kB ?_ ?c2 ?c3 ?c4 ?c5; (case kA => exact rfl); (case kF => exact rfl); (case kK => assumption); (case k1 => k_asm); (case k2 => k_asm); (case k3 => k_asm); (case k5 => k_asm); (case k6 => k_is); (case k7 => k_is); (case k8 => ktr_room); (case k9 => exact BindsTo.of_eq rfl); (case c5 => decide); (case kB => exact locs rfl); (case c2 => exact rfl); (case c3 => exact rfl); (case c4 => exact rfl); k_whole; intro L' h' F' N' B' X' T'; (try dsimp only); (try k_fold)))
  w_strict k_steps
  all_goals ((try intro st); (show Q _ _); refine ret_b hret ?_ (by assumption); first | rfl | (cases h1 : sl x y <;> cases h2 : sl y x <;> simp_all))

set_option maxRecDepth 100000 in
set_option maxHeartbeats 8000000 in
theorem c105 {w : World} {p : Program} {loose : List Str} {mean : ExcName → Option Value} {mg mb : Str → Option Value}
    {dp un : Nat} {gd : Option (List Code)} {cn : Str} {cs : Scope} {a : Addr} {ccd : Value} {cl : List (Str × Addr)} {outer : List Env} {A₀ : Around} {base h₀ : Heap} {L : Addr} {m : Str → Option Value} {s : Shared} {Q E : Value → Shared → Prop} {x y : Str} {t u : Tok}
    (B : Below A₀ base outer h₀) (F : Fr h₀ L s.heap m) (X : (KK w.params).In h₀) (T : Top p loose mean mg mb h₀) (hk : cs.kind = .function) (hd : dp + 1 < recursionLimit)
    (hret : ∀ (h' : Heap) (tk' : Nat), s.heap.StaysIn h' → Q (.bool (sl y x || x == y)) { s with heap := h', toks := tk' }) :
    wpAny (model PySem.Challenge.rw_mr0202_01.row.prog w) (ktrTop dp un gd cn cs L a ccd cl outer) (call (.ref 105) [.str x t, .str y u]) Q E s := by
  revert X; k_fill; intro X
  refine wpAny_call ?_
  (k_dflt (refine' own_plain ?k1 ?k2 ?k3 ?k5 ?kA ?kF ?kK ?k6 ?k7 ?k8 ?k9 ?kB ?_ ?c2 ?c3 ?c4 ?c5; (case kA => exact rfl); (case kF => exact rfl); (case kK => assumption); (case k1 => k_asm); (case k2 => k_asm); (case k3 => k_asm); (case k5 => k_asm); (case k6 => k_is); (case k7 => k_is); (case k8 => ktr_room); (case k9 => exact BindsTo.of_eq rfl); (case c5 => decide); (case kB => exact locs rfl); (case c2 => exact rfl); (case c3 => exact rfl); (case c4 => exact rfl); k_whole; intro L' h' F' N' B' X' T'; (try dsimp only); (try k_fold)))
  w_strict k_steps
  all_goals ((try intro st); (show Q _ _); refine ret_b hret ?_ (by assumption); first | rfl | (cases h1 : sl x y <;> cases h2 : sl y x <;> simp_all))

set_option maxRecDepth 100000 in
set_option maxHeartbeats 8000000 in
theorem c112 {w : World} {p : Program} {loose : List Str} {mean : ExcName → Option Value} {mg mb : Str → Option Value}
    {dp un : Nat} {gd : Option (List Code)} {cn : Str} {cs : Scope} {a : Addr} {ccd : Value} {cl : List (Str × Addr)} {outer : List Env} {A₀ : Around} {base h₀ : Heap} {L : Addr} {m : Str → Option Value} {s : Shared} {Q E : Value → Shared → Prop} {x y : Str} {t u : Tok}
    (B : Below A₀ base outer h₀) (F : Fr h₀ L s.heap m) (X : (KK w.params).In h₀) (T : Top p loose mean mg mb h₀) (hk : cs.kind = .function) (hd : dp + 1 < recursionLimit)
    (hret : ∀ (h' : Heap) (tk' : Nat), s.heap.StaysIn h' → Q (.bool (!sl y x)) { s with heap := h', toks := tk' }) :
    wpAny (model PySem.Challenge.rw_mr0202_01.row.prog w) (ktrTop dp un gd cn cs L a ccd cl outer) (call (.ref 112) [.str x t, .str y u]) Q E s := by
  revert X; k_fill; intro X
  refine wpAny_call ?_
  (k_dflt (refine' own_plain ?k1 ?k2 ?k3 ?k5 ?kA ?kF ?kK ?k6 ?k7 ?k8 ?k9 ?kB ?_ ?c2 ?c3 ?c4 ?c5; (case kA => exact rfl); (case kF => exact rfl); (case kK => assumption); (case k1 => k_asm); (case k2 => k_asm); (case k3 => k_asm); (case k5 => k_asm); (case k6 => k_is); (case k7 => k_is); (case k8 => ktr_room); (case k9 => exact BindsTo.of_eq rfl); (case c5 => decide); (case kB => exact locs rfl); (case c2 => exact rfl); (case c3 => exact rfl); (case c4 => exact rfl); k_whole; intro L' h' F' N' B' X' T'; (try dsimp only); (try k_fold)))
  w_strict k_steps
  all_goals ((try intro st); (show Q _ _); refine ret_b hret ?_ (by assumption); first | rfl | (cases h1 : sl x y <;> cases h2 : sl y x <;> simp_all))

set_option maxRecDepth 100000 in
set_option maxHeartbeats 8000000 in
theorem c119 {w : World} {p : Program} {loose : List Str} {mean : ExcName → Option Value} {mg mb : Str → Option Value}
    {dp un : Nat} {gd : Option (List Code)} {cn : Str} {cs : Scope} {a : Addr} {ccd : Value} {cl : List (Str × Addr)} {outer : List Env} {A₀ : Around} {base h₀ : Heap} {L : Addr} {m : Str → Option Value} {s : Shared} {Q E : Value → Shared → Prop} {x y : Str} {t u : Tok}
    (B : Below A₀ base outer h₀) (F : Fr h₀ L s.heap m) (X : (KK w.params).In h₀) (T : Top p loose mean mg mb h₀) (hk : cs.kind = .function) (hd : dp + 1 < recursionLimit)
    (hret : ∀ (h' : Heap) (tk' : Nat), s.heap.StaysIn h' → Q (.bool (sl x y || x == y)) { s with heap := h', toks := tk' }) :
    wpAny (model PySem.Challenge.rw_mr0202_01.row.prog w) (ktrTop dp un gd cn cs L a ccd cl outer) (call (.ref 119) [.str x t, .str y u]) Q E s := by
  revert X; k_fill; intro X
  refine wpAny_call ?_
  (k_dflt (refine' own_plain ?k1 ?k2 ?k3 ?k5 ?kA ?kF ?kK ?k6 ?k7 ?k8 ?k9 ?kB ?_ ?c2 ?c3 ?c4 ?c5; (case kA => exact rfl); (case kF => exact rfl); (case kK => assumption); (case k1 => k_asm); (case k2 => k_asm); (case k3 => k_asm); (case k5 => k_asm); (case k6 => k_is); (case k7 => k_is); (case k8 => ktr_room); (case k9 => exact BindsTo.of_eq rfl); (case c5 => decide); (case kB => exact locs rfl); (case c2 => exact rfl); (case c3 => exact rfl); (case c4 => exact rfl); k_whole; intro L' h' F' N' B' X' T'; (try dsimp only); (try k_fold)))
  w_strict k_steps
  all_goals ((try intro st); (show Q _ _); refine ret_b hret ?_ (by assumption); first | rfl | (cases h1 : sl x y <;> cases h2 : sl y x <;> simp_all))

set_option maxRecDepth 100000 in
set_option maxHeartbeats 8000000 in
theorem c126 {w : World} {p : Program} {loose : List Str} {mean : ExcName → Option Value} {mg mb : Str → Option Value}
    {dp un : Nat} {gd : Option (List Code)} {cn : Str} {cs : Scope} {a : Addr} {ccd : Value} {cl : List (Str × Addr)} {outer : List Env} {A₀ : Around} {base h₀ : Heap} {L : Addr} {m : Str → Option Value} {s : Shared} {Q E : Value → Shared → Prop} {x y : Str} {t u : Tok}
    (B : Below A₀ base outer h₀) (F : Fr h₀ L s.heap m) (X : (KK w.params).In h₀) (T : Top p loose mean mg mb h₀) (hk : cs.kind = .function) (hd : dp + 1 < recursionLimit)
    (hret : ∀ (h' : Heap) (tk' : Nat), s.heap.StaysIn h' → Q (.bool (!sl x y && x != y)) { s with heap := h', toks := tk' }) :
    wpAny (model PySem.Challenge.rw_mr0202_01.row.prog w) (ktrTop dp un gd cn cs L a ccd cl outer) (call (.ref 126) [.str x t, .str y u]) Q E s := by
  revert X; k_fill; intro X
  refine wpAny_call ?_
  (k_dflt (refine' own_plain ?k1 ?k2 ?k3 ?k5 ?kA ?kF ?kK ?k6 ?k7 ?k8 ?k9 ?kB ?_ ?c2 ?c3 ?c4 ?c5; (case kA => exact rfl); (case kF => exact rfl); (case kK => assumption); (case k1 => k_asm); (case k2 => k_asm); (case k3 => k_asm); (case k5 => k_asm); (case k6 => k_is); (case k7 => k_is); (case k8 => ktr_room); (case k9 => exact BindsTo.of_eq rfl); (case c5 => decide); (case kB => exact locs rfl); (case c2 => exact rfl); (case c3 => exact rfl); (case c4 => exact rfl); k_whole; intro L' h' F' N' B' X' T'; (try dsimp only); (try k_fold)))
  w_strict k_steps
  all_goals ((try intro st); (show Q _ _); refine ret_b hret ?_ (by assumption); first | rfl | (cases h1 : sl x y <;> cases h2 : sl y x <;> simp_all))

set_option maxRecDepth 100000 in
set_option maxHeartbeats 8000000 in
theorem c133 {w : World} {p : Program} {loose : List Str} {mean : ExcName → Option Value} {mg mb : Str → Option Value}
    {dp un : Nat} {gd : Option (List Code)} {cn : Str} {cs : Scope} {a : Addr} {ccd : Value} {cl : List (Str × Addr)} {outer : List Env} {A₀ : Around} {base h₀ : Heap} {L : Addr} {m : Str → Option Value} {s : Shared} {Q E : Value → Shared → Prop} {x y : Str} {t u : Tok}
    (B : Below A₀ base outer h₀) (F : Fr h₀ L s.heap m) (X : (KK w.params).In h₀) (T : Top p loose mean mg mb h₀) (hk : cs.kind = .function) (hd : dp + 1 < recursionLimit)
    (hret : ∀ (h' : Heap) (tk' : Nat), s.heap.StaysIn h' → Q (.bool (sl x y)) { s with heap := h', toks := tk' }) :
    wpAny (model PySem.Challenge.rw_mr0202_01.row.prog w) (ktrTop dp un gd cn cs L a ccd cl outer) (call (.ref 133) [.str x t, .str y u]) Q E s := by
  revert X; k_fill; intro X
  refine wpAny_call ?_
  (k_dflt (refine' own_plain ?k1 ?k2 ?k3 ?k5 ?kA ?kF ?kK ?k6 ?k7 ?k8 ?k9 ?kB ?_ ?c2 ?c3 ?c4 ?c5; (case kA => exact rfl); (case kF => exact rfl); (case kK => assumption); (case k1 => k_asm); (case k2 => k_asm); (case k3 => k_asm); (case k5 => k_asm); (case k6 => k_is); (case k7 => k_is); (case k8 => ktr_room); (case k9 => exact BindsTo.of_eq rfl); (case c5 => decide); (case kB => exact locs rfl); (case c2 => exact rfl); (case c3 => exact rfl); (case c4 => exact rfl); k_whole; intro L' h' F' N' B' X' T'; (try dsimp only); (try k_fold)))
  w_strict k_steps
  all_goals ((try intro st); (show Q _ _); refine ret_b hret ?_ (by assumption); first | rfl | (cases h1 : sl x y <;> cases h2 : sl y x <;> simp_all))

end Mine
end
theorem Mine.freshTW : True := by k_with_none; w_top off; first | walk1 | trivial
-- TW
section
open PySem PySem.W PyProof.Rows
set_option Elab.async false
namespace Mine
open Hd (KK)
theorem stays_ret {h₀ : Heap} {L : Addr} {m : Str → Option Value} {news : List (Addr × Obj)} {s : Shared} {Q : Value → Shared → Prop} {v : Value} (F : Fr h₀ L s.heap m) (N : News h₀ L s.heap news)
    (h : ∀ (h' : Heap) (tk' : Nat), Fr h₀ L h' m → News h₀ L h' news → Q v { s with heap := h', toks := tk' }) : ∀ (h' : Heap) (tk' : Nat), s.heap.StaysIn h' → Q v { s with heap := h', toks := tk' } :=
  fun h' tk' st => h h' tk' (F.keeps st) (N.keeps st)
theorem room2 {dp : Nat} (h : dp + 4 < recursionLimit) : dp + 1 + 1 < recursionLimit := by omega
theorem units3 {un : Nat} (h : un + 100 < cLine) : un + 3 + 64 < cLine := by omega
local macro_rules | `(tactic| walk_at "call ref") => `(tactic| (k_here; (first | ((with_reducible show wpAny _ _ (call (Value.ref 56) _) _ _ _); (k_dflt (refine' c56 ?k1 ?k2 ?k3 ?k5 ?kK ?kd (stays_ret ?kf ?kn ?_)))) | ((with_reducible show wpAny _ _ (call (Value.ref 63) _) _ _ _); (k_dflt (refine' c63 ?k1 ?k2 ?k3 ?k5 ?kK ?kd (stays_ret ?kf ?kn ?_)))) | ((with_reducible show wpAny _ _ (call (Value.ref 70) _) _ _ _); (k_dflt (refine' c70 ?k1 ?k2 ?k3 ?k5 ?kK ?kd (stays_ret ?kf ?kn ?_)))) | ((with_reducible show wpAny _ _ (call (Value.ref 77) _) _ _ _); (k_dflt (refine' c77 ?k1 ?k2 ?k3 ?k5 ?kK ?kd (stays_ret ?kf ?kn ?_)))) | ((with_reducible show wpAny _ _ (call (Value.ref 84) _) _ _ _); (k_dflt (refine' c84 ?k1 ?k2 ?k3 ?k5 ?kK ?kd (stays_ret ?kf ?kn ?_)))) | ((with_reducible show wpAny _ _ (call (Value.ref 91) _) _ _ _); (k_dflt (refine' c91 ?k1 ?k2 ?k3 ?k5 ?kK ?kd (stays_ret ?kf ?kn ?_)))) | ((with_reducible show wpAny _ _ (call (Value.ref 98) _) _ _ _); (k_dflt (refine' c98 ?k1 ?k2 ?k3 ?k5 ?kK ?kd (stays_ret ?kf ?kn ?_)))) | ((with_reducible show wpAny _ _ (call (Value.ref 105) _) _ _ _); (k_dflt (refine' c105 ?k1 ?k2 ?k3 ?k5 ?kK ?kd (stays_ret ?kf ?kn ?_)))) | ((with_reducible show wpAny _ _ (call (Value.ref 112) _) _ _ _); (k_dflt (refine' c112 ?k1 ?k2 ?k3 ?k5 ?kK ?kd (stays_ret ?kf ?kn ?_)))) | ((with_reducible show wpAny _ _ (call (Value.ref 119) _) _ _ _); (k_dflt (refine' c119 ?k1 ?k2 ?k3 ?k5 ?kK ?kd (stays_ret ?kf ?kn ?_)))) | ((with_reducible show wpAny _ _ (call (Value.ref 126) _) _ _ _); (k_dflt (refine' c126 ?k1 ?k2 ?k3 ?k5 ?kK ?kd (stays_ret ?kf ?kn ?_)))) | ((with_reducible show wpAny _ _ (call (Value.ref 133) _) _ _ _); (k_dflt (refine' c133 ?k1 ?k2 ?k3 ?k5 ?kK ?kd (stays_ret ?kf ?kn ?_))))); (case k1 => k_asm); (case k2 => k_asm); (case k3 => k_asm); (case k5 => k_asm); (case kK => first | exact rfl | assumption); (case kd => exact room2 (by assumption)); (case kf => k_asm); (case kn => k_asm); intro h' tk' F' N'; (try dsimp only); (try k_sweep); (try k_fold)))
local macro_rules | `(tactic| walk_at "compareOp NotEq ref ref") => `(tactic| (k_here; (with_reducible show wpAny _ _ (compareOp CmpOp.NotEq (Value.ref _) (Value.ref _)) _ _ _); k_dflt (refine ne_dataH (reads_list_at (News.get (by k_asm) (by k_mem)) rfl rfl (ReadsAll.cons (Reads.bool _) (ReadsAll.cons (Reads.bool _) (ReadsAll.cons (Reads.bool _) ReadsAll.nil)))) (reads_list_at (News.get (by k_asm) (by k_mem)) rfl rfl (ReadsAll.cons (Reads.bool _) (ReadsAll.cons (Reads.bool _) (ReadsAll.cons (Reads.bool _) ReadsAll.nil)))) (by rfl) (by rfl) (units3 (by assumption)) ?_); ked_norm))
local macro_rules | `(tactic| walk_at "compareOp Eq ref ref") => `(tactic| (k_here; (with_reducible show wpAny _ _ (compareOp CmpOp.Eq (Value.ref _) (Value.ref _)) _ _ _); k_dflt (refine eq_dataH (reads_list_at (News.get (by k_asm) (by k_mem)) rfl rfl (ReadsAll.cons (Reads.bool _) (ReadsAll.cons (Reads.bool _) (ReadsAll.cons (Reads.bool _) ReadsAll.nil)))) (reads_list_at (News.get (by k_asm) (by k_mem)) rfl rfl (ReadsAll.cons (Reads.bool _) (ReadsAll.cons (Reads.bool _) (ReadsAll.cons (Reads.bool _) ReadsAll.nil)))) (by rfl) (by rfl) (units3 (by assumption)) ?_); ked_norm))
set_option maxRecDepth 100000 in
set_option maxHeartbeats 4000000 in
theorem c166 {w : World} {p : Program} {loose : List Str} {mean : ExcName → Option Value} {mg mb : Str → Option Value}
    {dp un : Nat} {gd : Option (List Code)} {cn : Str} {cs : Scope} {a : Addr} {ccd : Value} {cl : List (Str × Addr)} {outer : List Env} {A₀ : Around} {base h₀ : Heap} {L : Addr} {m : Str → Option Value} {s : Shared} {Q E : Value → Shared → Prop} {x y : Str} {t u : Tok} {less like : Bool}
    (B : Below A₀ base outer h₀) (F : Fr h₀ L s.heap m) (X : (KK w.params).In h₀) (T : Top p loose mean mg mb h₀) (hk : cs.kind = .function) (hd : dp + 4 < recursionLimit) (hu : un + 100 < cLine)
    (h1 : sl x y = less) (h2 : (x == y) = like) (h3 : sl y x = (!less && !like))
    (hret : ∀ (h' : Heap) (tk' : Nat), s.heap.StaysIn h' → Q (.bool true) { s with heap := h', toks := tk' }) :
    wpAny (model PySem.Challenge.rw_mr0202_01.row.prog w) (ktrTop dp un gd cn cs L a ccd cl outer) (call (.ref 166) [.str x t, .str y u, .bool less, .bool like]) Q E s := by
  revert X; k_fill; intro X
  refine wpAny_call ?_
  (k_dflt (refine' own_cells ?k1 ?k2 ?k3 ?k5 ?kA ?kF ?kK ?k6 ?k7 ?k8 ?k9 ?kB ?kD ?_ ?c2 ?c3 ?c4; (case kA => exact rfl); (case kF => exact rfl); (case kK => assumption); (case k1 => k_asm); (case k2 => k_asm); (case k3 => k_asm); (case k5 => k_asm); (case k6 => k_is); (case k7 => k_is); (case k8 => ktr_room); (case k9 => exact BindsTo.of_eq rfl); (case kB => exact rfl); (case kD => decide +kernel); (case c2 => exact rfl); (case c3 => exact rfl); (case c4 => exact rfl); k_whole; intro L' h' tk' cells' F' N' Y' B' X' T'; k_cells Y'; (try simp only [List.cons_append, List.nil_append, List.append_nil] at N'); (try dsimp only); (try k_fold)))
  refine seq_K (by k_asm) (by k_asm) ?s1 ?r1
  case s1 =>
    intro h9 tk9 F9 N9
    (try k_sweep); k_fold
    w_strict k_steps
    all_goals first | exact SameK.intro (by k_asm) (by assumption) (by k_sub) | (exfalso; cases h7 : sl x y <;> cases h8 : (x == y) <;> simp_all; done) | w_report
  case r1 =>
  intro h9 tk9 F9 N9
  (try k_sweep)
  refine seq_K (by k_asm) (by k_asm) ?s2 ?r2
  case s2 =>
    intro h9 tk9 F9 N9
    (try k_sweep); k_fold
    w_strict k_steps
    all_goals first | exact SameK.intro (by k_asm) (by assumption) (by k_sub) | (exfalso; cases h7 : sl x y <;> cases h8 : (x == y) <;> simp_all; done) | w_report
  case r2 =>
  intro h9 tk9 F9 N9
  (try k_sweep)
  refine seq_K (by k_asm) (by k_asm) ?s3 ?r3
  case s3 =>
    intro h9 tk9 F9 N9
    (try k_sweep); k_fold
    w_strict k_steps
    all_goals first | exact SameK.intro (by k_asm) (by assumption) (by k_sub) | (exfalso; cases h7 : sl x y <;> cases h8 : (x == y) <;> simp_all; done) | w_report
  case r3 =>
  intro h9 tk9 F9 N9
  (try k_sweep)
  k_fold
  w_strict k_steps
  all_goals ((try intro st); (show Q _ _); refine ret_b hret ?_ (by assumption); (cases h7 : sl x y <;> cases h8 : (x == y) <;> simp_all; done))
end Mine
end
theorem Mine.freshTI : True := by k_with_none; w_top off; first | walk1 | trivial
-- TI
section
open PySem PySem.W PyProof.Rows PySem.Calls PySem.NumText
set_option Elab.async false
namespace Mine
def hexd (n : Nat) : Nat := if n < 10 then 48 + n else 55 + n
def sp3 (n : Nat) : List Nat := [61, hexd (n / 16), hexd (n % 16)]
theorem hex_read (n : Nat) (hn : n < 256) : (int_private% "readNumeral") 0 16 ([hexd (n / 16), hexd (n % 16)].takeWhile (· != 0)) = (int_private% "Numeral.value") (n : Int) := by
  have key : (List.range 256).map (fun k => (int_private% "readNumeral") 0 16 ([hexd (k / 16), hexd (k % 16)].takeWhile (· != 0))) = (List.range 256).map (fun (k : Nat) => (int_private% "Numeral.value") (k : Int)) := by kernel_rfl
  exact List.map_inj_left.mp key n (List.mem_range.mpr hn)
theorem hex_low (n : Nat) (hn : n < 256) : (hexd (n / 16) != 0) = true ∧ (hexd (n % 16) != 0) = true ∧ hexd (n / 16) < 128 ∧ hexd (n % 16) < 128 := by
  have key : ∀ k, k < 256 → (hexd (k / 16) != 0) = true ∧ (hexd (k % 16) != 0) = true ∧ hexd (k / 16) < 128 ∧ hexd (k % 16) < 128 := by decide +kernel
  exact key n hn
theorem wp_text16 {M : Model} {A : Around} {E : Value → Shared → Prop} {s : Shared} {Q : Value → Shared → Prop} {v : Value} {text : List Nat} {n : Int}
    (hs : (text.takeWhile (· != 0)).length ≤ 640) (hr : (int_private% "readNumeral") 0 16 (text.takeWhile (· != 0)) = (int_private% "Numeral.value") n)
    (ha : ((text.takeWhile (· != 0)).length == text.length) = true) (h : Q (.int n s.toks) { s with toks := s.toks + 1 }) :
    wpAny M A ((int_private% "intFromText") v text 16) Q E s := by
  obtain ⟨hp, g, d, tk, os⟩ := s
  repeat (any_goals (first
    | assumption
    | (with_reducible refine wpAny_ite_true (decide_eq_true hs) ?_)
    | (with_reducible refine wpAny_ite_true (decide_eq_true ha) ?_)
    | wp_step))
  all_goals (try rw [hr])
  all_goals (try dsimp only)
  repeat (any_goals (first
    | assumption
    | (with_reducible refine wpAny_ite_true (decide_eq_true hs) ?_)
    | (with_reducible refine wpAny_ite_true (decide_eq_true ha) ?_)
    | wp_step))
set_option maxRecDepth 100000 in
set_option maxHeartbeats 4000000 in
theorem gives_hex {n : Nat} {u v : Tok} (hn : n < 256) : Gives (Builtin.«int.__new__» ⟨[.type "int", .str ⟨#[hexd (n / 16), hexd (n % 16)]⟩ u, .int 16 v], []⟩) (.int n) :=
  .of_wp fun M A E s Q h => by
    obtain ⟨hp, g, d, tk, os⟩ := s
    have f1 := F.conv_sub_int
    have f2 := F.madeHere_int
    have hr := hex_read n hn
    obtain ⟨h1, h2, h3, h4⟩ := hex_low n hn
    generalize hexd (n / 16) = a at *
    generalize hexd (n % 16) = b at *
    have e : ([a, b].takeWhile (· != 0)) = [a, b] := by simp [List.takeWhile, h1, h2]
    have hk : KIN.Hid (([a, b].takeWhile (· != 0)).length ≤ 640 ∧ (int_private% "readNumeral") 0 16 ([a, b].takeWhile (· != 0)) = (int_private% "Numeral.value") (n : Int) ∧ (([a, b].takeWhile (· != 0)).length == [a, b].length) = true) := ⟨by rw [e]; exact Nat.le_of_ble_eq_true rfl, hr, by rw [e]; rfl⟩
    have hall : ((#[a, b] : Array Nat).all (· < 128)) = true := by simp [h3, h4]
    clear hr e h1 h2
    repeat (any_goals (first
      | assumption
      | (with_reducible refine wpAny_ite_true hall ?_)
      | ((with_reducible show wpAny _ _ ((int_private% "intFromText") _ _ _) _ _ _); rw [show (if (({ cps := #[a, b] } : Str).cps.all fun x => decide (x < 128)) = true then ({ cps := #[a, b] } : Str).cps.toList else Unicode.numberText ({ cps := #[a, b] } : Str).cps.toList) = [a, b] from if_pos hall]; refine wp_text16 hk.out.1 hk.out.2.1 hk.out.2.2 ?_)
      | wp_step))
    all_goals first | exact ⟨_, rfl, h⟩ | trace_state
section
variable {prog : Program} {w : World} {A : Around} {E : Value → Shared → Prop} {s : Shared}
theorem call_int16 {n : Nat} {u v : Tok} {Q : Value → Shared → Prop} (hn : n < 256) (h : Q (.int n s.toks) { s with toks := s.toks + 1 }) :
    wpAny (model prog w) A (call (.type "int") [.str ⟨#[hexd (n / 16), hexd (n % 16)]⟩ u, .int 16 v]) Q E s :=
  callType_new F.called_int F.newNe_int (by kernel_rfl) (by kernel_rfl) (fun obj => by unfold argsOk; kernel_rfl) F.entry_int_new (gives_hex hn).meets (show (Made.int n).post _ s from ⟨rfl, h⟩)
end
end Mine
end
theorem Mine.freshTQ : True := by k_with_none; w_top off; first | walk1 | trivial
-- TQ
section
open PySem PySem.W PyProof.Rows
set_option Elab.async false
namespace Mine
open Hd (KK)
theorem ret_s {s : Shared} {Q : Value → Shared → Prop} {h' : Heap} {tk' : Nat} {t' : Tok} {x y : Str}
    (hret : ∀ (h' : Heap) (tk' : Nat) (t' : Tok), s.heap.StaysIn h' → Q (.str x t') { s with heap := h', toks := tk' }) (e : y = x) (st : s.heap.StaysIn h') : Q (.str y t') { s with heap := h', toks := tk' } := by
  subst e
  exact hret h' tk' t' st
set_option maxRecDepth 100000 in
set_option maxHeartbeats 4000000 in
theorem c44 {w : World} {p : Program} {loose : List Str} {mean : ExcName → Option Value} {mg mb : Str → Option Value}
    {dp un : Nat} {gd : Option (List Code)} {cn : Str} {cs : Scope} {a : Addr} {ccd : Value} {cl : List (Str × Addr)} {outer : List Env} {A₀ : Around} {base h₀ : Heap} {L : Addr} {m : Str → Option Value} {s : Shared} {Q E : Value → Shared → Prop} {n : Nat} {t : Tok}
    (B : Below A₀ base outer h₀) (F : Fr h₀ L s.heap m) (X : (KK w.params).In h₀) (T : Top p loose mean mg mb h₀) (hk : cs.kind = .function) (hd : dp + 4 < recursionLimit) (hu : un + 100 < cLine) (hn : n < 256)
    (hret : ∀ (h' : Heap) (tk' : Nat) (t' : Tok), s.heap.StaysIn h' → Q (.str ⟨(sp3 n).toArray⟩ t') { s with heap := h', toks := tk' }) :
    wpAny (model PySem.Challenge.rw_mr0202_01.row.prog w) (ktrTop dp un gd cn cs L a ccd cl outer) (call (.ref 44) [.str ⟨#[n]⟩ t]) Q E s := by
  revert X; k_fill; intro X
  refine wpAny_call ?_
  (k_dflt (refine' own_plain ?k1 ?k2 ?k3 ?k5 ?kA ?kF ?kK ?k6 ?k7 ?k8 ?k9 ?kB ?_ ?c2 ?c3 ?c4 ?c5; (case kA => exact rfl); (case kF => exact rfl); (case kK => assumption); (case k1 => k_asm); (case k2 => k_asm); (case k3 => k_asm); (case k5 => k_asm); (case k6 => k_is); (case k7 => k_is); (case k8 => ktr_room); (case k9 => exact BindsTo.of_eq rfl); (case c5 => decide); (case kB => exact locs rfl); (case c2 => exact rfl); (case c3 => exact rfl); (case c4 => exact rfl); k_whole; intro L' h' F' N' B' X' T'; (try dsimp only); (try k_fold)))
  w_strict k_steps
  all_goals ((try intro st); (show Q _ _); refine ret_s hret ?_ (by assumption); (try simp only [Int.toNat_natCast]); refine (fun (H : ∀ k, k < 256 → List.getD _ k _ = Str.mk (sp3 k).toArray) => H n hn) ?_; decide +kernel)
end Mine
end
theorem Mine.freshTU : True := by k_with_none; w_top off; first | walk1 | trivial
-- TU
section
open PySem PySem.W PyProof.Rows
set_option Elab.async false
namespace Mine
open Hd (KK)
theorem call_int16' {prog : Program} {w : World} {A : Around} {E : Value → Shared → Prop} {s : Shared} {n : Nat} {y : Str} {u v : Tok} {Q : Value → Shared → Prop} (hn : n < 256) (hy : y = ⟨#[hexd (n / 16), hexd (n % 16)]⟩) (h : Q (.int n s.toks) { s with toks := s.toks + 1 }) :
    wpAny (model prog w) A (call (.type "int") [.str y u, .int 16 v]) Q E s := by
  subst hy
  exact call_int16 hn h
local macro_rules | `(tactic| walk_at "call type:int") => `(tactic| (k_here; (k_dflt (refine' call_int16' ?hn ?hy ?_; (case hn => assumption); (case hy => rfl)))))
set_option maxRecDepth 100000 in
set_option maxHeartbeats 4000000 in
theorem c37 {w : World} {p : Program} {loose : List Str} {mean : ExcName → Option Value} {mg mb : Str → Option Value}
    {dp un : Nat} {gd : Option (List Code)} {cn : Str} {cs : Scope} {a : Addr} {ccd : Value} {cl : List (Str × Addr)} {outer : List Env} {A₀ : Around} {base h₀ : Heap} {L : Addr} {m : Str → Option Value} {s : Shared} {Q E : Value → Shared → Prop} {n : Nat} {t : Tok}
    (B : Below A₀ base outer h₀) (F : Fr h₀ L s.heap m) (X : (KK w.params).In h₀) (T : Top p loose mean mg mb h₀) (hk : cs.kind = .function) (hd : dp + 4 < recursionLimit) (hu : un + 100 < cLine) (hn : n < 256)
    (hret : ∀ (h' : Heap) (tk' : Nat) (t' : Tok), s.heap.StaysIn h' → Q (.str ⟨#[n]⟩ t') { s with heap := h', toks := tk' }) :
    wpAny (model PySem.Challenge.rw_mr0202_01.row.prog w) (ktrTop dp un gd cn cs L a ccd cl outer) (call (.ref 37) [.str ⟨#[61, hexd (n / 16), hexd (n % 16)]⟩ t]) Q E s := by
  revert X; k_fill; intro X
  refine wpAny_call ?_
  (k_dflt (refine' own_plain ?k1 ?k2 ?k3 ?k5 ?kA ?kF ?kK ?k6 ?k7 ?k8 ?k9 ?kB ?_ ?c2 ?c3 ?c4 ?c5; (case kA => exact rfl); (case kF => exact rfl); (case kK => assumption); (case k1 => k_asm); (case k2 => k_asm); (case k3 => k_asm); (case k5 => k_asm); (case k6 => k_is); (case k7 => k_is); (case k8 => ktr_room); (case k9 => exact BindsTo.of_eq rfl); (case c5 => decide); (case kB => exact locs rfl); (case c2 => exact rfl); (case c3 => exact rfl); (case c4 => exact rfl); k_whole; intro L' h' F' N' B' X' T'; (try dsimp only); (try k_fold)))
  w_strict k_steps
  all_goals ((try intro st); (show Q _ _); refine ret_s hret ?_ (by assumption); rw [Int.toNat_natCast])
end Mine
end
theorem Mine.freshTL : True := by k_with_none; w_top off; first | walk1 | trivial
-- TL
section
open PySem PySem.W PyProof.Rows
set_option Elab.async false
namespace Mine
open Hd (KK)
/-- the first lambda of the law: its parameters, body and scope, out of the text itself -/
def lamParts : Option (Arguments × Expr × Scope) := match PySem.Challenge.pw_mr0202_01.main.body.getLast? with
  | some (.FunctionDef _ _ (_ :: .Assign _ (.ListComp (.Call _ (.Lambda a b sc _ :: _) _ _) _ _ _) _ :: _) _ _ _ _ _ _ _) => some (a, b, sc)
  | _ => none
theorem octet_nat {k : Int} (h : 0 ≤ k ∧ k < 256) : k.toNat < 256 := by omega
theorem stays_retS {h₀ : Heap} {L : Addr} {m : Str → Option Value} {news : List (Addr × Obj)} {s : Shared} {Q : Value → Shared → Prop} {x : Str} (F : Fr h₀ L s.heap m) (N : News h₀ L s.heap news)
    (h : ∀ (h' : Heap) (tk' : Nat) (t' : Tok), Fr h₀ L h' m → News h₀ L h' news → Q (.str x t') { s with heap := h', toks := tk' }) : ∀ (h' : Heap) (tk' : Nat) (t' : Tok), s.heap.StaysIn h' → Q (.str x t') { s with heap := h', toks := tk' } :=
  fun h' tk' t' st => h h' tk' t' (F.keeps st) (N.keeps st)
theorem room4 {dp : Nat} (h : dp + 8 < recursionLimit) : dp + 1 + 4 < recursionLimit := by omega
theorem units4 {un : Nat} (h : un + 120 < cLine) : un + 3 + 100 < cLine := by omega
local macro_rules | `(tactic| walk_at "call ref") => `(tactic| (k_here; (with_reducible show wpAny _ _ (call (Value.ref 44) _) _ _ _); (k_dflt (refine' c44 ?k1 ?k2 ?k3 ?k5 ?kK ?kd ?ku ?kn ?_)); (case k1 => k_asm); (case k2 => k_asm); (case k3 => k_asm); (case k5 => k_asm); (case kK => first | exact rfl | assumption); (case kd => exact room4 (by assumption)); (case ku => exact units4 (by assumption)); (case kn => exact octet_nat (by assumption)); intro h' tk' t' st'; (have F' := Fr.keeps (by k_asm) st'); (have N' := News.keeps (by k_asm) st'); clear st'; (try dsimp only); (try k_sweep); (try k_fold)))
set_option maxRecDepth 100000 in
set_option maxHeartbeats 4000000 in
theorem cLam {w : World} {p : Program} {loose : List Str} {mean : ExcName → Option Value} {mg mb : Str → Option Value}
    {dp un : Nat} {gd : Option (List Code)} {cn : Str} {cs : Scope} {a : Addr} {ccd : Value} {cl : List (Str × Addr)} {outer : List Env} {A₀ : Around} {base h₀ : Heap} {L : Addr} {m : Str → Option Value} {s : Shared} {Q E : Value → Shared → Prop} {x : Str} {k : Int} {t u : Tok} {lam c' : Addr} {pm ctv : Value} {name qual : Str} {params : Arguments} {body : Expr} {scope : Scope}
    (hp : lamParts = some (params, body, scope)) (ho : s.heap.get? lam = some (kla_obj name qual params body scope [] pm c' ctv)) (hcd : s.heap.CodeRec (.ref c') qual)
    (B : Below A₀ base outer h₀) (F : Fr h₀ L s.heap m) (X : (KK w.params).In h₀) (T : Top p loose mean mg mb h₀) (hk : cs.kind = .function) (hd : dp + 8 < recursionLimit) (hu : un + 120 < cLine) (hk0 : 0 ≤ k ∧ k < 256) (hx : x.length ≤ 1000)
    (hret : ∀ (h' : Heap) (tk' : Nat) (t' : Tok), s.heap.StaysIn h' → Q (.str (x ++ ⟨(sp3 k.toNat).toArray⟩) t') { s with heap := h', toks := tk' }) :
    wpAny (model PySem.Challenge.rw_mr0202_01.row.prog w) (ktrTop dp un gd cn cs L a ccd cl outer) (call (.ref lam) [.str x t, .int k u]) Q E s := by
  rw [show lamParts = some (_, _, _) from rfl] at hp
  cases hp
  revert X; k_fill; intro X
  refine wpAny_call ?_
  (k_dflt (refine' own_lam ?k1 ?k2 ?k3 ?k5 ?kA ?kF ?kK ?k6 ?k7 ?k8 ?k9 ?kB ?_ ?c2 ?c3 ?c4 ?c5; (case kA => exact rfl); (case kF => exact rfl); (case kK => assumption); (case k1 => k_asm); (case k2 => k_asm); (case k3 => k_asm); (case k5 => k_asm); (case k6 => exact ho); (case k7 => exact hcd); (case k8 => (show dp < _; omega)); (case k9 => exact rfl); (case c5 => decide); (case kB => exact locs rfl); (case c2 => exact rfl); (case c3 => exact rfl); (case c4 => exact rfl); k_whole; intro L' h' F' N' B' X' T'; (try dsimp only); (try k_fold)))
  w_strict k_steps
  all_goals ((try intro st); (show Q _ _); refine ret_s hret ?_ (by assumption); first | rfl | (simp_all; done) | trace_state)
end Mine
end
theorem Mine.freshLIt : True := by k_with_none; w_top off; first | walk1 | trivial
-- LIt
section
open PySem PySem.W PyProof.Rows PySem.Calls
set_option Elab.async false
namespace Mine
abbrev itObj (row : Addr) (i : Nat) : Obj := { cls := .type "list_iterator", data := .fields #[.ref row, .int i 0] }
section
variable {prog : Program} {w : World} {A : Around} {E : Value → Shared → Prop} {s : Shared} {env : Env} {h₀ : Heap} {L : Addr} {m : Str → Option Value} {news : List (Addr × Obj)} {x : Str} {body : List Stmt}
theorem iter_L {row : Addr} {its : Array Value} {Q : Value → Shared → Prop} (F : Fr h₀ L s.heap m) (N : News h₀ L s.heap news) (hl : h₀.IsList row its)
    (h : ∀ (I : Addr) h', Fr h₀ L h' m → News h₀ L h' ((I, itObj row 0) :: news) → (∀ p ∈ news, p.1 < I) → L < I → Q (.ref I) { s with heap := h' }) :
    wpAny (model prog w) A (call (.builtin "iter") [.ref row]) Q E s := by
  refine call_function_entry (by decide +kernel) (by decide +kernel) kdk_entry_iter (kdk_args_iter _) ?_
  unfold Builtin.«iter»
  refine wpAny_bind (m := someArgs "iter" 1 2 _) (wpAny_of_eq (a := [Value.ref row]) (by first | rfl | kernel_rfl!) ?_)
  show wpAny _ _ (pyIter (.ref row) >>= _) _ _ _
  refine wpAny_bind (wpAny_pyIter_list (hl.at fun o e => F.keep row o e) ?_)
  exact wpAny_pure ⟨_, rfl, h _ _ (F.push _) (News.push F N _ rfl) (fun q hq => Heap.lt_size (N q hq).1) F.ns.lt⟩
theorem loop_it {I row : Addr} {its : Array Value} {m₀ : Str → Option Value} {Q : Flow → Shared → Prop} (J : Nat → (Str → Option Value) → Prop) (hh : A.handled = none) (hl : h₀.IsList row its) (F : Fr h₀ env.locals s.heap m₀) (hI : s.heap.IsListIter I row 0)
    (hIn : h₀.get? I = none) (hIL : env.locals ≠ I) (j0 : J 0 m₀)
    (turn : ∀ i v m₁ h tk own, its[i]? = some v → J i m₁ → Fr h₀ env.locals h (fun y => if y = x then some v else m₁ y) → News h₀ env.locals h own →
      wpAny (model prog w) A (execs body env) (fun f s₂ => f = .next ∧ ∃ h' tk' m', s₂ = { s with heap := h', toks := tk' } ∧ J (i + 1) m' ∧ Fr h₀ env.locals h' m' ∧ News h₀ env.locals h' own) E { s with heap := h, toks := tk })
    (done : ∀ m₁ h tk, J its.size m₁ → Fr h₀ env.locals h m₁ → Q .next { s with heap := h, toks := tk }) :
    wpAny (model prog w) A (pyIter (.ref I)) (fun it s₂ => LoopAtV prog w A h₀ env x body Q E it s₂) E s := by
  have hls : s.heap.IsList row its := hl.at fun o e => F.keep row o e
  obtain ⟨ol, hol, _⟩ := id hl
  have hlt : row < h₀.objs.size := Heap.lt_size hol
  have hne : row ≠ I := fun q => by rw [← q, hol] at hIn; cases hIn
  have W := Walks.list (prog := prog) (w := w) hh I row hne its
  refine W.self 0 _ _ _ ⟨hI, hls⟩ ?_
  refine ⟨_, _, _, its.size, _, _, m₀, [], fun i m₁ news₁ => news₁ = [] ∧ J i m₁, rfl, W, ?_, ?_, ?_, ⟨hI, hls⟩, F, News.nil, ⟨rfl, j0⟩, ?_, ?_⟩
  · intro hm
    rcases List.mem_cons.mp hm with e | hm
    · exact hIL e
    · exact absurd (Nat.lt_of_lt_of_le hlt F.above) ((List.mem_singleton.mp hm) ▸ Nat.lt_irrefl _)
  · intro b hb
    rw [List.mem_singleton.mp hb]
    exact hIn
  · intro p hp
    cases hp
  · rintro i v m₁ news₁ s₁ own ⟨hh', tk', rfl⟩ hin hP ⟨rfl, hJ⟩ hoff hown _ _ _ F₁ N₁
    rw [List.append_nil] at N₁
    refine wpAny_mono (turn i v m₁ hh' tk' own hP hJ F₁ N₁) (fun f s₂ p => ?_) fun _ _ e => e
    obtain ⟨rfl, h', tk, m', rfl, hJ', F', N'⟩ := p
    exact .next ⟨rfl, h', tk, m', [], rfl, F', by rw [List.append_nil]; exact N', fun p hp => (nomatch hp), rfl, hJ'⟩
  · rintro h' tk m' news' F' N' _ ⟨_, hJ⟩
    exact done m' h' tk hJ F'
end
end Mine
end
theorem Mine.freshLIt2 : True := by k_with_none; w_top off; first | walk1 | trivial
-- LIt2
section
open PySem PySem.W PyProof.Rows PySem.Calls
set_option Elab.async false
namespace Mine
/-- the signs of a row -/
def spl (row : List Int) : List Nat := row.flatMap fun k => sp3 k.toNat
theorem spl_snoc {ns : List Int} {i : Nat} {k : Int} (h : ns[i]? = some k) : (⟨(spl (ns.take (i + 1))).toArray⟩ : Str) = (⟨(spl (ns.take i)).toArray⟩ : Str) ++ ⟨(sp3 k.toNat).toArray⟩ := by
  have e : spl (ns.take (i + 1)) = spl (ns.take i) ++ sp3 k.toNat := by
    unfold spl
    rw [List.take_add_one, h]
    simp
  rw [e]
  apply Str.ext'
  rw [Str.cps_append]
  simp
theorem sp3_length (n : Nat) : (sp3 n).length = 3 := rfl
theorem spl_length (ns : List Int) : (spl ns).length = 3 * ns.length := by
  induction ns with
  | nil => rfl
  | cons k r ih =>
    have e : spl (k :: r) = sp3 k.toNat ++ spl r := by unfold spl; rw [List.flatMap_cons]
    rw [e, List.length_append, ih, sp3_length, List.length_cons]; omega
section
variable {prog : Program} {w : World} {A : Around} {E : Value → Shared → Prop} {s : Shared} {env : Env} {h₀ : Heap} {x v : Str} {body : List Stmt}
/-- what a turn leaves -/
def TurnV (h₀ : Heap) (L : Addr) (v : Str) (y : Str) (M : Str → Option Value) (own : List (Addr × Obj)) (s : Shared) (f : Flow) (s₂ : Shared) : Prop :=
  f = .next ∧ ∃ h' tk' t', s₂ = { s with heap := h', toks := tk' } ∧ Fr h₀ L h' (fun z => if z = v then some (.str y t') else M z) ∧ News h₀ L h' own
theorem loop_val {I row : Addr} {vs : List Value} {ns : List Int} {M : Str → Option Value} {Q : Flow → Shared → Prop} {t : Tok} (hh : A.handled = none) (hl : h₀.IsList row vs.toArray) (hi : IntsAre vs ns) (F : Fr h₀ env.locals s.heap M) (hI : s.heap.IsListIter I row 0)
    (hIn : h₀.get? I = none) (hIL : env.locals ≠ I) (hv : M v = some (.str ⟨#[]⟩ t)) (hvx : v ≠ x)
    (turn : ∀ i k u t e h tk own, ns[i]? = some k → Fr h₀ env.locals h (fun y => if y = x then some (.int k u) else if y = v then some (.str ⟨(spl (ns.take i)).toArray⟩ t) else if y = x then e else M y) → News h₀ env.locals h own →
      wpAny (model prog w) A (execs body env) (TurnV h₀ env.locals v (⟨(spl (ns.take i)).toArray⟩ ++ ⟨(sp3 k.toNat).toArray⟩) (fun y => if y = x then some (.int k u) else if y = v then some (.str ⟨(spl (ns.take i)).toArray⟩ t) else if y = x then e else M y) own s) E { s with heap := h, toks := tk })
    (done : ∀ t e h tk, Fr h₀ env.locals h (fun y => if y = v then some (.str ⟨(spl ns).toArray⟩ t) else if y = x then e else M y) → Q .next { s with heap := h, toks := tk }) :
    wpAny (model prog w) A (pyIter (.ref I)) (fun it s₂ => LoopAtV prog w A h₀ env x body Q E it s₂) E s := by
  refine loop_it (fun i m₁ => ∃ t e, m₁ = fun y => if y = v then some (.str ⟨(spl (ns.take i)).toArray⟩ t) else if y = x then e else M y) hh hl F hI hIn hIL ⟨t, M x, ?_⟩ ?_ ?_
  · funext y
    by_cases h1 : y = v
    · subst h1; rw [if_pos rfl, hv]; rfl
    · rw [if_neg h1]
      by_cases h2 : y = x
      · subst h2; rw [if_pos rfl]
      · rw [if_neg h2]
  · rintro i z m₁ h tk own hz ⟨t₁, e₁, rfl⟩ F₁ N₁
    have hz' : vs[i]? = some z := by simpa using hz
    have hlt : i < ns.length := by rw [← hi.length]; exact (List.getElem?_eq_some_iff.mp hz').1
    obtain ⟨u, hx⟩ := hi.get i ns[i] (by simp [hlt])
    have hzz : z = .int ns[i] u := by rw [hx] at hz'; exact (Option.some.inj hz').symm
    subst hzz
    refine wpAny_mono (turn i ns[i] u t₁ e₁ h tk own (by simp [hlt]) F₁ N₁) (fun f s₂ p => ?_) fun _ _ e => e
    obtain ⟨rfl, h', tk', t', rfl, F', N'⟩ := p
    refine ⟨rfl, h', tk', _, rfl, ⟨t', some (.int ns[i] u), ?_⟩, F', N'⟩
    funext y
    rw [spl_snoc (by simp [hlt] : ns[i]? = some ns[i])]
    by_cases h1 : y = v
    · simp [h1]
    · simp only [if_neg h1]
      by_cases h2 : y = x
      · simp [h2]
      · simp only [if_neg h2]
  · rintro m₁ h tk ⟨t₁, e₁, rfl⟩ F₁
    have hsz : vs.toArray.size = ns.length := by simp [hi.length]
    rw [hsz, List.take_length] at F₁
    exact done t₁ e₁ h tk F₁
end
end Mine
end
theorem Mine.freshTR1 : True := by k_with_none; w_top off; first | walk1 | trivial
-- TR1
section
open PySem PySem.W PyProof.Rows PySem.Calls
set_option Elab.async false
namespace Mine
open Hd (KK)
local macro_rules | `(tactic| walk_at "call builtin:iter") => `(tactic| (k_here; (with_reducible show wpAny _ _ (call (Value.builtin "iter") [Value.ref _]) _ _ _); k_dflt (refine' iter_L ?k1 ?k2 ?k3 ?_; (case k1 => k_asm); (case k2 => k_asm); (case k3 => assumption); k_whole); intro I' h' F' N' l1 l2; clear l1; (try k_sweep)))
def OldFn (a : Addr) (o : Obj) (fd : FuncData) (h : Heap) : Prop := h.get? a = some o ∧ o.data = .func fd
theorem callWith_old {M : Model} {A : Around} {E : Value → Shared → Prop} {s : Shared} {h₀ : Heap} {pos : Pos} {a : Addr} {o : Obj} {fd : FuncData} {env : Env} {e : Expr} {rest : List Expr} {Q : Value → Shared → Prop} (_ho : h₀.get? a = some o) (_hd : o.data = .func fd)
    (h : wpAny M A (spliced (backTo pos (starEach (e :: rest) env))) (fun vs s₁ => OldFn a o fd s₁.heap ∧ wpAny M A (call (.ref a) ([] ++ vs)) Q E s₁) E s)
    (he : starEach (e :: rest) env = (false, eval e env) :: starEach rest env := by rfl) : wpAny M A (callWith pos (.ref a) [] (backTo pos (starEach (e :: rest) env)) []) Q E s := by
  rw [he] at h ⊢
  exact Calls.callWith_function (evalArgs_plain h)
local macro_rules | `(tactic| walk_at "callWith ref") => `(tactic| (k_here; (k_dflt (refine' callWith_old ?k1 ?k2 ?_ ?k3; (case k1 => assumption); (case k2 => exact rfl); (case k3 => exact rfl); k_whole))))
local macro_rules | `(tactic| walk_at "And") => `(tactic| ((with_reducible show OldFn _ _ _ _ ∧ _); (refine ⟨⟨Fr.keep (by k_asm) _ _ (by assumption), rfl⟩, ?_⟩); try dsimp only [List.nil_append, List.cons_append]))
local macro_rules | `(tactic| walk_at "compareOp Is str ref") => `(tactic| refine wpAny_is_other (by rfl) (by intro x; cases x) ?_)
theorem roomR {dp : Nat} (h : dp + 16 < recursionLimit) : dp + 1 + 8 < recursionLimit := by omega
theorem unitsR {un : Nat} (h : un + 200 < cLine) : un + 3 + 120 < cLine := by omega
theorem spl_short {ns : List Int} {i : Nat} (h : ns.length ≤ 8) : (⟨(spl (ns.take i)).toArray⟩ : Str).length ≤ 1000 := by
  show (spl (ns.take i)).toArray.size ≤ 1000
  rw [List.size_toArray, spl_length, List.length_take]; omega
set_option maxRecDepth 100000 in
set_option maxHeartbeats 4000000 in
theorem c149 {w : World} {p : Program} {loose : List Str} {mean : ExcName → Option Value} {mg mb : Str → Option Value}
    {dp un : Nat} {gd : Option (List Code)} {cn : Str} {cs : Scope} {a : Addr} {ccd : Value} {cl : List (Str × Addr)} {outer : List Env} {A₀ : Around} {base h₀ : Heap} {L : Addr} {m : Str → Option Value} {s : Shared} {Q E : Value → Shared → Prop} {t : Tok} {lam c' row : Addr} {vs : List Value} {ns : List Int} {pm ctv : Value} {name qual : Str} {params : Arguments} {body : Expr} {scope : Scope}
    (hp : lamParts = some (params, body, scope)) (ho : s.heap.get? lam = some (kla_obj name qual params body scope [] pm c' ctv)) (hcd : s.heap.CodeRec (.ref c') qual)
    (hr : s.heap.IsList row vs.toArray) (hi : IntsAre vs ns) (hlen : ns.length ≤ 8) (hoct : ∀ k ∈ ns, 0 ≤ k ∧ k < 256)
    (B : Below A₀ base outer h₀) (F : Fr h₀ L s.heap m) (X : (KK w.params).In h₀) (T : Top p loose mean mg mb h₀) (hk : cs.kind = .function) (hd : dp + 16 < recursionLimit) (hu : un + 200 < cLine)
    (hret : ∀ (h' : Heap) (tk' : Nat) (t' : Tok), s.heap.StaysIn h' → Q (.str ⟨(spl ns).toArray⟩ t') { s with heap := h', toks := tk' }) :
    wpAny (model PySem.Challenge.rw_mr0202_01.row.prog w) (ktrTop dp un gd cn cs L a ccd cl outer) (call (.ref 149) [.ref lam, .ref row, .str ⟨#[]⟩ t]) Q E s := by
  revert X; k_fill; intro X
  refine wpAny_call ?_
  (k_dflt (refine' own_plain ?k1 ?k2 ?k3 ?k5 ?kA ?kF ?kK ?k6 ?k7 ?k8 ?k9 ?kB ?_ ?c2 ?c3 ?c4 ?c5; (case kA => exact rfl); (case kF => exact rfl); (case kK => assumption); (case k1 => k_asm); (case k2 => k_asm); (case k3 => k_asm); (case k5 => k_asm); (case k6 => k_is); (case k7 => k_is); (case k8 => (show dp < _; omega)); (case k9 => first | exact BindsTo.of_eq rfl | exact binds_K (by exact Frag.In.keeps X (Fr.keep F)) rfl (by k_is) rfl rfl rfl); (case c5 => decide); (case kB => exact locs rfl); (case c2 => exact rfl); (case c3 => exact rfl); (case c4 => exact rfl); k_whole; intro L' h' F' N' B' X' T'; (try dsimp only); (try k_fold)))
  k_steps
  have hi9 : IntsAre vs ns := by assumption
  refine loop_val (v := Str.ofString "value") rfl hr hi9 (by k_asm) ?hI ?hIn ?hIL rfl (by decide) ?turn ?done
  case hI => (with_reducible rename News _ _ _ _ => N7); exact ⟨_, (N7 _ (List.Mem.head _)).1, rfl, rfl⟩
  case hIn => (with_reducible rename News _ _ _ _ => N7); exact (N7 _ (List.Mem.head _)).2.2
  case hIL => (with_reducible rename News _ _ _ _ => N7); exact (Ne.symm (N7 _ (List.Mem.head _)).2.1)
  case turn =>
    intro i k u t1 e1 h7 tk7 own hk7 F7 N7
    (try k_sweep)
    k_steps
    · exact ⟨F7.keep _ _ ho, rfl⟩
    · refine cLam hp (F7.keep _ _ ho) (hcd.keeps F7.keep) (by k_asm) F7 (by k_asm) (by k_asm) rfl (roomR hd) (unitsR hu) (hoct _ (List.mem_of_getElem? hk7)) (spl_short hlen) ?_
      intro h8 tk8 t8 st8
      have F8 := F7.keeps st8
      have N8 := N7.keeps st8
      clear st8
      (try dsimp only)
      k_steps
      all_goals exact ⟨rfl, _, _, _, rfl, by k_asm, by k_asm⟩
  case done =>
    intro t1 e1 h7 tk7 F7
    have N7 := News.nil (h₀ := s.heap) (h := h7) (L := L')
    k_steps
    all_goals ((try intro st); (show Q _ _); exact hret _ _ _ (by assumption))
end Mine
end
theorem Mine.freshLComp : True := by k_with_none; w_top off; first | walk1 | trivial
-- LComp
section
open PySem PySem.W PyProof.Rows PySem.Calls
set_option Elab.async false
namespace Mine
/-- a turn of a comprehension leaves the ledger as it was -/
def TurnC (h₀ : Heap) (L : Addr) (m : Str → Option Value) (news : List (Addr × Obj)) (s : Shared) (R : Value → Prop) (y : Value) (s₂ : Shared) : Prop :=
  R y ∧ ∃ h' tk', s₂ = { s with heap := h', toks := tk' } ∧ Fr h₀ L h' m ∧ News h₀ L h' news
theorem TurnC.intro {h₀ h' : Heap} {L : Addr} {m : Str → Option Value} {news : List (Addr × Obj)} {s : Shared} {R : Value → Prop} {y : Value} {tk' : Nat} (r : R y) (F : Fr h₀ L h' m) (N : News h₀ L h' news) : TurnC h₀ L m news s R y { s with heap := h', toks := tk' } :=
  ⟨r, h', tk', rfl, F, N⟩
section
variable {prog : Program} {w : World} {A : Around} {h₀ : Heap} {L : Addr} {m : Str → Option Value} {env : Env} {elt : Expr} {x : Str} {scope : Scope} {cl : List (Str × Addr)} {s : Shared} {S : List (Addr × Obj) → Prop} {P : Nat → Value → Prop} {Fin : List Value → List (Addr × Obj) → Prop} {news : List (Addr × Obj)}
theorem rest_go {n : Nat} (R : Nat → Value → Prop) (hS : S news)
    (turn : ∀ i v I oI C oC D ys m₂ h tk (E' : Value → Shared → Prop), i < n → P i v → LCg.NsObj oC m₂ → m₂ x = some v → Fr h₀ L h m → News h₀ L h ((I, oI) :: (C, oC) :: (D, LCg.lst ys) :: news) →
      wpAny (model prog w) A (eval elt (compEnvC scope cl C env)) (TurnC h₀ L m ((I, oI) :: (C, oC) :: (D, LCg.lst ys) :: news) { s with heap := h, toks := tk } (R i)) E' { s with heap := h, toks := tk })
    (fin : ∀ ys, ys.length = n → (∀ i y, ys[i]? = some y → R i y) → Fin ys news) :
    ∀ (k i : Nat) (ys : List Value), i + k = n → ys.length = i → (∀ j y, ys[j]? = some y → R j y) → LCg.CompRest prog w A h₀ L m env elt x scope cl s S P Fin k i ys news
  | 0, i, ys, hn, hl, hr => fin ys (by omega) hr
  | k + 1, i, ys, hn, hl, hr => by
    intro v I oI C oC D m₂ h tk E' hP hC hx F N off ne
    refine wpAny_mono (turn i v I oI C oC D ys m₂ h tk E' (by omega) hP hC hx F N) (fun y s₂ q => ?_) fun _ _ e => e
    obtain ⟨ry, h', tk', rfl, F', N'⟩ := q
    refine ⟨h', tk', news, rfl, F', N', off, hS, rest_go R hS turn fin k (i + 1) (ys ++ [y]) (by omega) (by rw [List.length_append, hl]; rfl) ?_⟩
    intro j z hz
    by_cases hj : j < ys.length
    · rw [List.getElem?_append_left hj] at hz
      exact hr j z hz
    · rw [List.getElem?_append_right (Nat.not_lt.mp hj)] at hz
      have hj2 : j - ys.length = 0 := by
        have := (List.getElem?_eq_some_iff.mp hz).1
        simp at this; omega
      rw [hj2] at hz
      have : y = z := Option.some.inj hz
      subst this
      have : j = i := by omega
      subst this
      exact ry
theorem rest_of {n : Nat} (R : Nat → Value → Prop) (hS : S news)
    (turn : ∀ i v I oI C oC D ys m₂ h tk (E' : Value → Shared → Prop), i < n → P i v → LCg.NsObj oC m₂ → m₂ x = some v → Fr h₀ L h m → News h₀ L h ((I, oI) :: (C, oC) :: (D, LCg.lst ys) :: news) →
      wpAny (model prog w) A (eval elt (compEnvC scope cl C env)) (TurnC h₀ L m ((I, oI) :: (C, oC) :: (D, LCg.lst ys) :: news) { s with heap := h, toks := tk } (R i)) E' { s with heap := h, toks := tk })
    (fin : ∀ ys, ys.length = n → (∀ i y, ys[i]? = some y → R i y) → Fin ys news) :
    LCg.CompRest prog w A h₀ L m env elt x scope cl s S P Fin n 0 [] news := rest_go R hS turn fin n 0 [] (by omega) rfl (fun _ _ h => by simp at h)
end
end Mine
end
theorem Mine.freshLHex : True := by k_with_none; w_top off; first | walk1 | trivial
-- LHex
section
open PySem PySem.W PyProof.Rows PySem.Calls
set_option Elab.async false
namespace Mine
theorem eq_sign : Str.ofString "=" = ⟨#[61]⟩ := by decide +kernel
theorem hex_val {k : Int} (h : 0 ≤ k ∧ k < 256) : Str.ofString "=" ++ ⟨#[hexd (k.fdiv 16).toNat]⟩ ++ ⟨#[hexd (k.fmod 16).toNat]⟩ = (⟨(sp3 k.toNat).toArray⟩ : Str) := by
  obtain ⟨n, rfl⟩ := Int.eq_ofNat_of_zero_le h.1
  have e1 : ((n : Int).fdiv 16).toNat = n / 16 := by
    rw [Int.fdiv_eq_ediv_of_nonneg _ (by decide)]; omega
  have e2 : ((n : Int).fmod 16).toNat = n % 16 := by
    rw [Int.fmod_eq_emod_of_nonneg _ (by decide)]; omega
  rw [e1, e2, eq_sign]
  apply Str.ext'
  simp only [Str.cps_append, sp3, Int.toNat_natCast]
  rfl
theorem strs_of (f : Int → Str) : ∀ (ys : List Value) (ns : List Int), ys.length = ns.length → (∀ (i : Nat) (y : Value), ys[i]? = some y → ∃ t k, ns[i]? = some k ∧ y = Value.str (f k) t) → StrsAre ys (ns.map f)
  | [], [], _, _ => .nil
  | [], _ :: _, h, _ => by simp at h
  | _ :: _, [], h, _ => by simp at h
  | y :: ys, n :: ns, h, hy => by
    obtain ⟨t, k, hk, rfl⟩ := hy 0 y rfl
    have : n = k := Option.some.inj hk
    subst this
    exact .cons _ _ (strs_of f ys ns (by simpa using h) fun i z hz => hy (i + 1) z (by simpa using hz))
theorem empty_sign : Str.ofString "" = ⟨#[]⟩ := by decide +kernel
theorem str_nil_left (x : Str) : (⟨#[]⟩ : Str) ++ x = x := by apply Str.ext'; rw [Str.cps_append]; simp
theorem str_nil_right (x : Str) : x ++ (⟨#[]⟩ : Str) = x := by apply Str.ext'; rw [Str.cps_append]; simp
theorem join_spl : ∀ ns : List Int, Str.join ⟨#[]⟩ (ns.map fun k => (⟨(sp3 k.toNat).toArray⟩ : Str)) = ⟨(spl ns).toArray⟩
  | [] => rfl
  | [k] => by
    show (⟨(sp3 k.toNat).toArray⟩ : Str) = _
    unfold spl; simp
  | k :: l :: r => by
    have ih := join_spl (l :: r)
    have e : spl (k :: l :: r) = sp3 k.toNat ++ spl (l :: r) := by unfold spl; rw [List.flatMap_cons]
    show (⟨(sp3 k.toNat).toArray⟩ : Str) ++ ⟨#[]⟩ ++ Str.join ⟨#[]⟩ ((l :: r).map fun k => (⟨(sp3 k.toNat).toArray⟩ : Str)) = _
    rw [ih, str_nil_right, e]
    apply Str.ext'
    rw [Str.cps_append]; simp
theorem txt_join (ns : List Int) : Txt.join (Str.ofString "") (ns.map fun k => (⟨(sp3 k.toNat).toArray⟩ : Str)) = ⟨(spl ns).toArray⟩ := by
  show Builtin.Str.glued (Str.ofString "") _ = _
  rw [StrLaws.glued_eq_join, empty_sign, join_spl]
theorem sum_spl : ∀ ns : List Int, ((ns.map fun k => (⟨(sp3 k.toNat).toArray⟩ : Str)).map (·.length)).sum = 3 * ns.length
  | [] => rfl
  | k :: r => by
    have ih := sum_spl r
    simp only [List.map_cons, List.sum_cons, List.length_cons, ih]
    show (sp3 k.toNat).toArray.size + _ = _
    rw [List.size_toArray, sp3_length]; omega
theorem join_row {prog : Program} {w : World} {A : Around} {E : Value → Shared → Prop} {s : Shared} {h₀ : Heap} {L D : Addr} {news : List (Addr × Obj)} {ys : List Value} {ns : List Int} {t : Tok} {Q : Value → Shared → Prop} (N : News h₀ L s.heap ((D, LCg.lst ys) :: news)) (hl : ys.length = ns.length) (hn : ns.length ≤ 8)
    (hy : ∀ (i : Nat) (y : Value), ys[i]? = some y → ∃ t k, ns[i]? = some k ∧ y = Value.str ⟨(sp3 k.toNat).toArray⟩ t) (h : ∀ t' k, Q (.str ⟨(spl ns).toArray⟩ t') { s with toks := k }) :
    wpAny (model prog w) A (call (.builtin "str.join") [.str (Str.ofString "") t, .ref D]) Q E s := by
  have hi := strs_of (fun k => (⟨(sp3 k.toNat).toArray⟩ : Str)) ys ns hl hy
  refine join_listW (items := ys.toArray) ⟨_, (N _ (List.Mem.head _)).1, rfl, _, rfl⟩ hi (by rw [empty_sign]; exact Nat.zero_le _) (by rw [sum_spl, List.length_map]; omega) fun t' k => ?_
  rw [txt_join]
  exact h t' k
end Mine
end
theorem Mine.freshLOrd : True := by k_with_none; w_top off; first | walk1 | trivial
-- LOrd
section
open PySem PySem.W PyProof.Rows PySem.Calls
set_option Elab.async false
namespace Mine
def sl' (x y : Str) : Bool := decide (x.cps.toList < y.cps.toList)
theorem hexd_lt {i j : Nat} (hi : i < 16) (hj : j < 16) : (hexd i < hexd j) ↔ i < j := by
  have key : ∀ i, i < 16 → ∀ j, j < 16 → ((hexd i < hexd j) ↔ i < j) := by decide +kernel
  exact key i hi j hj
theorem hexd_eq {i j : Nat} (hi : i < 16) (hj : j < 16) : (hexd i = hexd j) ↔ i = j := by
  have key : ∀ i, i < 16 → ∀ j, j < 16 → ((hexd i = hexd j) ↔ i = j) := by decide +kernel
  exact key i hi j hj
theorem spl_cons (k : Int) (r : List Int) : spl (k :: r) = 61 :: hexd (k.toNat / 16) :: hexd (k.toNat % 16) :: spl r := by
  unfold spl; rw [List.flatMap_cons]; rfl
theorem spl_lt : ∀ (a b : List Int), (∀ k ∈ a, 0 ≤ k ∧ k < 256) → (∀ k ∈ b, 0 ≤ k ∧ k < 256) → (spl a < spl b ↔ a < b)
  | [], [], _, _ => by simp [spl]
  | [], l :: t, _, _ => by rw [spl_cons]; simp [spl]
  | k :: r, [], _, _ => by rw [spl_cons]; simp [spl]
  | k :: r, l :: t, ha, hb => by
    have ih := spl_lt r t (fun z hz => ha z (List.mem_cons_of_mem _ hz)) (fun z hz => hb z (List.mem_cons_of_mem _ hz))
    have hk := ha k List.mem_cons_self
    have hl := hb l List.mem_cons_self
    rw [spl_cons, spl_cons]
    simp only [List.cons_lt_cons_iff, ih, Nat.lt_irrefl, false_or, true_and]
    rw [hexd_lt (by omega) (by omega), hexd_lt (by omega) (by omega), hexd_eq (by omega) (by omega), hexd_eq (by omega) (by omega)]
    constructor
    · rintro (h | ⟨h1, h | ⟨h2, h⟩⟩)
      · left; omega
      · left; omega
      · right; exact ⟨by omega, h⟩
    · rintro (h | ⟨rfl, h⟩)
      · by_cases q : k.toNat / 16 < l.toNat / 16
        · exact .inl q
        · exact .inr ⟨by omega, .inl (by omega)⟩
      · exact .inr ⟨rfl, .inr ⟨rfl, h⟩⟩
theorem spl_eq : ∀ (a b : List Int), (∀ k ∈ a, 0 ≤ k ∧ k < 256) → (∀ k ∈ b, 0 ≤ k ∧ k < 256) → (spl a = spl b ↔ a = b)
  | [], [], _, _ => by simp
  | [], l :: t, _, _ => by rw [spl_cons]; simp [spl]
  | k :: r, [], _, _ => by rw [spl_cons]; simp [spl]
  | k :: r, l :: t, ha, hb => by
    have ih := spl_eq r t (fun z hz => ha z (List.mem_cons_of_mem _ hz)) (fun z hz => hb z (List.mem_cons_of_mem _ hz))
    have hk := ha k List.mem_cons_self
    have hl := hb l List.mem_cons_self
    rw [spl_cons, spl_cons]
    simp only [List.cons.injEq, true_and, ih]
    rw [hexd_eq (by omega) (by omega), hexd_eq (by omega) (by omega)]
    constructor
    · rintro ⟨h1, h2, h3⟩; exact ⟨by omega, h3⟩
    · rintro ⟨rfl, h3⟩; exact ⟨rfl, rfl, h3⟩
/-- a row's text -/
abbrev tx (row : List Int) : Str := ⟨(spl row).toArray⟩
abbrev Oct (row : List Int) : Prop := ∀ k ∈ row, 0 ≤ k ∧ k < 256
theorem tx_lt {a b : List Int} (ha : Oct a) (hb : Oct b) : decide ((tx a).cps.toList < (tx b).cps.toList) = decide (a < b) := by
  show decide ((spl a).toArray.toList < (spl b).toArray.toList) = _
  simp only [List.toList_toArray]
  exact decide_eq_decide.mpr (spl_lt a b ha hb)
theorem tx_eq {a b : List Int} (ha : Oct a) (hb : Oct b) : (tx a == tx b) = decide (a = b) := by
  rw [Bool.eq_iff_iff, beq_iff_eq, decide_eq_true_iff]
  constructor
  · intro h
    have h2 : (spl a).toArray = (spl b).toArray := congrArg Str.cps h
    exact (spl_eq a b ha hb).mp (by simpa using congrArg Array.toList h2)
  · rintro rfl; rfl
theorem tri (a b : List Int) : decide (b < a) = (!decide (a < b) && !decide (a = b)) := by
  by_cases h1 : a < b
  · have : ¬ b < a := fun h => List.lt_asymm h1 h
    simp [h1, this]
  · by_cases h2 : a = b
    · subst h2; simp [h1]
    · have : b < a := by
        rcases Classical.em (b < a) with h | h
        · exact h
        · exact absurd (List.le_antisymm (List.not_lt.mp h) (List.not_lt.mp h1)) h2
      simp [h1, h2, this]
end Mine
end
theorem Mine.freshLRows : True := by k_with_none; w_top off; first | walk1 | trivial
-- LRows
section
open PySem PySem.W PyProof.Rows PySem.Calls
set_option Elab.async false
namespace Mine
/-- a row that has been laid -/
def RowOk (v : List Value) (n : Nat) : Prop := ∃ ns, IntsAre v ns ∧ ns.length ≤ n ∧ Oct ns
/-- the rows, as they stand ahead of turn i -/
inductive RowsAt (R r0 r1 r2 I : Addr) (v0 v1 v2 : List Value) : Nat → List (Addr × Obj) → Prop
  | three : RowsAt R r0 r1 r2 I v0 v1 v2 0 [(R, W.listOf #[.ref r0, .ref r1, .ref r2] 0), (r2, W.listOf v2.toArray 0), (r1, W.listOf v1.toArray 0), (r0, W.listOf v0.toArray 0)]
  | four {i r3 v3 n n3} : @LT.lt Nat instLTNat I r3 → RowOk v3 i → RowsAt R r0 r1 r2 I v0 v1 v2 i [(R, W.listOf #[.ref r0, .ref r1, .ref r2, .ref r3] n), (r3, W.listOf v3.toArray n3), (r2, W.listOf v2.toArray 0), (r1, W.listOf v1.toArray 0), (r0, W.listOf v0.toArray 0)]
  | five {i r3 v3 r4 v4 n n3 n4} : @LT.lt Nat instLTNat I r3 → @LT.lt Nat instLTNat r3 r4 → RowOk v3 i → RowOk v4 i → RowsAt R r0 r1 r2 I v0 v1 v2 i [(R, W.listOf #[.ref r0, .ref r1, .ref r2, .ref r3, .ref r4] n), (r4, W.listOf v4.toArray n4), (r3, W.listOf v3.toArray n3), (r2, W.listOf v2.toArray 0), (r1, W.listOf v1.toArray 0), (r0, W.listOf v0.toArray 0)]
/-- what a turn leaves -/
def TurnR (h₀ : Heap) (L R r0 r1 r2 I : Addr) (oI : Obj) (v0 v1 v2 : List Value) (j : Nat) (M : Str → Option Value) (s : Shared) (f : Flow) (s₂ : Shared) : Prop :=
  f = .next ∧ ∃ h' tk' led, s₂ = { s with heap := h', toks := tk' } ∧ Fr h₀ L h' M ∧ News h₀ L h' ((I, oI) :: led) ∧ RowsAt R r0 r1 r2 I v0 v1 v2 j led
theorem TurnR.intro {h₀ h' : Heap} {L R r0 r1 r2 I : Addr} {oI : Obj} {v0 v1 v2 : List Value} {j : Nat} {M : Str → Option Value} {s : Shared} {tk' : Nat} {led news : List (Addr × Obj)} (F : Fr h₀ L h' M) (N : News h₀ L h' news) (hr : RowsAt R r0 r1 r2 I v0 v1 v2 j led) (hs : ∀ p ∈ (I, oI) :: led, p ∈ news) :
    TurnR h₀ L R r0 r1 r2 I oI v0 v1 v2 j M s .next { s with heap := h', toks := tk' } := ⟨rfl, h', tk', led, rfl, F, fun p hp => N p (hs p hp), hr⟩
section
variable {prog : Program} {w : World} {A : Around} {E : Value → Shared → Prop} {s : Shared} {env : Env} {h₀ : Heap} {x : Str} {body : List Stmt}
theorem RowsAt.off {R r0 r1 r2 I : Addr} {v0 v1 v2 : List Value} {i : Nat} {led : List (Addr × Obj)} (h : RowsAt R r0 r1 r2 I v0 v1 v2 i led) (h0 : r0 < I ∧ r1 < I ∧ r2 < I ∧ R < I) : ∀ p ∈ led, p.1 ≠ I := by
  obtain ⟨h0, h1, h2, h3⟩ := h0
  cases h <;> (intro p hp; simp only [List.mem_cons, List.not_mem_nil, or_false] at hp; rcases hp with rfl | rfl | rfl | rfl | rfl | rfl <;> first | exact Nat.ne_of_lt (by assumption) | exact Nat.ne_of_gt (by assumption) | exact Nat.ne_of_gt (Nat.lt_trans (by assumption) (by assumption)))
def RowsTurn (prog : Program) (w : World) (A : Around) (E : Value → Shared → Prop) (s : Shared) (env : Env) (h₀ : Heap) (x : Str) (body : List Stmt) (R r0 r1 r2 : Addr) (ns : List Int) (M : Str → Option Value) : Prop :=
  ∀ v0 v1 v2 i k u e h tk I oI led, ns[i]? = some k → @LT.lt Nat instLTNat R I ∧ @LT.lt Nat instLTNat r2 I ∧ @LT.lt Nat instLTNat r1 I ∧ @LT.lt Nat instLTNat r0 I → Fr h₀ env.locals h (fun y => if y = x then some (.int k u) else if y = x then e else M y) → News h₀ env.locals h ((I, oI) :: led) → RowsAt R r0 r1 r2 I v0 v1 v2 i led →
      wpAny (model prog w) A (execs body env) (TurnR h₀ env.locals R r0 r1 r2 I oI v0 v1 v2 (i + 1) (fun y => if y = x then some (.int k u) else if y = x then e else M y) s) E { s with heap := h, toks := tk }
def RowsDone (s : Shared) (env : Env) (h₀ : Heap) (x : Str) (R r0 r1 r2 : Addr) (v0 v1 v2 : List Value) (ns : List Int) (M : Str → Option Value) (Q : Flow → Shared → Prop) : Prop :=
  ∀ e h tk I led, RowsAt R r0 r1 r2 I v0 v1 v2 ns.length led → @LT.lt Nat instLTNat R I ∧ @LT.lt Nat instLTNat r2 I ∧ @LT.lt Nat instLTNat r1 I ∧ @LT.lt Nat instLTNat r0 I → Fr h₀ env.locals h (fun y => if y = x then e else M y) → News h₀ env.locals h led → Q .next { s with heap := h, toks := tk }
theorem loop_rows {row R r0 r1 r2 : Addr} {v0 v1 v2 vs : List Value} {ns : List Int} {M : Str → Option Value} {Q : Flow → Shared → Prop} (hh : A.handled = none) (hl : h₀.IsList row vs.toArray) (hi : IntsAre vs ns) (F : Fr h₀ env.locals s.heap M)
    (N : News h₀ env.locals s.heap [(R, W.listOf #[.ref r0, .ref r1, .ref r2] 0), (r2, W.listOf v2.toArray 0), (r1, W.listOf v1.toArray 0), (r0, W.listOf v0.toArray 0)])
    (turn : RowsTurn prog w A E s env h₀ x body R r0 r1 r2 ns M) (done : RowsDone s env h₀ x R r0 r1 r2 v0 v1 v2 ns M Q) :
    wpAny (model prog w) A (pyIter (.ref row)) (fun it s₂ => LoopAtV prog w A h₀ env x body Q E it s₂) E s := by
  have hls : s.heap.IsList row vs.toArray := hl.at fun o e => F.keep row o e
  obtain ⟨ol, hol, _⟩ := id hl
  have hlt : row < h₀.objs.size := Heap.lt_size hol
  have hne : row ≠ s.heap.objs.size := Nat.ne_of_lt (Nat.lt_trans (Nat.lt_of_lt_of_le hlt F.above) F.ns.lt)
  have hb : R < s.heap.objs.size ∧ r2 < s.heap.objs.size ∧ r1 < s.heap.objs.size ∧ r0 < s.heap.objs.size :=
    ⟨Heap.lt_size (N _ List.mem_cons_self).1, Heap.lt_size (N _ (List.mem_cons_of_mem _ List.mem_cons_self)).1, Heap.lt_size (N _ (List.mem_cons_of_mem _ (List.mem_cons_of_mem _ List.mem_cons_self))).1, Heap.lt_size (N _ (List.mem_cons_of_mem _ (List.mem_cons_of_mem _ (List.mem_cons_of_mem _ List.mem_cons_self)))).1⟩
  refine wpAny_pyIter_list hls ?_
  have W := Walks.list (prog := prog) (w := w) hh s.heap.objs.size row hne vs.toArray
  refine ⟨_, _, _, vs.toArray.size, _, _, M, _, fun i m₁ led => (∃ e, m₁ = fun y => if y = x then e else M y) ∧ RowsAt R r0 r1 r2 s.heap.objs.size v0 v1 v2 i led, rfl, W, ?_, ?_, ?_, ⟨⟨_, Heap.get?_push_size _ rfl, rfl, rfl⟩, hls.at fun o e => Heap.get?_push_of_some _ e⟩, F.push _, (fun p hp => ⟨Heap.get?_push_of_some _ (N p hp).1, (N p hp).2⟩), ⟨⟨M x, ?_⟩, .three⟩, ?_, ?_⟩
  · intro hm
    rcases List.mem_cons.mp hm with e | hm
    · exact absurd F.ns.lt (e ▸ Nat.lt_irrefl _)
    · exact absurd (Nat.lt_of_lt_of_le hlt F.above) ((List.mem_singleton.mp hm) ▸ Nat.lt_irrefl _)
  · intro b hb
    rw [List.mem_singleton.mp hb]
    exact next_is_new F
  · intro p hp hI
    exact absurd (Heap.lt_size (N p hp).1) ((List.mem_singleton.mp hI) ▸ Nat.lt_irrefl _)
  · funext y
    by_cases h : y = x
    · subst h; rw [if_pos rfl]
    · rw [if_neg h]
  · rintro i v m₁ led s₁ own ⟨hh', tk', rfl⟩ hin hP ⟨⟨e, rfl⟩, hJ⟩ hoff hown _ hmem hst F₁ N₁
    have hz' : vs[i]? = some v := by simpa using hP
    have hlt' : i < ns.length := by rw [← hi.length]; exact (List.getElem?_eq_some_iff.mp hz').1
    obtain ⟨u, hx⟩ := hi.get i ns[i] (by simp [hlt'])
    have hzz : v = .int ns[i] u := by rw [hx] at hz'; exact (Option.some.inj hz').symm
    subst hzz
    obtain ⟨⟨oI, hoI, _⟩, _⟩ := id hst
    have hIn : (s.heap.objs.size, oI) ∈ own := hmem _ List.mem_cons_self (next_is_new F) oI hoI
    have N₂ : News h₀ env.locals hh' ((s.heap.objs.size, oI) :: led) := fun p hp => by
      rcases List.mem_cons.mp hp with rfl | hp
      · exact N₁ _ (List.mem_append.mpr (.inl hIn))
      · exact N₁ p (List.mem_append.mpr (.inr hp))
    refine wpAny_mono (turn v0 v1 v2 i ns[i] u e hh' tk' _ oI led (by simp [hlt']) hb F₁ N₂ hJ) (fun f s₂ p => ?_) fun _ _ e => e
    obtain ⟨rfl, h', tk, led', rfl, F', N', hr'⟩ := p
    refine .next ⟨rfl, h', tk, _, led', rfl, F', ?_, ?_, ⟨some (.int ns[i] u), ?_⟩, hr'⟩
    · intro p hp
      rcases List.mem_append.mp hp with hp | hp
      · have h1 := N₁ p (List.mem_append.mpr (.inl hp))
        rcases List.mem_cons.mp (hown p hp) with h2 | h2
        · have h3 : p.2 = oI := by
            have := h1.1
            rw [h2] at this
            exact Option.some.inj (this.symm.trans hoI)
          have h4 : p = (s.heap.objs.size, oI) := Prod.ext h2 h3
          rw [h4]
          exact N' _ List.mem_cons_self
        · have h3 : p.1 = row := List.mem_singleton.mp h2
          have h4 := h1.2.2
          rw [h3, hol] at h4
          cases h4
      · exact N' p (List.mem_cons_of_mem _ hp)
    · intro p hp hq
      exact hr'.off ⟨hb.2.2.2, hb.2.2.1, hb.2.1, hb.1⟩ p hp (List.mem_singleton.mp hq)
    · funext y
      by_cases h : y = x
      · simp [h]
      · simp [h]
  · rintro h' tk m' led' F' N' _ ⟨⟨e, rfl⟩, hJ⟩
    have hsz : vs.toArray.size = ns.length := by simp [hi.length]
    rw [hsz] at hJ
    exact done e h' tk _ led' hJ hb F' N'
end
end Mine
namespace Mine
/-- the rows in a ledger -/
def RowsD (D : List (Addr × Obj)) (R : Addr) (rs : List (Addr × List Int)) : Prop :=
  (∃ n, (R, W.listOf (rs.map fun r => Value.ref r.1).toArray n) ∈ D) ∧ 3 ≤ rs.length ∧ rs.length ≤ 5 ∧ ∀ r ∈ rs, ∃ (vs : List Value) (n : Nat), (r.1, W.listOf vs.toArray n) ∈ D ∧ IntsAre vs r.2 ∧ r.2.length ≤ 8 ∧ Oct r.2
theorem RowsD.of {R r0 r1 r2 I : Addr} {v0 v1 v2 : List Value} {i : Nat} {led : List (Addr × Obj)} {n0 n1 n2 : List Int} (hr : RowsAt R r0 r1 r2 I v0 v1 v2 i led) (hi : i ≤ 8)
    (h0 : IntsAre v0 n0) (h1 : IntsAre v1 n1) (h2 : IntsAre v2 n2) (l0 : n0.length ≤ 8) (l1 : n1.length ≤ 8) (l2 : n2.length ≤ 8) (o0 : Oct n0) (o1 : Oct n1) (o2 : Oct n2) : ∃ rs, RowsD led R rs := by
  cases hr with
  | three =>
    refine ⟨[(r0, n0), (r1, n1), (r2, n2)], ⟨_, List.mem_cons_self⟩, by simp, by simp, ?_⟩
    intro r hr
    simp only [List.mem_cons, List.not_mem_nil, or_false] at hr
    rcases hr with rfl | rfl | rfl
    · exact ⟨v0, 0, by simp, h0, l0, o0⟩
    · exact ⟨v1, 0, by simp, h1, l1, o1⟩
    · exact ⟨v2, 0, by simp, h2, l2, o2⟩
  | four a b =>
    obtain ⟨n3, i3, l3, o3⟩ := b
    refine ⟨[(r0, n0), (r1, n1), (r2, n2), (_, n3)], ⟨_, List.mem_cons_self⟩, by simp, by simp, ?_⟩
    intro r hr
    simp only [List.mem_cons, List.not_mem_nil, or_false] at hr
    rcases hr with rfl | rfl | rfl | rfl
    · exact ⟨v0, 0, by simp, h0, l0, o0⟩
    · exact ⟨v1, 0, by simp, h1, l1, o1⟩
    · exact ⟨v2, 0, by simp, h2, l2, o2⟩
    · exact ⟨_, _, List.mem_cons_of_mem _ List.mem_cons_self, i3, Nat.le_trans l3 hi, o3⟩
  | five a a' b c =>
    obtain ⟨n3, i3, l3, o3⟩ := b
    obtain ⟨n4, i4, l4, o4⟩ := c
    refine ⟨[(r0, n0), (r1, n1), (r2, n2), (_, n3), (_, n4)], ⟨_, List.mem_cons_self⟩, by simp, by simp, ?_⟩
    intro r hr
    simp only [List.mem_cons, List.not_mem_nil, or_false] at hr
    rcases hr with rfl | rfl | rfl | rfl | rfl
    · exact ⟨v0, 0, by simp, h0, l0, o0⟩
    · exact ⟨v1, 0, by simp, h1, l1, o1⟩
    · exact ⟨v2, 0, by simp, h2, l2, o2⟩
    · exact ⟨_, _, List.mem_cons_of_mem _ (List.mem_cons_of_mem _ List.mem_cons_self), i3, Nat.le_trans l3 hi, o3⟩
    · exact ⟨_, _, List.mem_cons_of_mem _ List.mem_cons_self, i4, Nat.le_trans l4 hi, o4⟩
theorem RowOk.nil (n : Nat) : RowOk [] n := ⟨[], .nil, Nat.zero_le _, by simp [Oct]⟩
theorem RowOk.up {v : List Value} {n : Nat} (h : RowOk v n) : RowOk v (n + 1) := by
  obtain ⟨ns, a, b, c⟩ := h
  exact ⟨ns, a, by omega, c⟩
theorem RowOk.snoc {v : List Value} {n : Nat} {k : Int} {t : Tok} (h : RowOk v n) : RowOk (v ++ [.int (k.fmod 256) t]) (n + 1) := by
  obtain ⟨ns, a, b, c⟩ := h
  refine ⟨ns ++ [k.fmod 256], ?_, by rw [List.length_append]; simpa using b, ?_⟩
  · exact intsAre_append a (.cons _ _ .nil)
  · intro z hz
    rcases List.mem_append.mp hz with hz | hz
    · exact c z hz
    · rw [List.mem_singleton.mp hz]
      have := fdiv_fmod_facts k 256
      omega
end Mine
namespace Mine
section
variable {h₀ h' : Heap} {L R r0 r1 r2 r3 r4 I : Addr} {oI : Obj} {v0 v1 v2 v3 v4 : List Value} {j : Nat} {M : Str → Option Value} {s : Shared} {tk' n n3 n4 : Nat} {A A3 A4 : Array Value}
theorem end34 (F : Fr h₀ L h' M) (N : News h₀ L h' [(r3, W.listOf A3 n3), (I, oI), (R, W.listOf A n), (r2, W.listOf v2.toArray 0), (r1, W.listOf v1.toArray 0), (r0, W.listOf v0.toArray 0)]) (hA : A = #[.ref r0, .ref r1, .ref r2, .ref r3]) (h3 : A3 = v3.toArray) (ho : RowOk v3 j) (hl : @LT.lt Nat instLTNat I r3) :
    TurnR h₀ L R r0 r1 r2 I oI v0 v1 v2 j M s .next { s with heap := h', toks := tk' } := by
  subst hA h3
  refine TurnR.intro F N (RowsAt.four (n := n) (n3 := n3) hl ho) ?_
  intro p hp; simp only [List.mem_cons, List.not_mem_nil, or_false] at hp
  rcases hp with rfl | rfl | rfl | rfl | rfl | rfl <;> simp
theorem end44 (F : Fr h₀ L h' M) (N : News h₀ L h' [(I, oI), (R, W.listOf #[.ref r0, .ref r1, .ref r2, .ref r3] n), (r3, W.listOf A3 n3), (r2, W.listOf v2.toArray 0), (r1, W.listOf v1.toArray 0), (r0, W.listOf v0.toArray 0)]) (h3 : A3 = v3.toArray) (ho : RowOk v3 j) (hl : @LT.lt Nat instLTNat I r3) :
    TurnR h₀ L R r0 r1 r2 I oI v0 v1 v2 j M s .next { s with heap := h', toks := tk' } := by
  subst h3
  exact TurnR.intro F N (RowsAt.four (n := n) (n3 := n3) hl ho) fun p hp => hp
theorem end45 (F : Fr h₀ L h' M) (N : News h₀ L h' [(r4, W.listOf A4 n4), (I, oI), (R, W.listOf A n), (r3, W.listOf v3.toArray n3), (r2, W.listOf v2.toArray 0), (r1, W.listOf v1.toArray 0), (r0, W.listOf v0.toArray 0)]) (hA : A = #[.ref r0, .ref r1, .ref r2, .ref r3, .ref r4]) (h4 : A4 = v4.toArray) (ho : RowOk v3 j) (ho4 : RowOk v4 j) (hl : @LT.lt Nat instLTNat I r3) (hl4 : @LT.lt Nat instLTNat r3 r4) :
    TurnR h₀ L R r0 r1 r2 I oI v0 v1 v2 j M s .next { s with heap := h', toks := tk' } := by
  subst hA h4
  refine TurnR.intro F N (RowsAt.five (n := n) (n3 := n3) (n4 := n4) hl hl4 ho ho4) ?_
  intro p hp; simp only [List.mem_cons, List.not_mem_nil, or_false] at hp
  rcases hp with rfl | rfl | rfl | rfl | rfl | rfl | rfl <;> simp
theorem end55 (F : Fr h₀ L h' M) (N : News h₀ L h' [(I, oI), (R, W.listOf #[.ref r0, .ref r1, .ref r2, .ref r3, .ref r4] n), (r4, W.listOf A4 n4), (r3, W.listOf v3.toArray n3), (r2, W.listOf v2.toArray 0), (r1, W.listOf v1.toArray 0), (r0, W.listOf v0.toArray 0)]) (h4 : A4 = v4.toArray) (ho : RowOk v3 j) (ho4 : RowOk v4 j) (hl : @LT.lt Nat instLTNat I r3) (hl4 : @LT.lt Nat instLTNat r3 r4) :
    TurnR h₀ L R r0 r1 r2 I oI v0 v1 v2 j M s .next { s with heap := h', toks := tk' } := by
  subst h4
  exact TurnR.intro F N (RowsAt.five (n := n) (n3 := n3) (n4 := n4) hl hl4 ho ho4) fun p hp => hp
theorem push_ref {a b c d : Value} : (#[a, b, c] : Array Value).push d = #[a, b, c, d] := rfl
theorem push_ref4 {a b c d e : Value} : (#[a, b, c, d] : Array Value).push e = #[a, b, c, d, e] := rfl
theorem push_snoc {v : List Value} {x : Value} : v.toArray.push x = (v ++ [x]).toArray := by simp
end
end Mine
namespace Mine
theorem RowOk.size {v : List Value} {n : Nat} (h : RowOk v n) (hn : n ≤ 8) : v.toArray.size ≤ sizeLine := by
  obtain ⟨ns, a, b, c⟩ := h
  rw [List.size_toArray, a.length, sizeLine_eq]; omega
theorem at_le {ns : List Int} {i : Nat} {k : Int} (h : ns[i]? = some k) (hl : ns.length ≤ 8) : i ≤ 8 := by
  have := (List.getElem?_eq_some_iff.mp h).1
  omega
theorem RowsD.start {R r0 r1 r2 I : Addr} {i : Nat} {led : List (Addr × Obj)} {t0 t1 t2 t3 : Tok} (hr : RowsAt R r0 r1 r2 I [.int 126 t0] [.int 126 t1, .int 0 t2] [.int 61 t3] i led) (hi : i ≤ 8) : ∃ rs, RowsD led R rs :=
  RowsD.of (n0 := [126]) (n1 := [126, 0]) (n2 := [61]) hr hi (.cons _ _ .nil) (.cons _ _ (.cons _ _ .nil)) (.cons _ _ .nil) (by decide) (by decide) (by decide) (by decide) (by decide) (by decide)
end Mine
end
theorem Mine.freshTRows : True := by k_with_none; w_top off; first | walk1 | trivial
-- TRows
section
open PySem PySem.W PyProof.Rows PySem.Calls
set_option Elab.async false
namespace Mine
open Hd (KK)
local macro_rules | `(tactic| walk_at "pyIter ref") => `(tactic| (k_here; (k_dflt (refine' loop_rows ?h0 ?h1 ?h2 ?h3 ?h4 ?_ ?_; (case h0 => rfl); (case h1 => assumption); (case h2 => assumption); (case h3 => k_asm); (case h4 => k_asm)))))
local macro_rules | `(tactic| walk_at "call builtin:list.append") => `(tactic| (k_here; (with_reducible show wpAny _ _ (call (Value.builtin _) [Value.ref _, _]) _ _ _); k_dflt (refine' append_K ?k1 ?k2 ?k3 ?_ ?z; (case k1 => k_asm); (case k2 => k_asm); (case k3 => k_upd); (case z => assumption); k_whole); intro h' F' N'; (try k_sweep)))
set_option maxRecDepth 100000 in
set_option maxHeartbeats 4000000 in
theorem c156 {w : World} {p : Program} {loose : List Str} {mean : ExcName → Option Value} {mg mb : Str → Option Value}
    {dp un : Nat} {gd : Option (List Code)} {cn : Str} {cs : Scope} {a : Addr} {ccd : Value} {cl : List (Str × Addr)} {outer : List Env} {A₀ : Around} {base h₀ : Heap} {L : Addr} {m : Str → Option Value} {s : Shared} {Q E : Value → Shared → Prop} {row : Addr} {vs : List Value} {ns : List Int}
    (hr : s.heap.IsList row vs.toArray) (hi : IntsAre vs ns) (hlen : ns.length ≤ 8)
    (B : Below A₀ base outer h₀) (F : Fr h₀ L s.heap m) (X : (KK w.params).In h₀) (T : Top p loose mean mg mb h₀) (hk : cs.kind = .function) (hd : dp + 16 < recursionLimit) (hu : un + 200 < cLine)
    (hret : ∀ (h' : Heap) (tk' : Nat) (R : Addr) (rs : List (Addr × List Int)) (D : List (Addr × Obj)), RowsD D R rs → (∀ p ∈ D, h'.get? p.1 = some p.2 ∧ s.heap.get? p.1 = none) → s.heap.StaysIn h' → Q (.ref R) { s with heap := h', toks := tk' }) :
    wpAny (model PySem.Challenge.rw_mr0202_01.row.prog w) (ktrTop dp un gd cn cs L a ccd cl outer) (call (.ref 156) [.ref row]) Q E s := by
  revert X; k_fill; intro X
  refine wpAny_call ?_
  (k_dflt (refine' own_plain ?k1 ?k2 ?k3 ?k5 ?kA ?kF ?kK ?k6 ?k7 ?k8 ?k9 ?kB ?_ ?c2 ?c3 ?c4 ?c5; (case kA => exact rfl); (case kF => exact rfl); (case kK => assumption); (case k1 => k_asm); (case k2 => k_asm); (case k3 => k_asm); (case k5 => k_asm); (case k6 => k_is); (case k7 => k_is); (case k8 => (show dp < _; omega)); (case k9 => exact BindsTo.of_eq rfl); (case kB => exact locs rfl); (case c2 => exact rfl); (case c3 => exact rfl); (case c4 => exact rfl); (case c5 => decide); k_whole; intro L' h' F' N' B' X' T'; (try dsimp only); (try k_fold)))
  have hi9 : IntsAre vs ns := hi
  k_steps
  · intro v0 v1 v2 i k u e h tk I oI led hk hlt F1 N1 hr
    cases hr with
    | three =>
      k_steps
      all_goals (refine' end34 ?F ?N ?a ?b ?c ?d; (case F => k_asm); (case N => k_asm); (case a => exact push_ref); (case b => (first | exact push_snoc | exact rfl)); (case c => (first | exact RowOk.nil _ | exact RowOk.snoc (RowOk.nil _) | exact RowOk.snoc (by assumption) | exact RowOk.up (by assumption))); (case d => omega))
    | four a b =>
      have z3 := b.size (at_le hk hlen)
      k_steps
      all_goals (first
        | (refine' end45 ?F ?N ?a ?b ?c ?c4 ?d ?e; (case F => k_asm); (case N => k_asm); (case a => exact push_ref4); (case b => (first | exact push_snoc | exact rfl)); (case c => (first | exact RowOk.nil _ | exact RowOk.snoc (RowOk.nil _) | exact RowOk.snoc (by assumption) | exact RowOk.up (by assumption))); (case c4 => (first | exact RowOk.nil _ | exact RowOk.snoc (RowOk.nil _) | exact RowOk.snoc (by assumption) | exact RowOk.up (by assumption))); (case d => omega); (case e => omega))
        | (refine' end44 ?F ?N ?b ?c ?d; (case F => k_asm); (case N => k_asm); (case b => (first | exact push_snoc | exact rfl)); (case c => (first | exact RowOk.nil _ | exact RowOk.snoc (RowOk.nil _) | exact RowOk.snoc (by assumption) | exact RowOk.up (by assumption))); (case d => omega)))
    | five a a' b c =>
      have z4 := c.size (at_le hk hlen)
      k_steps
      all_goals (refine' end55 ?F ?N ?b ?c ?c4 ?d ?e; (case F => k_asm); (case N => k_asm); (case b => (first | exact push_snoc | exact rfl)); (case c => (first | exact RowOk.nil _ | exact RowOk.snoc (RowOk.nil _) | exact RowOk.snoc (by assumption) | exact RowOk.up (by assumption))); (case c4 => (first | exact RowOk.nil _ | exact RowOk.snoc (RowOk.nil _) | exact RowOk.snoc (by assumption) | exact RowOk.up (by assumption))); (case d => omega); (case e => omega))
  · intro e h tk I led hr hlt F1 N1
    obtain ⟨rs, hrs⟩ := RowsD.start hr hlen
    have hnew : ∀ p ∈ led, h.get? p.1 = some p.2 ∧ s.heap.get? p.1 = none := fun p hp => ⟨(N1 p hp).1, (N1 p hp).2.2⟩
    k_steps
    all_goals ((try intro st); (show Q _ _); exact hret _ _ _ rs led hrs hnew (by assumption))
end Mine
end
theorem Mine.freshTH : True := by k_with_none; w_top off; first | walk1 | trivial
-- TH
section
open PySem PySem.W PyProof.Rows PySem.Calls
set_option Elab.async false
namespace Mine
open Hd (KK)
theorem fig_is (k : Nat) (hk : k < 16) : Txt.item (Str.ofString "0123456789ABCDEF") (k : Int) = ⟨#[hexd k]⟩ := by
  have key : ∀ j, j < 16 → Txt.item (Str.ofString "0123456789ABCDEF") ((j : Nat) : Int) = (⟨#[hexd j]⟩ : Str) := by decide +kernel
  exact key k hk
theorem fig_item {prog : Program} {w : World} {A : Around} {E : Value → Shared → Prop} {s : Shared} {value slice : Expr} {i : Int} {u t : Tok} {Q : Value → Shared → Prop} (h0 : 0 ≤ i ∧ i < 16) (h : Q (.str ⟨#[hexd i.toNat]⟩ s.toks) { s with toks := s.toks + 1 })
    (hs : subscripted slice false (.str (Str.ofString "0123456789ABCDEF") t) (.int i u) = operate [.str (Str.ofString "0123456789ABCDEF") t, .int i u] (getItem (.str (Str.ofString "0123456789ABCDEF") t) (.int i u)) := by with_unfolding_all rfl)
    (ht : ∀ r, letTemporaryGo value (.str (Str.ofString "0123456789ABCDEF") t) r = pure () := by intro _; with_unfolding_all rfl) :
    wpAny (model prog w) A (subscriptTail value slice (.str (Str.ofString "0123456789ABCDEF") t) (.int i u)) Q E s := by
  have hl : (Str.ofString "0123456789ABCDEF").length = 16 := by decide +kernel
  obtain ⟨k, rfl⟩ := Int.eq_ofNat_of_zero_le h0.1
  refine item_str (by unfold fitsSsize; simp; omega) (by rw [hl]; omega) (by rw [hl]; omega) (fun _ => ?_) hs ht
  rw [fig_is k (by omega)]
  exact h
theorem fdiv_oct {k : Int} (h : 0 ≤ k ∧ k < 256) : 0 ≤ k.fdiv 16 ∧ k.fdiv 16 < 16 := by
  have h1 := (fdiv_fmod_facts k 16)
  omega
theorem fmod_oct {k : Int} : 0 ≤ k.fmod 16 ∧ k.fmod 16 < 16 := by
  have h1 := (fdiv_fmod_facts k 16)
  omega
theorem int_at {vs : List Value} {ns : List Int} {i : Nat} {v : Value} (hi : IntsAre vs ns) (h : vs.toArray[i]? = some v) : ∃ k u, ns[i]? = some k ∧ v = .int k u := by
  have hz' : vs[i]? = some v := by simpa using h
  have hlt : i < ns.length := by rw [← hi.length]; exact (List.getElem?_eq_some_iff.mp hz').1
  obtain ⟨u, hx⟩ := hi.get i ns[i] (by simp [hlt])
  refine ⟨ns[i], u, by simp [hlt], ?_⟩
  rw [hx] at hz'; exact (Option.some.inj hz').symm
local macro_rules | `(tactic| walk_at "subscriptTail") => `(tactic| (k_here; (k_dflt (refine' fig_item ?h0 ?_ ?h1 ?h2; (case h0 => first | exact fdiv_oct (by assumption) | exact fmod_oct); (case h1 => with_unfolding_all rfl); (case h2 => (intro _; with_unfolding_all rfl)); k_whole))))
local macro_rules | `(tactic| walk_at "subscriptTail Name BinOp str int") => `(tactic| (k_here; (k_dflt (refine' fig_item ?h0 ?_ ?h1 ?h2; (case h0 => first | exact fdiv_oct (by assumption) | exact fmod_oct); (case h1 => with_unfolding_all rfl); (case h2 => (intro _; with_unfolding_all rfl)); k_whole))))
local macro_rules | `(tactic| walk_at "eval ListComp") => `(tactic| (k_here; k_dflt (refine LCg.ListComp_U (F₀ := by k_asm) (by with_unfolding_all rfl) (by decide) (by rfl) (by decide) (by rfl) ?_)))
local macro_rules | `(tactic| walk_at "CompSrc") => `(tactic| (k_here; k_dflt (refine LCg.CompSrc.base (by rfl) (by k_asm) (by k_asm) (by assumption) (by first | size_fits | assumption) ?_; intro g')))
set_option maxRecDepth 100000 in
set_option maxHeartbeats 4000000 in
theorem c161 {w : World} {p : Program} {loose : List Str} {mean : ExcName → Option Value} {mg mb : Str → Option Value}
    {dp un : Nat} {gd : Option (List Code)} {cn : Str} {cs : Scope} {a : Addr} {ccd : Value} {cl : List (Str × Addr)} {outer : List Env} {A₀ : Around} {base h₀ : Heap} {L : Addr} {m : Str → Option Value} {s : Shared} {Q E : Value → Shared → Prop} {row : Addr} {vs : List Value} {ns : List Int}
    (hr : s.heap.IsList row vs.toArray) (hi : IntsAre vs ns) (hlen : ns.length ≤ 8) (hoct : ∀ k ∈ ns, 0 ≤ k ∧ k < 256)
    (B : Below A₀ base outer h₀) (F : Fr h₀ L s.heap m) (X : (KK w.params).In h₀) (T : Top p loose mean mg mb h₀) (hk : cs.kind = .function) (hd : dp + 16 < recursionLimit) (hu : un + 200 < cLine)
    (hret : ∀ (h' : Heap) (tk' : Nat) (t' : Tok), s.heap.StaysIn h' → Q (.str ⟨(spl ns).toArray⟩ t') { s with heap := h', toks := tk' }) :
    wpAny (model PySem.Challenge.rw_mr0202_01.row.prog w) (ktrTop dp un gd cn cs L a ccd cl outer) (call (.ref 161) [.ref row]) Q E s := by
  revert X; k_fill; intro X
  refine wpAny_call ?_
  (k_dflt (refine' own_cells ?k1 ?k2 ?k3 ?k5 ?kA ?kF ?kK ?k6 ?k7 ?k8 ?k9 ?kB ?kD ?_ ?c2 ?c3 ?c4; (case kA => exact rfl); (case kF => exact rfl); (case kK => assumption); (case k1 => k_asm); (case k2 => k_asm); (case k3 => k_asm); (case k5 => k_asm); (case k6 => k_is); (case k7 => k_is); (case k8 => (show dp < _; omega)); (case k9 => exact BindsTo.of_eq rfl); (case kB => exact rfl); (case kD => decide +kernel); (case c2 => exact rfl); (case c3 => exact rfl); (case c4 => exact rfl); k_whole; intro L' h' tk' cells' F' N' Y' B' X' T'; k_cells Y'; (try simp only [List.cons_append, List.nil_append, List.append_nil] at N'); (try dsimp only); (try k_fold)))
  have hi9 : IntsAre vs ns := hi
  have hsz9 : vs.toArray.size ≤ sizeLine := by rw [List.size_toArray, hi.length, sizeLine_eq]; omega
  k_steps
  refine rest_of (fun i y => ∃ t k, ns[i]? = some k ∧ y = .str ⟨(sp3 k.toNat).toArray⟩ t) ?hS ?turn ?fin
  case hS => exact Or.inl (by assumption)
  case turn =>
    intro i v I oI C oC D ys m2 h7 tk7 E7 hin hP hC hx F7 N7
    obtain ⟨k, u, hk, rfl⟩ := int_at hi9 hP
    have hk0 := hoct k (List.mem_of_getElem? hk)
    (try k_sweep)
    k_steps
    exact TurnC.intro ⟨_, k, hk, congrArg (fun z => Value.str z _) (hex_val hk0)⟩ (by k_asm) (by k_asm)
  case fin =>
    intro ys hyl hys D7 h7 tk7 F7 N7 o7
    k_steps
    refine join_row N7 (by rw [hyl, List.size_toArray, hi9.length]) hlen hys fun t8 k8 => ?_
    k_steps
    all_goals ((try intro st); (show Q _ _); exact hret _ _ _ (by assumption))
end Mine
end
theorem Mine.freshLFirst : True := by k_with_none; w_top off; first | walk1 | trivial
-- LFirst
section
open PySem PySem.W PyProof.Rows PySem.Calls
set_option Elab.async false
namespace Mine
section
variable {prog : Program} {w : World} {A : Around} {h₀ : Heap} {L : Addr} {m : Str → Option Value} {env : Env} {elt : Expr} {x : Str} {scope : Scope} {cl : List (Str × Addr)} {s : Shared} {S : List (Addr × Obj) → Prop} {P : Nat → Value → Prop} {Fin : List Value → List (Addr × Obj) → Prop} {news : List (Addr × Obj)}
/-- what the first turn leaves: a value and another ledger -/
def FirstC (R : Nat → Value → Prop) (Nx : List (Addr × Obj) → Prop) (y : Value) (news' : List (Addr × Obj)) : Prop := R 0 y ∧ Nx news'
theorem rest_first {n : Nat} (R : Nat → Value → Prop) (Nx : List (Addr × Obj) → Prop)
    (hNx : ∀ news', Nx news' → S news')
    (first : ∀ v I oI C oC D m₂ h tk (E' : Value → Shared → Prop), P 0 v → LCg.NsObj oC m₂ → m₂ x = some v → Fr h₀ L h m → News h₀ L h ((I, oI) :: (C, oC) :: (D, LCg.lst []) :: news) → LCg.Off3 I C D news → ((@Ne Nat I C) ∧ (@Ne Nat I D) ∧ (@Ne Nat C D)) →
      wpAny (model prog w) A (eval elt (compEnvC scope cl C env)) (LCg.CompEnd h₀ L m { s with heap := h, toks := tk } I oI C oC D (LCg.lst []) S (FirstC R Nx)) E' { s with heap := h, toks := tk })
    (turn : ∀ news', Nx news' → ∀ i v I oI C oC D ys m₂ h tk (E' : Value → Shared → Prop), i < n + 1 → P i v → LCg.NsObj oC m₂ → m₂ x = some v → Fr h₀ L h m → News h₀ L h ((I, oI) :: (C, oC) :: (D, LCg.lst ys) :: news') →
      wpAny (model prog w) A (eval elt (compEnvC scope cl C env)) (TurnC h₀ L m ((I, oI) :: (C, oC) :: (D, LCg.lst ys) :: news') { s with heap := h, toks := tk } (R i)) E' { s with heap := h, toks := tk })
    (fin : ∀ news', Nx news' → ∀ ys, ys.length = n + 1 → (∀ i y, ys[i]? = some y → R i y) → Fin ys news') :
    LCg.CompRest prog w A h₀ L m env elt x scope cl s S P Fin (n + 1) 0 [] news := by
  intro v I oI C oC D m₂ h tk E' hP hC hx F N off ne
  refine wpAny_mono (first v I oI C oC D m₂ h tk E' hP hC hx F N off ne) (fun y s₂ q => ?_) fun _ _ e => e
  obtain ⟨h', tk', news', rfl, F', N', off', hS, ry, hn⟩ := q
  refine ⟨h', tk', news', rfl, F', N', off', hS, rest_go R (hNx _ hn) (turn news' hn) (fin news' hn) n 1 [y] (by omega) rfl ?_⟩
  intro j z hz
  have hj : j = 0 := by
    have := (List.getElem?_eq_some_iff.mp hz).1
    simp at this; omega
  subst hj
  have : y = z := Option.some.inj hz
  subst this
  exact ry
end
end Mine
end
theorem Mine.freshTLaw0 : True := by k_with_none; w_top off; first | walk1 | trivial
-- TLaw0
section
open PySem PySem.W PyProof.Rows PySem.Calls
set_option Elab.async false
namespace Mine
open Hd (KK)
theorem isl {h₀ h : Heap} {L l : Addr} {news : List (Addr × Obj)} {vs : List Value} {n : Nat} (N : News h₀ L h news) (hm : (l, W.listOf vs.toArray n) ∈ news) : h.IsList l vs.toArray := ⟨_, (N _ hm).1, rfl, _, rfl⟩
def StopHere (P : Prop) : Prop := P
theorem stop_here {P : Prop} (h : StopHere P) : P := h
theorem rows_ret {h₀ : Heap} {L : Addr} {m : Str → Option Value} {news : List (Addr × Obj)} {s : Shared} {Q : Value → Shared → Prop} (F : Fr h₀ L s.heap m) (N : News h₀ L s.heap news)
    (h : ∀ (h' : Heap) (tk' : Nat) (R : Addr) (rs : List (Addr × List Int)) (D : List (Addr × Obj)), RowsD D R rs → Fr h₀ L h' m → News h₀ L h' (news ++ D) → OwnOff D (news.map (·.1)) → Q (.ref R) { s with heap := h', toks := tk' }) :
    ∀ (h' : Heap) (tk' : Nat) (R : Addr) (rs : List (Addr × List Int)) (D : List (Addr × Obj)), RowsD D R rs → (∀ p ∈ D, h'.get? p.1 = some p.2 ∧ s.heap.get? p.1 = none) → s.heap.StaysIn h' → Q (.ref R) { s with heap := h', toks := tk' } := by
  intro h' tk' R rs D hr hD st
  refine h h' tk' R rs D hr (F.keeps st) (fun p hp => ?_) (fun p hp b hb e => ?_)
  · rcases List.mem_append.mp hp with hp | hp
    · exact (N.keeps st) p hp
    · refine ⟨(hD p hp).1, fun e => ?_, ?_⟩
      · obtain ⟨o, es, ep, ho, _⟩ := F.ns
        rw [← e, (hD p hp).2] at ho
        cases ho
      · cases hg : h₀.get? p.1 with
        | none => rfl
        | some o =>
          have := F.keep _ _ hg
          rw [(hD p hp).2] at this
          cases this
  · obtain ⟨q, hq, rfl⟩ := List.mem_map.mp hb
    have := (N q hq).1
    rw [← e, (hD p hp).2] at this
    cases this
theorem roomL : callerA.depth + 1 + 16 < recursionLimit := by decide +kernel
theorem unitsL : callerA.units + 3 + 200 < cLine := by decide +kernel
theorem size_rows {rs : List (Addr × List Int)} (h5 : rs.length ≤ 5) : (rs.map fun r => Value.ref r.1).toArray.size ≤ sizeLine := by
  rw [List.size_toArray, List.length_map, sizeLine_eq]; omega
theorem size_succ {rs : List (Addr × List Int)} (h3 : 3 ≤ rs.length) : ∃ k, (rs.map fun r => Value.ref r.1).toArray.size = k + 1 ∧ rs.length = k + 1 := by
  refine ⟨rs.length - 1, ?_, by omega⟩
  rw [List.size_toArray, List.length_map]; omega
theorem take8 {xs : List Int} : (List.take 8 xs).length ≤ 8 := List.length_take_le 8 xs
theorem c156L {w : World} {p : Program} {loose : List Str} {mean : ExcName → Option Value} {mg mb : Str → Option Value}
    {dp un : Nat} {gd : Option (List Code)} {cn : Str} {cs : Scope} {a : Addr} {ccd : Value} {cl : List (Str × Addr)} {outer : List Env} {A₀ : Around} {base h₀ : Heap} {L : Addr} {m : Str → Option Value} {s : Shared} {Q E : Value → Shared → Prop} {row : Addr} {vs : List Value} {ns : List Int} {news : List (Addr × Obj)}
    (hr : s.heap.IsList row vs.toArray) (hi : IntsAre vs ns) (hlen : ns.length ≤ 8)
    (B : Below A₀ base outer h₀) (F : Fr h₀ L s.heap m) (N : News h₀ L s.heap news) (X : (KK w.params).In h₀) (T : Top p loose mean mg mb h₀) (hk : cs.kind = .function) (hd : dp + 16 < recursionLimit) (hu : un + 200 < cLine)
    (h : ∀ (h' : Heap) (tk' : Nat) (R : Addr) (rs : List (Addr × List Int)) (D : List (Addr × Obj)), RowsD D R rs → Fr h₀ L h' m → News h₀ L h' (news ++ D) → OwnOff D (news.map (·.1)) → Q (.ref R) { s with heap := h', toks := tk' }) :
    wpAny (model PySem.Challenge.rw_mr0202_01.row.prog w) (ktrTop dp un gd cn cs L a ccd cl outer) (call (.ref 156) [.ref row]) Q E s :=
  c156 hr hi hlen B F X T hk hd hu (rows_ret F N h)
end Mine
end
theorem Mine.freshLS0 : True := by k_with_none; w_top off; first | walk1 | trivial
-- LS0
section
open PySem PySem.W PyProof.Rows PySem.Calls
set_option Elab.async false
set_option maxRecDepth 100000
namespace Mine
open Hd (KK)
/-- the law's scope and its eight statements, taken out of the given row -/
noncomputable def lawS : Scope := by
  refine (?f : Hd.dfn PySem.Challenge.pw_mr0202_01 36 = .FunctionDef ?n ?a ?b ?d ?r ?t ?s ?u ?v ?p → Scope) ?h
  case h => exact rfl
  case f => exact fun _ => ?s
noncomputable def st1 : Stmt := by
  refine (?f : Hd.dfn PySem.Challenge.pw_mr0202_01 36 = .FunctionDef ?n ?a [?b1, ?b2, ?b3, ?b4, ?b5, ?b6, ?b7, ?b8] ?d ?r ?t ?s ?u ?v ?p → Stmt) ?h
  case h => exact rfl
  case f => exact fun _ => ?b1
noncomputable def st2 : Stmt := by
  refine (?f : Hd.dfn PySem.Challenge.pw_mr0202_01 36 = .FunctionDef ?n ?a [?b1, ?b2, ?b3, ?b4, ?b5, ?b6, ?b7, ?b8] ?d ?r ?t ?s ?u ?v ?p → Stmt) ?h
  case h => exact rfl
  case f => exact fun _ => ?b2
noncomputable def st3 : Stmt := by
  refine (?f : Hd.dfn PySem.Challenge.pw_mr0202_01 36 = .FunctionDef ?n ?a [?b1, ?b2, ?b3, ?b4, ?b5, ?b6, ?b7, ?b8] ?d ?r ?t ?s ?u ?v ?p → Stmt) ?h
  case h => exact rfl
  case f => exact fun _ => ?b3
noncomputable def st4 : Stmt := by
  refine (?f : Hd.dfn PySem.Challenge.pw_mr0202_01 36 = .FunctionDef ?n ?a [?b1, ?b2, ?b3, ?b4, ?b5, ?b6, ?b7, ?b8] ?d ?r ?t ?s ?u ?v ?p → Stmt) ?h
  case h => exact rfl
  case f => exact fun _ => ?b4
noncomputable def st5 : Stmt := by
  refine (?f : Hd.dfn PySem.Challenge.pw_mr0202_01 36 = .FunctionDef ?n ?a [?b1, ?b2, ?b3, ?b4, ?b5, ?b6, ?b7, ?b8] ?d ?r ?t ?s ?u ?v ?p → Stmt) ?h
  case h => exact rfl
  case f => exact fun _ => ?b5
noncomputable def st6 : Stmt := by
  refine (?f : Hd.dfn PySem.Challenge.pw_mr0202_01 36 = .FunctionDef ?n ?a [?b1, ?b2, ?b3, ?b4, ?b5, ?b6, ?b7, ?b8] ?d ?r ?t ?s ?u ?v ?p → Stmt) ?h
  case h => exact rfl
  case f => exact fun _ => ?b6
noncomputable def st7 : Stmt := by
  refine (?f : Hd.dfn PySem.Challenge.pw_mr0202_01 36 = .FunctionDef ?n ?a [?b1, ?b2, ?b3, ?b4, ?b5, ?b6, ?b7, ?b8] ?d ?r ?t ?s ?u ?v ?p → Stmt) ?h
  case h => exact rfl
  case f => exact fun _ => ?b7
noncomputable def st8 : Stmt := by
  refine (?f : Hd.dfn PySem.Challenge.pw_mr0202_01 36 = .FunctionDef ?n ?a [?b1, ?b2, ?b3, ?b4, ?b5, ?b6, ?b7, ?b8] ?d ?r ?t ?s ?u ?v ?p → Stmt) ?h
  case h => exact rfl
  case f => exact fun _ => ?b8
noncomputable abbrev lawE (L fa : Addr) : Env := envOfC (Str.ofString "law") lawS L fa (.ref 170)
noncomputable abbrev lawA (L fa : Addr) : Around := callerA.deeper (lawE L fa)
theorem law_body : (match Hd.dfn PySem.Challenge.pw_mr0202_01 36 with | .FunctionDef _ _ b _ _ _ _ _ _ _ => b | _ => []) = [st1, st2, st3, st4, st5, st6, st7, st8] := rfl
/-- a cell of the law's frame -/
def cellO (v : Option Value) : Obj := { cls := .type "cell", data := .cell v }
end Mine
end
theorem Mine.freshLS1 : True := by k_with_none; w_top off; first | walk1 | trivial
-- LS1
section
open PySem PySem.W PyProof.Rows PySem.Calls
set_option Elab.async false
set_option maxRecDepth 100000
namespace Mine
open Hd (KK)
section
variable {M : Model} {A : Around} {E : Value → Shared → Prop} {s : Shared} {h₀ : Heap} {L c P : Addr} {m mg mb : Str → Option Value} {env : Env} {own rest : List (Addr × Obj)}
  {p : Program} {loose : List Str} {mean : ExcName → Option Value} {params : Arguments} {body : Expr} {scope : Scope} {ps : Array Value} {pos : Pos} {clos : List (Str × Addr)}
/-- a lambda made in any environment, its code made too: what stood stands, the table is grown -/
theorem lam_new {Q : Value → Shared → Prop} (F : Fr h₀ L s.heap m) (N : News h₀ L s.heap (own ++ (P, tabObj ps) :: rest)) (T : Top p loose mean mg mb h₀) (C : CodeHd h₀ c P) (hge : env.globals = mainGlobals) (hcd : env.code = .ref c) (ht : TriplesOk ps.toList) (hnf : codeAmong pos ps.toList = none)
    (hcl : closureFor scope env = pure clos) (hdef : defaultsOf params env = ([], [])) (h1 : ∀ q ∈ own, q.1 ≠ P) (h2 : ∀ q ∈ rest, q.1 ≠ P)
    (h : ∀ f c' oc vs t ctv h' tk, Fr h₀ L h' m →
      News h₀ L h' (own ++ (P, tabObj (ps ++ #[rawInt pos.line, rawInt pos.col, .ref c'])) :: (f, kla_obj "<lambda>" (env.qual ++ "<lambda>") params body scope clos ((mg "__name__").getD .none) c' ctv) :: (c', oc) :: rest) →
      oc.data = .fields vs → vs[1]? = some (.str (env.qual ++ "<lambda>") t) → s.heap.objs.size ≤ c' → s.heap.objs.size ≤ f → Q (.ref f) { s with heap := h', toks := tk }) :
    wpAny M A (eval (.Lambda params body scope pos) env) Q E s := by
  have hm := N (P, tabObj ps) (List.mem_append_right _ (.head _))
  have hgs := T.g.keeps F.keep
  obtain ⟨bm, ob, b1, b2, b3, b4, b5, b6⟩ := T.bmain
  have hgP : mainGlobals ≠ P := fun q => by
    obtain ⟨o, es, ep, e, hd, _⟩ := hgs
    rw [q, hm.1] at e; cases e; cases hd
  have hbP : bm ≠ P := fun q => by
    have e := F.keep _ _ b3
    rw [q, hm.1] at e; cases e; cases b4
  have hbG : bm ≠ mainGlobals := fun q => by
    obtain ⟨o, es, ep, e, hd, _⟩ := T.g
    rw [q, e] at b3; cases b3; rw [hd] at b6; cases b6
  refine kla_eval hdef (kla_makeFunction (mg := mg) hcl hge hgs hcd (C.keeps F.keep) hm.1 ht hnf hgP ⟨bm, ob, b1, b2, hbG, hbP, F.keep _ _ b3, b4, b5, b6⟩ fun c' ctv h' tk hx hge hlt hrec htb => ?_)
  obtain ⟨c₂, oc, vs, t, e2, hoc, hd, hv⟩ := hrec
  cases e2
  have hLs : L < s.heap.objs.size := F.ns.lt
  have hLc : L < c' := Nat.lt_of_lt_of_le hLs hge
  have old : ∀ b o, h₀.get? b = some o → h'.get? b = some o := fun b o e => hx b o (fun q => by rw [q, hm.2.2] at e; cases e) (F.keep b o e)
  have fresh : ∀ b, L < b → h₀.get? b = none := fun b hb => Heap.get?_none_of_le (Nat.le_trans F.above (Nat.le_of_lt hb))
  refine h h'.objs.size c' oc vs t ctv _ tk ⟨(F.ns.extBut hx hm.2.1.symm).push _, fun b o e => Heap.get?_push_of_some _ (old b o e), F.above⟩ (fun q hq => ?_) hd hv hge (Nat.le_of_lt (Nat.lt_of_le_of_lt hge hlt))
  rcases List.mem_append.mp hq with hq | hq
  · have n := N q (List.mem_append_left _ hq)
    exact ⟨Heap.get?_push_of_some _ (hx _ _ (h1 q hq) n.1), n.2⟩
  · rcases List.mem_cons.mp hq with rfl | hq
    · exact ⟨Heap.get?_push_of_some _ htb, hm.2⟩
    · rcases List.mem_cons.mp hq with rfl | hq
      · exact ⟨Heap.get?_push_size _ rfl, Nat.ne_of_gt (Nat.lt_trans hLc hlt), fresh _ (Nat.lt_trans hLc hlt)⟩
      · rcases List.mem_cons.mp hq with rfl | hq
        · exact ⟨Heap.get?_push_of_some _ hoc, Nat.ne_of_gt hLc, fresh _ hLc⟩
        · have n := N q (List.mem_append_right _ (.tail _ hq))
          exact ⟨Heap.get?_push_of_some _ (hx _ _ (h2 q hq) n.1), n.2⟩
theorem lam_hit {Q : Value → Shared → Prop} {c' : Addr} {news : List (Addr × Obj)} (F : Fr h₀ L s.heap m) (N : News h₀ L s.heap news) (T : Top p loose mean mg mb h₀) (C : CodeHd h₀ c P) (hge : env.globals = mainGlobals) (hcd : env.code = .ref c) (hmem : (P, tabObj ps) ∈ news) (ht : TriplesOk ps.toList)
    (hf : codeAmong pos ps.toList = some (.ref c')) (hcl : closureFor scope env = pure clos) (hdef : defaultsOf params env = ([], []))
    (h : ∀ f ctv h' tk, Fr h₀ L h' m → News h₀ L h' ((f, kla_obj "<lambda>" (env.qual ++ "<lambda>") params body scope clos ((mg "__name__").getD .none) c' ctv) :: news) → Q (.ref f) { s with heap := h', toks := tk }) :
    wpAny M A (eval (.Lambda params body scope pos) env) Q E s := by
  have hm := N (P, tabObj ps) hmem
  have hgs := T.g.keeps F.keep
  obtain ⟨bm, ob, b1, b2, b3, b4, b5, b6⟩ := T.bmain
  have hbP : bm ≠ P := fun q => by
    have e := F.keep _ _ b3
    rw [q, hm.1] at e; cases e; cases b4
  have hbG : bm ≠ mainGlobals := fun q => by
    obtain ⟨o, es, ep, e, hd, _⟩ := T.g
    rw [q, e] at b3; cases b3; rw [hd] at b6; cases b6
  refine kla_eval hdef (kla_makeFunctionHit (mg := mg) hcl hge hgs hcd (C.keeps F.keep) hm.1 ht hf ⟨bm, ob, b1, b2, hbG, hbP, F.keep _ _ b3, b4, b5, b6⟩ fun ctv h' tk hk hsz => ?_)
  have hLs : L < h'.objs.size := Nat.lt_of_lt_of_le F.ns.lt hsz
  have fresh : ∀ b, L < b → h₀.get? b = none := fun b hb => Heap.get?_none_of_le (Nat.le_trans F.above (Nat.le_of_lt hb))
  refine h h'.objs.size ctv _ tk ⟨(F.ns.keeps hk).push _, fun b o e => Heap.get?_push_of_some _ (hk b o (F.keep b o e)), F.above⟩ (fun q hq => ?_)
  rcases List.mem_cons.mp hq with rfl | hq
  · exact ⟨Heap.get?_push_size _ rfl, Nat.ne_of_gt hLs, fresh _ hLs⟩
  · exact ⟨Heap.get?_push_of_some _ (hk _ _ (N q hq).1), (N q hq).2⟩
end
end Mine
end
theorem Mine.freshLS2 : True := by k_with_none; w_top off; first | walk1 | trivial
-- LS2
section
open PySem PySem.W PyProof.Rows PySem.Calls
set_option Elab.async false
set_option maxRecDepth 100000
namespace Mine
open Hd (KK)
theorem off_own {L I C D0 : Addr} {oI oC o0 oS oD oP : Obj} {t1 t2 : Array Value} {D : List (Addr × Obj)} (off : LCg.Off3 I C D0 ((L + 1 + 1 + 1, oS) :: (L + 1 + 1, oD) :: (L + 1, oP) :: (135, tabObj t1) :: (168, tabObj t2) :: D)) (hL : @LT.lt Nat instLTNat 168 L) :
    ∀ q ∈ [(I, oI), (C, oC), (D0, o0), (L + 1 + 1 + 1, oS), (L + 1 + 1, oD), (L + 1, oP), (135, tabObj t1)], q.1 ≠ 168 := by
  have o8 := off.mem (168, tabObj t2) (by simp)
  intro q hq
  simp only [List.mem_cons, List.not_mem_nil, or_false] at hq
  rcases hq with rfl | rfl | rfl | rfl | rfl | rfl | rfl
  · exact o8.1.symm
  · exact o8.2.1.symm
  · exact o8.2.2.symm
  · exact (by omega : @Ne Nat (L + 1 + 1 + 1) 168)
  · exact (by omega : @Ne Nat (L + 1 + 1) 168)
  · exact (by omega : @Ne Nat (L + 1) 168)
  · exact (by decide : (135 : Nat) ≠ 168)
local macro_rules | `(tactic| walk_at "mem") => `(tactic| (repeat (first | exact List.mem_cons_self | assumption | apply List.mem_cons_of_mem)))
local macro_rules | `(tactic| walk_at "eval ListComp") => `(tactic| (k_here; k_dflt (refine LCg.ListComp_U (F₀ := by k_asm) (by with_unfolding_all rfl) (by decide) (by rfl) (by decide) (by rfl) ?_)))
local macro_rules | `(tactic| walk_at "CompSrc") => `(tactic| (k_here; refine stop_here ?_))
local macro_rules | `(tactic| walk_at "eval Lambda") => `(tactic| (k_here; refine stop_here ?_))
local macro_rules | `(tactic| walk_at "call ref") => `(tactic| (k_here; (with_reducible show wpAny _ _ (call (Value.ref 149) _) _ _ _); refine stop_here ?_))
/-- what the spelled list holds -/
def Spell (rs : List (Addr × List Int)) (i : Nat) (y : Value) : Prop := ∃ t r, rs[i]? = some r ∧ y = .str (tx r.2) t
def Nx1 (L : Addr) (oS oD oP : Obj) (t1 : Array Value) (D : List (Addr × Obj)) (news : List (Addr × Obj)) : Prop :=
  ∃ c' oc vs t, news = (L + 1 + 1 + 1, oS) :: (L + 1 + 1, oD) :: (L + 1, oP) :: (135, tabObj t1) :: (168, tabObj #[rawInt 143, rawInt 22, .ref c']) :: (c', oc) :: D ∧ oc.data = .fields vs ∧ vs[1]? = some (.str (Str.ofString "law.<locals>." ++ Str.ofString "<lambda>") t) ∧ OwnOff [(c', oc)] [L + 1 + 1 + 1, L + 1 + 1, L + 1, 135, 168]
theorem five_lt {h₀ h : Heap} {L c3 c2 c1 I C D0 : Addr} {oI oC o0 oS oD oP : Obj} {t1 t2 : Array Value} {D : List (Addr × Obj)} (N : News h₀ L h ((I, oI) :: (C, oC) :: (D0, o0) :: (c3, oS) :: (c2, oD) :: (c1, oP) :: (135, tabObj t1) :: (168, tabObj t2) :: D))
    (b : Addr) (hb : b ∈ [c3, c2, c1, 135, 168]) : b < h.objs.size := by
  simp only [List.mem_cons, List.not_mem_nil, or_false] at hb
  rcases hb with rfl | rfl | rfl | rfl | rfl
  · exact Heap.lt_size (N (b, oS) (by walk_at "mem")).1
  · exact Heap.lt_size (N (b, oD) (by walk_at "mem")).1
  · exact Heap.lt_size (N (b, oP) (by walk_at "mem")).1
  · exact Heap.lt_size (N (135, tabObj t1) (by walk_at "mem")).1
  · exact Heap.lt_size (N (168, tabObj t2) (by walk_at "mem")).1
theorem off3_c {I C D0 c3 c2 c1 c' : Addr} {oS oD oP oc : Obj} {t1 t2 t2' : Array Value} {D : List (Addr × Obj)} (off : LCg.Off3 I C D0 ((c3, oS) :: (c2, oD) :: (c1, oP) :: (135, tabObj t1) :: (168, tabObj t2) :: D)) (o : LCg.Off3 I C D0 [(c', oc)]) :
    LCg.Off3 I C D0 ((c3, oS) :: (c2, oD) :: (c1, oP) :: (135, tabObj t1) :: (168, tabObj t2') :: (c', oc) :: D) :=
  ⟨off.1, off.2.1, off.2.2.1, off.2.2.2.1, off.2.2.2.2.1, o.1, off.2.2.2.2.2⟩
theorem sub_f (a1 a2 a3 a4 a5 a6 a7 a8 f c : Addr × Obj) (D : List (Addr × Obj)) : ∀ p ∈ a1 :: a2 :: a3 :: a4 :: a5 :: a6 :: a7 :: a8 :: c :: D, p ∈ a1 :: a2 :: a3 :: a4 :: a5 :: a6 :: a7 :: a8 :: f :: c :: D := by
  intro p hp
  simp only [List.mem_cons] at hp ⊢
  rcases hp with h | h | h | h | h | h | h | h | h | h <;> simp [h]
theorem own_app {q : Addr × Obj} {D : List (Addr × Obj)} {l : List Addr} (h1 : OwnOff [q] l) (h2 : OwnOff D l) : OwnOff (q :: D) l := by
  intro p hp b hb
  rcases List.mem_cons.mp hp with rfl | hp
  · exact h1 p (by simp) b hb
  · exact h2 p hp b hb
theorem store3 {M : Model} {A : Around} {E : Value → Shared → Prop} {s : Shared} {h₀ : Heap} {L fa S : Addr} {m : Str → Option Value} {oS oD oP : Obj} {t1 t2 : Array Value} {D : List (Addr × Obj)} {v : Value} {v₀ : Option Value} {Q : Unit → Shared → Prop} {oL : Obj}
    (F : Fr h₀ L s.heap m) (N : News h₀ L s.heap ((S, oL) :: (L + 1 + 1 + 1, oS) :: (L + 1 + 1, oD) :: (L + 1, oP) :: (135, tabObj t1) :: (168, tabObj t2) :: D)) (hL : @LT.lt Nat instLTNat 168 L)
    (OD : OwnOff D [L + 1 + 1 + 1, L + 1 + 1, L + 1, 135, 168]) (o1 : LCg.Off1 S ((L + 1 + 1 + 1, oS) :: (L + 1 + 1, oD) :: (L + 1, oP) :: (135, tabObj t1) :: (168, tabObj t2) :: D)) (hd : oS.data = .cell v₀)
    (h : ∀ h' o', Fr h₀ L h' m → News h₀ L h' ((L + 1 + 1 + 1, o') :: (L + 1 + 1, oD) :: (L + 1, oP) :: (135, tabObj t1) :: (168, tabObj t2) :: (S, oL) :: D) → o'.data = .cell (some v) → OwnOff ((S, oL) :: D) [L + 1 + 1 + 1, L + 1 + 1, L + 1, 135, 168] → Q () { s with heap := h' }) :
    wpAny M A (storeName (lawE L fa) (Str.ofString "spelled") v) Q E s := by
  have N' : News h₀ L s.heap ((L + 1 + 1 + 1, oS) :: (L + 1 + 1, oD) :: (L + 1, oP) :: (135, tabObj t1) :: (168, tabObj t2) :: (S, oL) :: D) := fun p hp => N p (by
    simp only [List.mem_cons] at hp ⊢
    rcases hp with h | h | h | h | h | h | h <;> simp [h])
  have OD' : OwnOff ((S, oL) :: D) [L + 1 + 1 + 1, L + 1 + 1, L + 1, 135, 168] := by
    intro q hq b hb
    rcases List.mem_cons.mp hq with rfl | hq
    · simp only [List.mem_cons, List.not_mem_nil, or_false] at hb
      rcases hb with rfl | rfl | rfl | rfl | rfl
      · exact Ne.symm o1.1
      · exact Ne.symm o1.2.1
      · exact Ne.symm o1.2.2.1
      · exact Ne.symm o1.2.2.2.1
      · exact Ne.symm o1.2.2.2.2.1
    · exact OD q hq b hb
  refine storeX_C (c := L + 1 + 1 + 1) F N' rfl (UpdF.head fun p hp => ?_) hd (fun h' o' F' N'' hd' => h h' o' F' N'' hd' OD') rfl rfl
  simp only [List.mem_cons] at hp
  rcases hp with rfl | rfl | rfl | rfl | rfl | hp
  · exact (by omega : @Ne Nat (L + 1 + 1) (L + 1 + 1 + 1))
  · exact (by omega : @Ne Nat (L + 1) (L + 1 + 1 + 1))
  · exact (by omega : @Ne Nat 135 (L + 1 + 1 + 1))
  · exact (by omega : @Ne Nat 168 (L + 1 + 1 + 1))
  · exact Ne.symm o1.1
  · exact OD p hp _ (by simp)
set_option maxHeartbeats 8000000 in
theorem s2 {w : World} {p : Program} {loose : List Str} {mean : ExcName → Option Value} {mg mb : Str → Option Value} {h₀ : Heap} {L fa R : Addr} {m : Str → Option Value} {s : Shared} {Q : Flow → Shared → Prop} {E : Value → Shared → Prop} {oS oD oP : Obj} {D : List (Addr × Obj)} {rs : List (Addr × List Int)} {t1 : Array Value}
    (B : Below callerA h₀ [] h₀) (X : (KK w.params).In h₀) (T : Top p loose mean mg mb h₀) (C1 : CodeHd h₀ 139 135) (C2 : CodeHd h₀ 170 168)
    (F : Fr h₀ L s.heap m) (N : News h₀ L s.heap ((L + 1 + 1 + 1, oS) :: (L + 1 + 1, oD) :: (L + 1, oP) :: (135, tabObj t1) :: (168, tabObj #[]) :: D))
    (hS : oS.data = .cell none) (hD : oD.data = .cell (some (.ref R))) (hL : @LT.lt Nat instLTNat 168 L) (OD : OwnOff D [L + 1 + 1 + 1, L + 1 + 1, L + 1, 135, 168]) (hr : RowsD D R rs)
    (hret : ∀ h' tk' S c' oc vs t ys oS', Fr h₀ L h' m → News h₀ L h' ((L + 1 + 1 + 1, oS') :: (L + 1 + 1, oD) :: (L + 1, oP) :: (135, tabObj t1) :: (168, tabObj #[rawInt 143, rawInt 22, .ref c']) :: (S, LCg.lst ys) :: (c', oc) :: D) →
      oS'.data = .cell (some (.ref S)) → OwnOff ((S, LCg.lst ys) :: (c', oc) :: D) [L + 1 + 1 + 1, L + 1 + 1, L + 1, 135, 168] → oc.data = .fields vs → vs[1]? = some (.str (Str.ofString "law.<locals>." ++ Str.ofString "<lambda>") t) → ys.length = rs.length → (∀ i y, ys[i]? = some y → Spell rs i y) → Q .next { s with heap := h', toks := tk' }) :
    wpAny (model PySem.Challenge.rw_mr0202_01.row.prog w) (lawA L fa) (exec st2 (lawE L fa)) Q E s := by
  obtain ⟨⟨nR, hR⟩, hr3, hr5, hrows⟩ := id hr
  delta st2
  revert X; k_fill; intro X
  k_steps
  show LCg.CompSrc _ _ _ _ _ _ _ _ _ _ _ _ _ _
  refine' LCg.CompSrc.ledger ?za ?zb ?zc ?zd ?ze ?_
  case za => exact rfl
  case zb => k_asm
  case zc => k_asm
  case zd => exact List.mem_cons_of_mem _ (List.mem_cons_of_mem _ (List.mem_cons_of_mem _ (List.mem_cons_of_mem _ (List.mem_cons_of_mem _ hR))))
  case ze => exact size_rows hr5
  intro g'
  obtain ⟨n1, hn1, hn2⟩ := size_succ hr3
  rw [hn1]
  refine rest_first (Spell rs) (Nx1 L oS oD oP t1 D) ?_ ?first ?turn ?fin
  · rintro _ ⟨c', oc, vs, t, rfl, -, -, -⟩
    exact .inr ⟨_, List.mem_cons_of_mem _ (List.mem_cons_of_mem _ (List.mem_cons_of_mem _ (List.mem_cons_of_mem _ (List.mem_cons_of_mem _ (List.mem_cons_of_mem _ hR))))), rfl, _, rfl⟩
  case first =>
    intro v I oI C oC D0 m2 h7 tk7 E7 hP hC hx F7 N7 off ne
    (try k_sweep)
    k_steps
    have hr0 : ∃ r, rs[0]? = some r ∧ v = .ref r.1 := by
      have : rs.map (fun r => Value.ref r.1) = rs.map (fun r => Value.ref r.1) := rfl
      simp only [List.getElem?_toArray, List.getElem?_map, Option.map_eq_some_iff] at hP
      obtain ⟨r, h1, h2⟩ := hP
      exact ⟨r, h1, h2.symm⟩
    obtain ⟨r, hr0, rfl⟩ := hr0
    show wpAny _ _ (eval (Expr.Lambda _ _ _ _) _) _ _ _
    refine lam_new (own := [(I, oI), (C, oC), (D0, LCg.lst []), (L + 1 + 1 + 1, oS), (L + 1 + 1, oD), (L + 1, oP), (135, tabObj t1)]) (rest := D) (P := 168) (c := 170) F7 N7 T C2 rfl rfl trivial rfl rfl rfl ?h1 ?h2 ?_
    case h1 => exact off_own off hL
    case h2 => exact fun q hq => OD q hq 168 (by simp)
    intro f c' oc vs t ctv h8 tk8 F8 N8 d1 d2 g1 g2
    obtain ⟨vr, nr, hrD, hri, hrl, hro⟩ := hrows r (List.mem_of_getElem? hr0)
    show wpAny _ _ _ _ _ _
    (try simp only [List.cons_append, List.nil_append] at N8)
    have ho1 : OwnOff [(c', oc)] [L + 1 + 1 + 1, L + 1 + 1, L + 1, 135, 168] := by
      intro q hq b hb e
      rw [List.mem_singleton.mp hq] at e
      exact absurd e (Nat.ne_of_gt (Nat.lt_of_lt_of_le (five_lt N7 b hb) g1))
    have ho3 : LCg.Off3 I C D0 [(c', oc)] := ⟨⟨Nat.ne_of_gt (Nat.lt_of_lt_of_le (Heap.lt_size (N7 (I, oI) (by walk_at "mem")).1) g1), Nat.ne_of_gt (Nat.lt_of_lt_of_le (Heap.lt_size (N7 (C, oC) (by walk_at "mem")).1) g1), Nat.ne_of_gt (Nat.lt_of_lt_of_le (Heap.lt_size (N7 (D0, LCg.lst []) (by walk_at "mem")).1) g1)⟩, trivial⟩
    clear N7 F7 g1 g2
    k_steps
    show wpAny _ _ (call (Value.ref 149) _) _ _ _
    refine c149 (B := B) (F := F8) (X := X) (T := T) rfl (N8 (f, _) (by walk_at "mem")).1 (codeRec_news N8 (by walk_at "mem") d1 d2) (isl N8 (by walk_at "mem")) hri hrl hro rfl roomL unitsL ?_
    intro h9 tk9 t9 st9
    have F9 := F8.keeps st9
    have N9 := N8.keeps st9
    clear st9
    show qk _ _
    exact LCg.CompEnd.intro F9 N9 ((L + 1 + 1 + 1, oS) :: (L + 1 + 1, oD) :: (L + 1, oP) :: (135, tabObj t1) :: (168, tabObj #[rawInt 143, rawInt 22, .ref c']) :: (c', oc) :: D) (sub_f _ _ _ _ _ _ _ _ _ _ _)
      (off3_c off ho3) (.inr ⟨_, List.mem_cons_of_mem _ (List.mem_cons_of_mem _ (List.mem_cons_of_mem _ (List.mem_cons_of_mem _ (List.mem_cons_of_mem _ (List.mem_cons_of_mem _ hR))))), rfl, _, rfl⟩)
      ⟨⟨_, r, hr0, rfl⟩, c', oc, vs, t, rfl, d1, d2, ho1⟩
  case turn =>
    rintro _ ⟨c', oc, vs, t, rfl, d1, d2, ho1⟩ i v I oI C oC D0 ys m2 h7 tk7 E7 hi hP hC hx F7 N7
    have hr0 : ∃ r, rs[i]? = some r ∧ v = .ref r.1 := by
      simp only [List.getElem?_toArray, List.getElem?_map, Option.map_eq_some_iff] at hP
      obtain ⟨r, h1, h2⟩ := hP
      exact ⟨r, h1, h2.symm⟩
    obtain ⟨r, hr0, rfl⟩ := hr0
    obtain ⟨vr, nr, hrD, hri, hrl, hro⟩ := hrows r (List.mem_of_getElem? hr0)
    have off : True := trivial
    (try k_sweep)
    k_steps
    show wpAny _ _ (eval (Expr.Lambda _ _ _ _) _) _ _ _
    refine lam_hit (P := 168) (c := 170) F7 N7 T C2 rfl rfl (by walk_at "mem") (by exact True.intro) (by rfl) rfl rfl ?_
    intro f ctv h8 tk8 F8 N8
    show wpAny _ _ _ _ _ _
    clear N7 F7
    k_steps
    show wpAny _ _ (call (Value.ref 149) _) _ _ _
    refine c149 (B := B) (F := F8) (X := X) (T := T) rfl (N8 (f, _) (by walk_at "mem")).1 (codeRec_news N8 (by walk_at "mem") d1 d2) (isl N8 (by walk_at "mem")) hri hrl hro rfl roomL unitsL ?_
    intro h9 tk9 t9 st9
    have F9 := F8.keeps st9
    have N9 := N8.keeps st9
    clear st9
    show qk _ _
    exact TurnC.intro ⟨_, r, hr0, rfl⟩ F9 (fun p hp => N9 p (.tail _ hp))
  case fin =>
    rintro _ ⟨c', oc, vs, t, rfl, d1, d2, ho1⟩ ys hlen hys S h7 tk7 F7 N7 o1
    show wpAny _ _ _ _ _ _
    refine store3 F7 N7 hL (own_app ho1 OD) o1 hS fun h' o' F' N' hd' OD' => ?_
    exact hret _ _ _ _ _ _ _ _ _ F' N' hd' OD' d1 d2 (hlen.trans hn2.symm) hys
end Mine
end
theorem Mine.freshLS3 : True := by k_with_none; w_top off; first | walk1 | trivial
-- LS3
section
open PySem PySem.W PyProof.Rows PySem.Calls
set_option Elab.async false
set_option maxRecDepth 100000
namespace Mine
open Hd (KK)
open PySem.SeqAt
/-- the law's ledger: three cells, two tables, the rest -/
def Five (L : Addr) (oS oD oP : Obj) (t1 t2 : Array Value) (D : List (Addr × Obj)) : List (Addr × Obj) := (L + 1 + 1 + 1, oS) :: (L + 1 + 1, oD) :: (L + 1, oP) :: (135, tabObj t1) :: (168, tabObj t2) :: D
def Off5 (L : Addr) (D : List (Addr × Obj)) : Prop := OwnOff D [L + 1 + 1 + 1, L + 1 + 1, L + 1, 135, 168]
/-- the spelled list stands in a ledger -/
def SpellD (D : List (Addr × Obj)) (S : Addr) (rs : List (Addr × List Int)) (ys : List Value) : Prop := (S, LCg.lst ys) ∈ D ∧ ys.length = rs.length ∧ ∀ i y, ys[i]? = some y → Spell rs i y
def txts (rs : List (Addr × List Int)) : List PyData := rs.map fun r => PyData.str (tx r.2)
def rowds (rs : List (Addr × List Int)) : List PyData := rs.map fun r => PyData.list (r.2.map PyData.int)
theorem hexd_ok (n : Nat) (h : n < 16) : hexd n < 0x110000 := by unfold hexd; split <;> omega
theorem spl_ok : ∀ (ns : List Int), Oct ns → ∀ c ∈ spl ns, c < 0x110000 := by
  intro ns ho c hc
  unfold spl at hc
  obtain ⟨k, hk, hc⟩ := List.mem_flatMap.mp hc
  have hk0 := ho k hk
  unfold sp3 at hc
  simp only [List.mem_cons, List.not_mem_nil, or_false] at hc
  rcases hc with rfl | rfl | rfl
  · decide
  · exact hexd_ok _ (by omega)
  · exact hexd_ok _ (by omega)
theorem tx_ok {ns : List Int} (h : Oct ns) : PyData.strOk (tx ns) = true := by
  unfold PyData.strOk
  rw [Array.all_eq_true']
  intro c hc
  exact decide_eq_true (spl_ok ns h c (by simpa [tx] using hc))
theorem txts_lay : ∀ (rs : List (Addr × List Int)), (∀ r ∈ rs, Oct r.2) → PyData.canLayAll0 (txts rs) = true ∧ PyData.depthAll (txts rs) = 0
  | [], _ => ⟨rfl, rfl⟩
  | r :: rs, h => by
    have ih := txts_lay rs fun q hq => h q (List.mem_cons_of_mem _ hq)
    refine ⟨?_, ?_⟩
    · show (PyData.strOk (tx r.2) && PyData.canLayAll0 (txts rs)) = true
      rw [tx_ok (h r List.mem_cons_self), ih.1]; rfl
    · show max 0 (PyData.depthAll (txts rs)) = 0
      rw [ih.2]; rfl
theorem txts_shaped {rs : List (Addr × List Int)} (h : ∀ r ∈ rs, Oct r.2) : shaped (.list (txts rs)) = true := by
  have z := txts_lay rs h
  unfold shaped
  refine Bool.and_eq_true_iff.mpr ⟨z.1, decide_eq_true ?_⟩
  show PyData.depthAll (txts rs) + 1 ≤ 64
  rw [z.2]; decide
theorem txts_eqv {rs : List (Addr × List Int)} (h : ∀ r ∈ rs, Oct r.2) : PyData.eqv (.list (txts rs)) (.list (txts rs)) = true := eqv_refl _ (txts_lay rs h).1
theorem reads_txts {h : Heap} : ∀ (ys : List Value) (rs : List (Addr × List Int)), ys.length = rs.length → (∀ i y, ys[i]? = some y → Spell rs i y) → ReadsAll h ys (txts rs) []
  | [], [], _, _ => .nil
  | [], _ :: _, h, _ => by simp at h
  | _ :: _, [], h, _ => by simp at h
  | y :: ys, r :: rs, h, hy => by
    obtain ⟨t, k, hk, rfl⟩ := hy 0 y rfl
    have : r = k := Option.some.inj hk
    subst this
    exact readsAll_cons_val (.str _ _) (reads_txts ys rs (by simpa using h) fun i z hz => by
      obtain ⟨t, k, hk, e⟩ := hy (i + 1) z (by simpa using hz)
      exact ⟨t, k, by simpa using hk, e⟩)
theorem RowsD.oct {D : List (Addr × Obj)} {R : Addr} {rs : List (Addr × List Int)} (h : RowsD D R rs) : ∀ r ∈ rs, Oct r.2 := fun r hr => by
  obtain ⟨_, _, _, _, _, ho⟩ := h.2.2.2 r hr
  exact ho
theorem reads_spelled {h₀ h : Heap} {L S : Addr} {D news : List (Addr × Obj)} {rs : List (Addr × List Int)} {ys : List Value} (N : News h₀ L h news) (hs : SpellD D S rs ys) (sub : ∀ p ∈ D, p ∈ news) : Reads h (.ref S) (.list (txts rs)) [S] :=
  reads_list_at (N _ (sub _ hs.1)).1 rfl rfl (by simpa using reads_txts ys rs hs.2.1 hs.2.2)
theorem lawUnits (L fa : Addr) : (lawA L fa).units + 64 < cLine := by
  show callerA.units + 3 + 64 < cLine
  decide +kernel
local macro_rules | `(tactic| walk_at "mem") => `(tactic| (repeat (first | exact List.mem_cons_self | assumption | apply List.mem_cons_of_mem)))
local macro_rules | `(tactic| walk_at "eval ListComp") => `(tactic| (k_here; k_dflt (refine LCg.ListComp_U (F₀ := by k_asm) (by with_unfolding_all rfl) (by decide) (by rfl) (by decide) (by rfl) ?_)))
local macro_rules | `(tactic| walk_at "CompSrc") => `(tactic| (k_here; refine stop_here ?_))
local macro_rules | `(tactic| walk_at "call ref") => `(tactic| (k_here; (with_reducible show wpAny _ _ (call (Value.ref 161) _) _ _ _); refine stop_here ?_))
local macro_rules | `(tactic| walk_at "compareOp NotEq ref ref") => `(tactic| (k_here; refine stop_here ?_))
set_option maxHeartbeats 8000000 in
theorem s3 {w : World} {p : Program} {loose : List Str} {mean : ExcName → Option Value} {mg mb : Str → Option Value} {h₀ : Heap} {L fa R S : Addr} {m : Str → Option Value} {s : Shared} {Q : Flow → Shared → Prop} {E : Value → Shared → Prop} {oS oD oP : Obj} {D : List (Addr × Obj)} {rs : List (Addr × List Int)} {t1 t2 : Array Value} {ys : List Value}
    (B : Below callerA h₀ [] h₀) (X : (KK w.params).In h₀) (T : Top p loose mean mg mb h₀)
    (F : Fr h₀ L s.heap m) (N : News h₀ L s.heap (Five L oS oD oP t1 t2 D))
    (hS : oS.data = .cell (some (.ref S))) (hD : oD.data = .cell (some (.ref R))) (hr : RowsD D R rs) (hs : SpellD D S rs ys)
    (hret : ∀ h' tk', Fr h₀ L h' m → News h₀ L h' (Five L oS oD oP t1 t2 D) → Q .next { s with heap := h', toks := tk' }) :
    wpAny (model PySem.Challenge.rw_mr0202_01.row.prog w) (lawA L fa) (exec st3 (lawE L fa)) Q E s := by
  have hoc := hr.oct
  obtain ⟨⟨nR, hR⟩, hr3, hr5, hrows⟩ := id hr
  delta st3
  unfold Five at N
  revert X; k_fill; intro X
  k_steps
  show LCg.CompSrc _ _ _ _ _ _ _ _ _ _ _ _ _ _
  refine' LCg.CompSrc.ledger ?za ?zb ?zc ?zd ?ze ?_
  case za => exact rfl
  case zb => k_asm
  case zc => k_asm
  case zd => exact List.mem_cons_of_mem _ (List.mem_cons_of_mem _ (List.mem_cons_of_mem _ (List.mem_cons_of_mem _ (List.mem_cons_of_mem _ hR))))
  case ze => exact size_rows hr5
  intro g'
  refine rest_of (Spell rs) (.inr ⟨_, List.mem_cons_of_mem _ (List.mem_cons_of_mem _ (List.mem_cons_of_mem _ (List.mem_cons_of_mem _ (List.mem_cons_of_mem _ hR)))), rfl, _, rfl⟩) ?turn ?fin
  case turn =>
    intro i v I oI C oC D0 ys m2 h7 tk7 E7 hi hP hC hx F7 N7
    have hr0 : ∃ r, rs[i]? = some r ∧ v = .ref r.1 := by
      simp only [List.getElem?_toArray, List.getElem?_map, Option.map_eq_some_iff] at hP
      obtain ⟨r, h1, h2⟩ := hP
      exact ⟨r, h1, h2.symm⟩
    obtain ⟨r, hr0, rfl⟩ := hr0
    obtain ⟨vr, nr, hrD, hri, hrl, hro⟩ := hrows r (List.mem_of_getElem? hr0)
    (try k_sweep)
    k_steps
    show wpAny _ _ (call (Value.ref 161) _) _ _ _
    refine c161 (B := B) (F := F7) (X := X) (T := T) (isl N7 (by walk_at "mem")) hri hrl hro rfl roomL unitsL ?_
    intro h9 tk9 t9 st9
    exact TurnC.intro ⟨_, r, hr0, rfl⟩ (F7.keeps st9) (N7.keeps st9)
  case fin =>
    intro zs hlen hzs S7 h7 tk7 F7 N7 o1
    show wpAny _ _ _ _ _ _
    k_steps
    show wpAny _ _ (compareOp CmpOp.NotEq _ _) _ _ _
    have hq : (!PyData.eqv (.list (txts rs)) (.list (txts rs))) = false := by rw [txts_eqv hoc]; rfl
    refine ne_dataH (reads_spelled N7 hs (fun p hp => by walk_at "mem")) (reads_list_at (N7 _ List.mem_cons_self).1 rfl rfl (by simpa using reads_txts zs rs (by simpa using hlen) hzs)) (txts_shaped hoc) (txts_shaped hoc) (lawUnits L fa) ?_
    rw [hq]
    k_steps
    exact hret h7 tk7 F7 fun p hp => N7 p (.tail _ hp)
end Mine
end
theorem Mine.freshLS5 : True := by k_with_none; w_top off; first | walk1 | trivial
-- LS5
section
open PySem PySem.W PyProof.Rows PySem.Calls
set_option Elab.async false
set_option maxRecDepth 100000
namespace Mine
open Hd (KK)
open PySem.SeqAt
theorem updF_mid {c : Addr} {o : Obj} {post : List (Addr × Obj)} (h2 : ∀ q ∈ post, q.1 ≠ c) : ∀ pre : List (Addr × Obj), (∀ q ∈ pre, q.1 ≠ c) → UpdF c o (pre ++ (c, o) :: post) (fun o' => pre ++ (c, o') :: post)
  | [], _ => UpdF.head h2
  | q :: pre, h1 => UpdF.tail (h1 q List.mem_cons_self) (updF_mid h2 pre fun z hz => h1 z (List.mem_cons_of_mem _ hz))
/-- the five are apart -/
theorem five_apart {L : Addr} (hL : @LT.lt Nat instLTNat 168 L) : [L + 1 + 1 + 1, L + 1 + 1, L + 1, 135, 168].Pairwise (@Ne Nat) := by
  simp only [List.pairwise_cons, List.mem_cons, List.not_mem_nil, or_false, List.Pairwise.nil, and_true, forall_eq_or_imp, forall_eq, false_implies, implies_true]
  omega
theorem five_or {L : Addr} {q : Addr × Obj} {oS oD oP : Obj} {t1 t2 : Array Value} {D : List (Addr × Obj)} (hq : q ∈ Five L oS oD oP t1 t2 D) : q = (L + 1 + 1 + 1, oS) ∨ q = (L + 1 + 1, oD) ∨ q = (L + 1, oP) ∨ q = (135, tabObj t1) ∨ q = (168, tabObj t2) ∨ q ∈ D := by
  unfold Five at hq
  simpa only [List.mem_cons] using hq
section
variable {M : Model} {A : Around} {E : Value → Shared → Prop} {s : Shared} {h₀ : Heap} {L fa : Addr} {m : Str → Option Value} {oS oD oP : Obj} {t1 t2 : Array Value} {D : List (Addr × Obj)} {v : Value} {v₀ : Option Value} {Q : Unit → Shared → Prop}
theorem store_places (F : Fr h₀ L s.heap m) (N : News h₀ L s.heap (Five L oS oD oP t1 t2 D)) (hL : @LT.lt Nat instLTNat 168 L) (OD : Off5 L D) (hd : oP.data = .cell v₀)
    (h : ∀ h' o', Fr h₀ L h' m → News h₀ L h' (Five L oS oD o' t1 t2 D) → o'.data = .cell (some v) → Q () { s with heap := h' }) : wpAny M A (storeName (lawE L fa) (Str.ofString "places") v) Q E s := by
  refine storeX_C (c := L + 1) F N rfl (updF_mid (pre := [(L + 1 + 1 + 1, oS), (L + 1 + 1, oD)]) (post := (135, tabObj t1) :: (168, tabObj t2) :: D) ?_ ?_) hd (fun h' o' F' N'' hd' => h h' o' F' N'' hd') rfl rfl
  · intro q hq
    simp only [List.mem_cons] at hq
    rcases hq with rfl | rfl | hq
    · exact (by omega : @Ne Nat 135 (L + 1))
    · exact (by omega : @Ne Nat 168 (L + 1))
    · exact OD q hq _ (by simp)
  · intro q hq
    simp only [List.mem_cons, List.not_mem_nil, or_false] at hq
    rcases hq with rfl | rfl
    · exact (by omega : @Ne Nat (L + 1 + 1 + 1) (L + 1))
    · exact (by omega : @Ne Nat (L + 1 + 1) (L + 1))
theorem store_drawn (F : Fr h₀ L s.heap m) (N : News h₀ L s.heap (Five L oS oD oP t1 t2 D)) (hL : @LT.lt Nat instLTNat 168 L) (OD : Off5 L D) (hd : oD.data = .cell v₀)
    (h : ∀ h' o', Fr h₀ L h' m → News h₀ L h' (Five L oS o' oP t1 t2 D) → o'.data = .cell (some v) → Q () { s with heap := h' }) : wpAny M A (storeName (lawE L fa) (Str.ofString "drawn") v) Q E s := by
  refine storeX_C (c := L + 1 + 1) F N rfl (updF_mid (pre := [(L + 1 + 1 + 1, oS)]) (post := (L + 1, oP) :: (135, tabObj t1) :: (168, tabObj t2) :: D) ?_ ?_) hd (fun h' o' F' N'' hd' => h h' o' F' N'' hd') rfl rfl
  · intro q hq
    simp only [List.mem_cons] at hq
    rcases hq with rfl | rfl | rfl | hq
    · exact (by omega : @Ne Nat (L + 1) (L + 1 + 1))
    · exact (by omega : @Ne Nat 135 (L + 1 + 1))
    · exact (by omega : @Ne Nat 168 (L + 1 + 1))
    · exact OD q hq _ (by simp)
  · intro q hq
    simp only [List.mem_cons, List.not_mem_nil, or_false] at hq
    subst hq
    exact (by omega : @Ne Nat (L + 1 + 1 + 1) (L + 1 + 1))
/-- what is new is off the five -/
theorem off5_new {h : Heap} {a : Addr} {o : Obj} (N : News h₀ L h (Five L oS oD oP t1 t2 D)) (ha : h.objs.size ≤ a) : Off5 L [(a, o)] := by
  intro q hq b hb e
  rw [List.mem_singleton.mp hq] at e
  have hlt : b < h.objs.size := by
    simp only [List.mem_cons, List.not_mem_nil, or_false] at hb
    rcases hb with rfl | rfl | rfl | rfl | rfl
    · exact Heap.lt_size (N (L + 1 + 1 + 1, oS) (by simp [Five])).1
    · exact Heap.lt_size (N (L + 1 + 1, oD) (by simp [Five])).1
    · exact Heap.lt_size (N (L + 1, oP) (by simp [Five])).1
    · exact Heap.lt_size (N (135, tabObj t1) (by simp [Five])).1
    · exact Heap.lt_size (N (168, tabObj t2) (by simp [Five])).1
  have e' : a = b := e
  subst e'
  exact absurd hlt (Nat.not_lt.mpr ha)
end
def rangeO (n : Int) (t u v : Tok) : Obj := { cls := .type "range", data := .fields #[.int 0 t, .int n u, .int 1 v] }
theorem rows_mono {D D' : List (Addr × Obj)} {R : Addr} {rs : List (Addr × List Int)} (h : RowsD D R rs) (sub : ∀ p ∈ D, p ∈ D') : RowsD D' R rs :=
  ⟨⟨h.1.choose, sub _ h.1.choose_spec⟩, h.2.1, h.2.2.1, fun r hr => by obtain ⟨vs, n, h1, h2⟩ := h.2.2.2 r hr; exact ⟨vs, n, sub _ h1, h2⟩⟩
local macro_rules | `(tactic| walk_at "call ref") => `(tactic| (k_here; (with_reducible show wpAny _ _ (call (Value.ref 156) _) _ _ _); refine stop_here ?_))
local macro_rules | `(tactic| walk_at "storeName") => `(tactic| (k_here; refine stop_here ?_))
local macro_rules | `(tactic| walk_at "call type:range") => `(tactic| (k_here; refine stop_here ?_))
local macro_rules | `(tactic| walk_at "eval Name") => `(tactic| (k_here; k_dflt (refine' nameX_L ?F ?v ?_ ?a ?b; (case F => k_asm); (case a => rfl); (case b => rfl); (case v => assumption); k_whole)))
set_option maxHeartbeats 8000000 in
theorem s1 {w : World} {p : Program} {loose : List Str} {mean : ExcName → Option Value} {mg mb : Str → Option Value} {h₀ : Heap} {L fa a : Addr} {m : Str → Option Value} {s : Shared} {Q : Flow → Shared → Prop} {E : Value → Shared → Prop} {oS oD oP : Obj} {vs : List Value} {ns : List Int} {t1 t2 : Array Value}
    (B : Below callerA h₀ [] h₀) (X : (KK w.params).In h₀) (T : Top p loose mean mg mb h₀) (hl : h₀.IsList a vs.toArray) (hi : IntsAre vs ns) (h63 : ns.length ≤ 63)
    (F : Fr h₀ L s.heap m) (N : News h₀ L s.heap (Five L oS oD oP t1 t2 [])) (hm : m (Str.ofString "script") = some (.ref a)) (hD : oD.data = .cell none) (hL : @LT.lt Nat instLTNat 168 L)
    (hret : ∀ h' tk' oD' D R rs, Fr h₀ L h' m → News h₀ L h' (Five L oS oD' oP t1 t2 D) → oD'.data = .cell (some (.ref R)) → RowsD D R rs → Off5 L D → Q .next { s with heap := h', toks := tk' }) :
    wpAny (model PySem.Challenge.rw_mr0202_01.row.prog w) (lawA L fa) (exec st1 (lawE L fa)) Q E s := by
  delta st1
  unfold Five at N
  revert X; k_fill; intro X
  k_steps
  rename_i D' ws' h' F' N' hI' hC' hL' l1'
  show wpAny _ _ (call (Value.ref 156) _) _ _ _
  have hl9 : (h'.IsList D' ws'.toArray) := isl N' List.mem_cons_self
  refine c156L (B := B) (F := F') (N := fun p hp => N' p (List.mem_cons_of_mem _ hp)) (X := X) (T := T) hl9 hI' take8 rfl roomL unitsL ?_
  intro h8 tk8 R rs D hr F8 N8 OD
  have N9 : News h₀ L h8 (Five L oS oD oP t1 t2 D) := by
    intro p hp
    exact N8 p (by simpa [Five] using hp)
  show wpAny _ _ (storeName _ _ _) _ _ _
  refine store_drawn F8 N9 hL (by simpa [Off5] using OD) hD fun h' o' F' N' hd' => ?_
  exact hret _ _ _ _ _ _ F' N' hd' hr (by simpa [Off5] using OD)
set_option maxHeartbeats 8000000 in
theorem s5 {w : World} {p : Program} {loose : List Str} {mean : ExcName → Option Value} {mg mb : Str → Option Value} {h₀ : Heap} {L fa R : Addr} {m : Str → Option Value} {s : Shared} {Q : Flow → Shared → Prop} {E : Value → Shared → Prop} {oS oD oP : Obj} {D : List (Addr × Obj)} {rs : List (Addr × List Int)} {t1 t2 : Array Value}
    (B : Below callerA h₀ [] h₀) (X : (KK w.params).In h₀) (T : Top p loose mean mg mb h₀)
    (F : Fr h₀ L s.heap m) (N : News h₀ L s.heap (Five L oS oD oP t1 t2 D)) (hL : @LT.lt Nat instLTNat 168 L)
    (hD : oD.data = .cell (some (.ref R))) (hP : oP.data = .cell none) (hr : RowsD D R rs) (OD : Off5 L D)
    (hret : ∀ h' tk' oP' P t u v, Fr h₀ L h' m → News h₀ L h' (Five L oS oD oP' t1 t2 ((P, rangeO rs.length t u v) :: D)) → oP'.data = .cell (some (.ref P)) → Off5 L ((P, rangeO rs.length t u v) :: D) → Q .next { s with heap := h', toks := tk' }) :
    wpAny (model PySem.Challenge.rw_mr0202_01.row.prog w) (lawA L fa) (exec st5 (lawE L fa)) Q E s := by
  obtain ⟨⟨nR, hR⟩, hr3, hr5, hrows⟩ := id hr
  have N5 := N
  delta st5
  unfold Five at N
  revert X; k_fill; intro X
  k_steps
  have hlen : ((List.map (fun r => Value.ref r.1) rs).toArray.size : Int) = (rs.length : Int) := by simp
  refine call_len_list (isl N5 (show _ ∈ Five L oS oD oP t1 t2 D from List.mem_cons_of_mem _ (List.mem_cons_of_mem _ (List.mem_cons_of_mem _ (List.mem_cons_of_mem _ (List.mem_cons_of_mem _ hR)))))) (by rw [hlen]; omega) ?_
  rw [hlen]
  k_steps
  show wpAny _ _ (call (Value.type "range") _) _ _ _
  refine call_range_1 ?_
  have hup : ∀ (o : Obj) b ob, s.heap.get? b = some ob → (s.heap.push o).get? b = some ob := fun o b ob e => Heap.get?_push_of_some _ e
  have hr1 : s.heap.objs.size ≤ s.heap.objs.size := Nat.le_refl _
  refine store_places (oS := oS) (oD := oD) (t1 := t1) (t2 := t2) (D := (s.heap.objs.size, rangeO rs.length (s.toks + 1 + 1) (s.toks + 1) (s.toks + 1 + 1 + 1)) :: D) (F.keeps (hup _)) ?_ hL (own_app (off5_new N5 hr1) OD) hP fun h' o' F' N' hd' => ?_
  · intro q hq
    rcases five_or hq with rfl | rfl | rfl | rfl | rfl | hq
    · have z := N5 (L + 1 + 1 + 1, oS) (by simp [Five]); exact ⟨hup _ _ _ z.1, z.2⟩
    · have z := N5 (L + 1 + 1, oD) (by simp [Five]); exact ⟨hup _ _ _ z.1, z.2⟩
    · have z := N5 (L + 1, oP) (by simp [Five]); exact ⟨hup _ _ _ z.1, z.2⟩
    · have z := N5 (135, tabObj t1) (by simp [Five]); exact ⟨hup _ _ _ z.1, z.2⟩
    · have z := N5 (168, tabObj t2) (by simp [Five]); exact ⟨hup _ _ _ z.1, z.2⟩
    · rcases List.mem_cons.mp hq with rfl | hq
      · exact ⟨Heap.get?_push_size _ rfl, Nat.ne_of_gt F.ns.lt, next_is_new F⟩
      · have z := N5 q (by simp [Five, hq]); exact ⟨hup _ _ _ z.1, z.2⟩
  · exact hret _ _ _ _ _ _ _ F' N' hd' (own_app (off5_new N5 hr1) OD)
end Mine
end
theorem Mine.freshLS6a : True := by k_with_none; w_top off; first | walk1 | trivial
-- LS6a
section
open PySem PySem.W PyProof.Rows PySem.Calls
set_option Elab.async false
set_option maxRecDepth 100000
namespace Mine
theorem compTurn_two0 (elt t0 i0 t1 i1 : Expr) (ifs : List Expr) (scope : Scope) (pos : Pos) (it acc : Value) (env : Env) :
    compTurn (.ListComp elt [⟨t0, i0, [], 0⟩, ⟨t1, i1, ifs, 0⟩] scope pos) 0 it acc env = (do
      standAt i0.pos
      match ← pyNext it with
      | none => pure (.done .next)
      | some v =>
        letOwnedTupleGo t0 it v
        assign t0 env v
        let x ← eval i1 env
        standAt i1.pos
        let x ← foldedSetIterable i1 env x
        let _ ← runOwn (.compStart (.ListComp elt [⟨t0, i0, [], 0⟩, ⟨t1, i1, ifs, 0⟩] scope pos) 1 (← holding [x] (pyIter x)) acc env) env
        again (.compLoop (.ListComp elt [⟨t0, i0, [], 0⟩, ⟨t1, i1, ifs, 0⟩] scope pos) 0 it acc env)) := by rfl
theorem compTurn_two1 (elt t0 i0 t1 i1 : Expr) (ifs : List Expr) (scope : Scope) (pos : Pos) (it acc : Value) (env : Env) :
    compTurn (.ListComp elt [⟨t0, i0, [], 0⟩, ⟨t1, i1, ifs, 0⟩] scope pos) 1 it acc env = (do
      standAt i1.pos
      match ← pyNext it with
      | none => pure (.done .next)
      | some v =>
        letOwnedTupleGo t1 it v
        assign t1 env v
        let mut ok := true
        for c in ifs do
          if ok then ok ← isTrue c env (eval c env)
        if ok then
          (do let _ ← call (.builtin "list.append") [acc, ← eval elt env])
        again (.compLoop (.ListComp elt [⟨t0, i0, [], 0⟩, ⟨t1, i1, ifs, 0⟩] scope pos) 1 it acc env)) := by rfl
section
variable {prog : Program} {w : World} {A : Around} {E : Value → Shared → Prop} {R : Result → Shared → Prop} {s : Shared}
/-- the second generator's loop, where the test is never true -/
theorem loop_two1 {elt t0 i0 t1 i1 c : Expr} {scope : Scope} {pos : Pos} {it acc : Value} {env : Env} (I : Nat → Shared → Prop)
    (turn : ∀ n s (E' : Value → Shared → Prop), I n s → wpAny (model prog w) A (pyNext it) (fun r s₁ => match r with
      | none => R (.ok .next) s₁
      | some v => wpAny (model prog w) A (assign t1 env v) (fun _ s₂ => wpAny (model prog w) A (isTrue c env (eval c env)) (fun ok s₃ => ok = false ∧ ∃ m, m < n ∧ I m s₃) E' s₂) E' s₁) E' s)
    (n : Nat) (h : I n s) (ht : ∀ v, letOwnedTupleGo t1 it v = pure () := by intro _; rfl) :
    codeAny (model prog w) A (.compLoop (.ListComp elt [⟨t0, i0, [], 0⟩, ⟨t1, i1, [c], 0⟩] scope pos) 1 it acc env) R s := by
  refine codeAny_loop rfl I (fun n s hI => ?_) n h
  show wpAny _ A ((compTurn (.ListComp elt [⟨t0, i0, [], 0⟩, ⟨t1, i1, [c], 0⟩] scope pos) 1 it acc env).onRaise (fun x => do noteFrame x env; theTreesLotGoes x)) _ _ s
  refine wpAny_noted ?_
  rw [compTurn_two1]
  refine wpAny_bind (wpAny_standAt (wpAny_bind (wpAny_mono (turn n s _ hI) (fun r s₁ h₁ => ?_) fun _ _ h' => h')))
  cases r with
  | none => exact wpAny_pure h₁
  | some v =>
    refine wpAny_bind (wpAny_of_eq (ht v) ?_)
    refine wpAny_bind (wpAny_mono h₁ (fun _ s₂ h₂ => wpAny_bind (wpAny_tests_one (wpAny_mono h₂ (fun ok s₃ h₃ => ?_) fun _ _ h' => h'))) fun _ _ h' => h')
    obtain ⟨rfl, h₃⟩ := h₃
    exact wpAny_pure ⟨rfl, h₃⟩
theorem start_two1 {elt t0 i0 t1 i1 : Expr} {ifs : List Expr} {scope : Scope} {pos : Pos} {it acc : Value} {env : Env}
    (h0 : codeAny (model prog w) A (.compLoop (.ListComp elt [⟨t0, i0, [], 0⟩, ⟨t1, i1, ifs, 0⟩] scope pos) 1 it acc env) R s)
    (h : ∀ E' : Value → Shared → Prop, wpAny (model prog w) A (pyIter it) (fun it' s' => codeAny (model prog w) A (.compLoop (.ListComp elt [⟨t0, i0, [], 0⟩, ⟨t1, i1, ifs, 0⟩] scope pos) 1 it' acc env) R s') E' s) :
    codeAny (model prog w) A (.compStart (.ListComp elt [⟨t0, i0, [], 0⟩, ⟨t1, i1, ifs, 0⟩] scope pos) 1 it acc env) R s := by
  refine codeAny_of_tree ?_
  show wpAny _ _ ((compStart (.ListComp elt [⟨t0, i0, [], 0⟩, ⟨t1, i1, ifs, 0⟩] scope pos) 1 it acc env).onRaise (fun x => do noteFrame x env; standAt theWindowsPlace)) _ _ s
  refine wpAny_notedAt ?_
  unfold compStart
  show wpAny _ _ (ask >>= _) _ _ s
  refine wpAny_bind (wpAny_askSetting (wpAny_ite ?_))
  split
  · first
      | exact wpAny_bind (wpAny_pure (wpAny_pure (And.intro rfl h0)))
      | exact wpAny_pure (And.intro rfl h0)
  · refine wpAny_bind (wpAny_rule ?_)
    show wpAny _ _ (standAt i1.pos >>= _) _ _ s
    exact wpAny_bind (wpAny_standAt (wpAny_bind (wpAny_mono (h _) (fun it' s' h' => wpAny_pure (And.intro rfl h')) fun _ _ x => x)))
/-- the first generator's loop -/
theorem loop_two0 {elt t0 i0 t1 i1 : Expr} {ifs : List Expr} {scope : Scope} {pos : Pos} {it acc : Value} {env : Env} (I : Nat → Shared → Prop)
    (turn : ∀ n s (E' : Value → Shared → Prop), I n s → wpAny (model prog w) A (pyNext it) (fun r s₁ => match r with
      | none => R (.ok .next) s₁
      | some v => wpAny (model prog w) A (assign t0 env v) (fun _ s₂ => wpAny (model prog w) A (eval i1 env) (fun x s₃ => wpAny (model prog w) A (pyIter x) (fun it1 s₄ =>
          codeAny (model prog w) A (.compStart (.ListComp elt [⟨t0, i0, [], 0⟩, ⟨t1, i1, ifs, 0⟩] scope pos) 1 it1 acc env) (fun r s₅ => match r with | .ok _ => ∃ m, m < n ∧ I m s₅ | .error _ => False) s₄) E' s₃) E' s₂) E' s₁) E' s)
    (n : Nat) (h : I n s) (ht : ∀ v, letOwnedTupleGo t0 it v = pure () := by intro _; rfl) (hf : ∀ x, foldedSetIterable i1 env x = pure x := by intro _; rfl) :
    codeAny (model prog w) A (.compLoop (.ListComp elt [⟨t0, i0, [], 0⟩, ⟨t1, i1, ifs, 0⟩] scope pos) 0 it acc env) R s := by
  refine codeAny_loop rfl I (fun n s hI => ?_) n h
  show wpAny _ A ((compTurn (.ListComp elt [⟨t0, i0, [], 0⟩, ⟨t1, i1, ifs, 0⟩] scope pos) 0 it acc env).onRaise (fun x => do noteFrame x env; theTreesLotGoes x)) _ _ s
  refine wpAny_noted ?_
  rw [compTurn_two0]
  refine wpAny_bind (wpAny_standAt (wpAny_bind (wpAny_mono (turn n s _ hI) (fun r s₁ h₁ => ?_) fun _ _ h' => h')))
  cases r with
  | none => exact wpAny_pure h₁
  | some v =>
    refine wpAny_bind (wpAny_of_eq (ht v) ?_)
    refine wpAny_bind (wpAny_mono h₁ (fun _ s₂ h₂ => wpAny_bind (wpAny_mono h₂ (fun x s₃ h₃ => ?_) fun _ _ h' => h')) fun _ _ h' => h')
    refine wpAny_bind (wpAny_standAt (wpAny_bind (wpAny_of_eq (hf x) ?_)))
    refine wpAny_bind (wpAny_holding (wpAny_mono h₃ (fun it1 s₄ h₄ => ?_) fun _ _ h' => h'))
    refine wpAny_bind (wpAny_runOwn (codeAny_mono h₄ fun r s₅ h₅ => ?_))
    cases r with
    | ok f => exact wpAny_pure ⟨rfl, h₅⟩
    | error e => exact h₅.elim
end
end Mine
end
theorem Mine.freshLS6b : True := by k_with_none; w_top off; first | walk1 | trivial
-- LS6b
section
open PySem PySem.W PyProof.Rows PySem.Calls
set_option Elab.async false
set_option maxRecDepth 100000
namespace Mine
section
variable {prog : Program} {w : World} {A : Around} {E : Value → Shared → Prop} {s : Shared} {h₀ : Heap} {L : Addr} {m : Str → Option Value} {env : Env}
/-- what the two generators run over, and what is so of their turns -/
def SrcTwo (prog : Program) (w : World) (A : Around) (h₀ : Heap) (L : Addr) (m : Str → Option Value) (env : Env) (i1 c : Expr) (xa xb : Str) (scope : Scope) (cl : List (Str × Addr)) (Q : Value → Shared → Prop) (xv : Value) (s₁ : Shared) : Prop :=
  ∃ r t u v n news, xv = .ref r ∧ A.handled = none ∧ Fr h₀ L s₁.heap m ∧ News h₀ L s₁.heap news ∧ (r, rangeO ((n : Nat) : Int) t u v) ∈ news ∧ Builtin.Range.small 0 ((n : Nat) : Int) 1 = true ∧ Builtin.Range.rangeSize 0 ((n : Nat) : Int) 1 = ((n : Nat) : Int) ∧
    (∀ I oI C oC D m₂ h tk (E' : Value → Shared → Prop), LCg.NsObj oC m₂ → Fr h₀ L h m → News h₀ L h ((I, oI) :: (C, oC) :: (D, LCg.lst []) :: news) →
      wpAny (model prog w) A (eval i1 (compEnvC scope cl C env)) (fun x s₂ => x = .ref r ∧ s₂ = { s₁ with heap := h, toks := tk }) E' { s₁ with heap := h, toks := tk }) ∧
    (∀ (i j : Nat) ti tj I oI J oJ C oC D m₂ h tk (E' : Value → Shared → Prop), i < n → j < n → LCg.NsObj oC m₂ → m₂ xa = some (.int (i : Int) ti) → m₂ xb = some (.int (j : Int) tj) → Fr h₀ L h m → News h₀ L h ((I, oI) :: (J, oJ) :: (C, oC) :: (D, LCg.lst []) :: news) →
      wpAny (model prog w) A (isTrue c (compEnvC scope cl C env) (eval c (compEnvC scope cl C env))) (fun ok s₂ => ok = false ∧ ∃ h' tk', s₂ = { s₁ with heap := h', toks := tk' } ∧ Fr h₀ L h' m ∧ News h₀ L h' ((I, oI) :: (J, oJ) :: (C, oC) :: (D, LCg.lst []) :: news)) E' { s₁ with heap := h, toks := tk }) ∧
    (∀ D h tk, Fr h₀ L h m → News h₀ L h ((D, LCg.lst []) :: news) → Q (.ref D) { s₁ with heap := h, toks := tk })
theorem ListComp_two {elt i0 i1 c : Expr} {xa xb : Str} {pa pb : Pos} {scope : Scope} {cl : List (Str × Addr)} {pos : Pos} {Q : Value → Shared → Prop} (F₀ : Fr h₀ L s.heap m)
    (hclos : closureFor scope env = pure cl) (hcell : ∀ y ∈ scope.names, y.2 ≠ .cell) (hkind : scope.kind = .function)
    (hnames : ∀ y ∈ scope.names, y.2 = .local → scope.names.lookup y.1 = some .local) (hxa : scope.names.lookup xa = some .local) (hxb : scope.names.lookup xb = some .local) (hab : xa ≠ xb)
    (h : wpAny (model prog w) A (eval i0 env) (SrcTwo prog w A h₀ L m env i1 c xa xb scope cl Q) E s)
    (hs : ∀ x, foldedSetIterable i0 env x = pure x := by intro _; rfl) (hs1 : ∀ C x, foldedSetIterable i1 (compEnvC scope cl C env) x = pure x := by intro _ _; rfl) :
    wpAny (model prog w) A (eval (.ListComp elt [⟨.Name xa pa, i0, [], 0⟩, ⟨.Name xb pb, i1, [c], 0⟩] scope pos) env) Q E s := by
  rw [eval_ListComp]
  refine wpAny_comprehension_free (use := none) rfl hs hclos hkind hnames (wpAny_mono h (fun xv s₁ h₁ => ?_) fun _ _ e => e)
  obtain ⟨r, t, u, v, n, news, rfl, hh, F, N, hm, hsm, hn, hiter, htest, hfin⟩ := h₁
  have hr : IsRange s₁.heap r 0 (n : Int) 1 t u v := (N _ hm).1
  refine wpAny_pyIter_range hr hsm ?_
  rw [hn]
  refine wpAny_newObj_type (wpAny_newFunctionEnv hcell (by intro y hy; simp at hy) (fun h₁ hns₁ hsb₁ => ?_) hkind)
  dsimp only at hns₁ hsb₁ ⊢
  generalize hI : s₁.heap.objs.size = I at *
  generalize hH1 : s₁.heap.push { cls := .type "range_iterator", data := .fields #[rawInt 0, rawInt (n : Int), rawInt 1] } = H1 at hns₁ hsb₁ ⊢
  have hD : H1.objs.size = I + 1 := by rw [← hH1, Heap.size_push, hI]
  generalize hH2 : H1.push { cls := .type "list", dict := none, data := .seq ([] : List Value).toArray } = H2 at hns₁ hsb₁ ⊢
  have hC : H2.objs.size = I + 2 := by rw [← hH2, Heap.size_push, hD]
  rw [hC] at hns₁ hsb₁ ⊢
  rw [hD]
  have up2 : ∀ b o, s₁.heap.get? b = some o → H2.get? b = some o := fun b o e => by rw [← hH2]; exact Heap.get?_push_of_some _ (by rw [← hH1]; exact Heap.get?_push_of_some _ e)
  have hk₁ : ∀ b o, H2.get? b = some o → h₁.get? b = some o := fun b o e => hsb₁.extBut b o (by have := Heap.lt_size e; rw [hC] at this; exact Nat.ne_of_lt this) (Heap.get?_push_of_some _ e)
  have old : ∀ b o, s₁.heap.get? b = some o → h₁.get? b = some o := fun b o e => hk₁ b o (up2 b o e)
  have hIt : h₁.get? I = some { cls := .type "range_iterator", data := .fields #[rawInt 0, rawInt (n : Int), rawInt 1] } := hk₁ _ _ (by rw [← hH2]; exact Heap.get?_push_of_some _ (by rw [← hH1, ← hI]; exact Heap.get?_push_size _ rfl))
  have hDv : h₁.get? (I + 1) = some (LCg.lst []) := hk₁ _ _ (by rw [← hH2, ← hD]; exact Heap.get?_push_size _ rfl)
  have fresh₀ : ∀ b : Nat, I ≤ b → h₀.get? b = none := fun b hb => by
    cases e : h₀.get? b with
    | none => rfl
    | some o => exact absurd (Heap.lt_size (F.keep b o e)) (by rw [hI]; exact Nat.not_lt.mpr hb)
  have hLI : @LT.lt Nat instLTNat L I := by rw [← hI]; exact F.ns.lt
  have offn : ∀ p ∈ news, @LT.lt Nat instLTNat p.1 I := fun p hp => by rw [← hI]; exact Heap.lt_size (N p hp).1
  have WI := LCg.range_walks (prog := prog) (w := w) (A := A) (I := I) hh 0 n
  have hlocal : ∀ x, scope.names.lookup x = some .local → (compEnvC scope cl (I + 2) env).kindOf x = some .local := fun x hx => lookup_relabel_local hx
  have hplain : ((compEnvC scope cl (I + 2) env).scope.kind == .class || ((compEnvC scope cl (I + 2) env).scope.kind == .module && (compEnvC scope cl (I + 2) env).locals != (compEnvC scope cl (I + 2) env).globals)) = false := by simp [compEnvC, relabel, hkind]
  have loop : codeAny (model prog w) A (.compLoop (.ListComp elt [⟨.Name xa pa, i0, [], 0⟩, ⟨.Name xb pb, i1, [c], 0⟩] scope pos) 0 (.ref I) (.ref (I + 1)) (compEnvC scope cl (I + 2) env))
      (compPost (model prog w) A E none Q (Value.ref (I + 1)) (I + 2)) { s₁ with heap := h₁, toks := s₁.toks + ([] : List (Str × Value)).length } := by
    refine loop_two0 (hf := hs1 _)
      (fun k s' => ∃ h' tk i m', s' = { s₁ with heap := h', toks := tk } ∧ i ≤ n ∧ k = n + 1 - i ∧ IsRangeIter h' I (0 + (i : Nat) * 1) ((n : Int) - (i : Nat)) 1 ∧ Fr h₀ L h' m ∧ h'.Ns (I + 2) m' ∧ News h₀ L h' ((I + 1, LCg.lst []) :: news)) ?_ (n + 1)
      ⟨h₁, _, 0, _, rfl, Nat.zero_le _, rfl, (by show h₁.get? I = some _; rw [hIt]; simp), F.keeps old, hns₁, fun p hp => ?_⟩
    · rintro k _ E' ⟨h', tk, i, m', rfl, hi, rfl, hit, F', hn', N'⟩
      by_cases hlt : i < n
      · refine WI.item i _ _ _ hlt hit fun vv h₂ tk₂ hP hit₂ hk₂ => ?_
        obtain ⟨ti, rfl⟩ := hP
        rw [Int.zero_add]
        have hk2' : ∀ b o, @Ne Nat b I → h'.get? b = some o → h₂.get? b = some o := fun b o nb e => hk₂ b o (by simpa using nb) e
        refine wpAny_assign_Name (wpAny_storeName_local (hlocal _ hxa) (hn'.at' fun o e => hk2' _ o (by omega : @Ne Nat (I + 2) I) e) (fun h₃ hn₃ hs₃ => ?_) hplain)
        have up3 : ∀ b o, @Ne Nat b I → @Ne Nat b (I + 2) → h'.get? b = some o → h₃.get? b = some o := fun b o n1 n2 e => hs₃.extBut b o n2 (hk2' b o n1 e)
        have F₃ : Fr h₀ L h₃ m := ⟨F'.ns.at' fun o e => up3 L o (by omega) (by omega) e, fun b o e => up3 b o (fun q => by rw [q, fresh₀ I (Nat.le_refl _)] at e; cases e) (fun q => by rw [q, fresh₀ (I + 2) (by omega)] at e; cases e) (F'.keep b o e), F'.above⟩
        have hit₃ : IsRangeIter h₃ I (0 + ((i + 1 : Nat) : Int) * 1) ((n : Int) - ((i + 1 : Nat) : Int)) 1 := hs₃.extBut I _ (by omega : @Ne Nat I (I + 2)) hit₂
        obtain ⟨oC, hoC, hoC2⟩ := LCg.ns_obj hn₃
        have N₃ : News h₀ L h₃ ((I, { cls := .type "range_iterator", data := .fields #[rawInt (0 + ((i + 1 : Nat) : Int) * 1), rawInt ((n : Int) - ((i + 1 : Nat) : Int)), rawInt 1] }) :: (I + 2, oC) :: (I + 1, LCg.lst []) :: news) := fun p hp => by
          rcases List.mem_cons.mp hp with rfl | hp
          · exact ⟨hit₃, (by omega : @Ne Nat I L), fresh₀ _ (Nat.le_refl _)⟩
          rcases List.mem_cons.mp hp with rfl | hp
          · exact ⟨hoC, (by omega : @Ne Nat (I + 2) L), fresh₀ _ (by omega)⟩
          have z := N' p hp
          rcases List.mem_cons.mp hp with rfl | hp
          · exact ⟨up3 _ _ (by omega : @Ne Nat (I + 1) I) (by omega : @Ne Nat (I + 1) (I + 2)) z.1, z.2⟩
          · have := offn p hp
            exact ⟨up3 _ _ (by omega) (by omega) z.1, z.2⟩
        generalize hoI : ({ cls := .type "range_iterator", data := .fields #[rawInt (0 + ((i + 1 : Nat) : Int) * 1), rawInt ((n : Int) - ((i + 1 : Nat) : Int)), rawInt 1] } : Obj) = oI at N₃
        refine wpAny_mono (hiter I oI (I + 2) oC (I + 1) _ h₃ _ _ hoC2 F₃ N₃) (fun x s₃ hx => ?_) fun _ _ e => e
        obtain ⟨rfl, rfl⟩ := hx
        have hr₃ : IsRange h₃ r 0 (n : Int) 1 t u v := (N₃ _ (List.mem_cons_of_mem _ (List.mem_cons_of_mem _ (List.mem_cons_of_mem _ hm)))).1
        refine wpAny_pyIter_range hr₃ hsm ?_
        rw [hn]
        dsimp only
        generalize hJ : h₃.objs.size = J
        have hJl : ∀ p ∈ ((I, oI) :: (I + 2, oC) :: (I + 1, LCg.lst []) :: news), @LT.lt Nat instLTNat p.1 J := fun p hp => by rw [← hJ]; exact Heap.lt_size (N₃ p hp).1
        have hJI : @LT.lt Nat instLTNat I J := hJl (I, oI) (by simp)
        have hJC : @LT.lt Nat instLTNat (I + 2) J := hJl (I + 2, oC) (by simp)
        have WJ := LCg.range_walks (prog := prog) (w := w) (A := A) (I := J) hh 0 n
        have up4 : ∀ b o, h₃.get? b = some o → (h₃.push { cls := .type "range_iterator", data := .fields #[rawInt 0, rawInt (n : Int), rawInt 1] }).get? b = some o := fun b o e => Heap.get?_push_of_some _ e
        have hJt : (h₃.push { cls := .type "range_iterator", data := .fields #[rawInt 0, rawInt (n : Int), rawInt 1] }).get? J = some { cls := .type "range_iterator", data := .fields #[rawInt 0, rawInt (n : Int), rawInt 1] } := by rw [← hJ]; exact Heap.get?_push_size _ rfl
        generalize h₃.push { cls := .type "range_iterator", data := .fields #[rawInt 0, rawInt (n : Int), rawInt 1] } = h₄ at up4 hJt ⊢
        have fin1 : ∀ (h₅ : Heap) (tk : Nat) (m₅ : Str → Option Value), h₅.Ns (I + 2) m₅ → Fr h₀ L h₅ m → News h₀ L h₅ ((I, oI) :: (I + 1, LCg.lst []) :: news) →
            ∃ k, k < n + 1 - i ∧ ∃ h' tk' i' m', ({ s₁ with heap := h₅, toks := tk } : Shared) = { s₁ with heap := h', toks := tk' } ∧ i' ≤ n ∧ k = n + 1 - i' ∧ IsRangeIter h' I (0 + ((i' : Nat) : Int) * 1) ((n : Int) - ((i' : Nat) : Int)) 1 ∧ Fr h₀ L h' m ∧ h'.Ns (I + 2) m' ∧ News h₀ L h' ((I + 1, LCg.lst []) :: news) := fun h₅ tk m₅ a1 a2 a3 =>
          ⟨n + 1 - (i + 1), by omega, h₅, tk, i + 1, m₅, rfl, by omega, rfl, (by show h₅.get? I = some _; rw [hoI]; exact (a3 (I, oI) (by simp)).1), a2, a1, fun p hp => a3 p (List.mem_cons_of_mem _ hp)⟩
        have loop1 : codeAny (model prog w) A (.compLoop (.ListComp elt [⟨.Name xa pa, i0, [], 0⟩, ⟨.Name xb pb, i1, [c], 0⟩] scope pos) 1 (.ref J) (.ref (I + 1)) (compEnvC scope cl (I + 2) env))
            (fun r s₅ => match r with | .ok _ => ∃ k, k < n + 1 - i ∧ ∃ h' tk' i' m', s₅ = { s₁ with heap := h', toks := tk' } ∧ i' ≤ n ∧ k = n + 1 - i' ∧ IsRangeIter h' I (0 + ((i' : Nat) : Int) * 1) ((n : Int) - ((i' : Nat) : Int)) 1 ∧ Fr h₀ L h' m ∧ h'.Ns (I + 2) m' ∧ News h₀ L h' ((I + 1, LCg.lst []) :: news) | .error _ => False)
            { s₁ with heap := h₄, toks := tk₂ + 1 } := by
          refine loop_two1
            (fun k s' => ∃ h₅ tk j m₅, s' = { s₁ with heap := h₅, toks := tk } ∧ j ≤ n ∧ k = n + 1 - j ∧ IsRangeIter h₅ J (0 + ((j : Nat) : Int) * 1) ((n : Int) - ((j : Nat) : Int)) 1 ∧ h₅.Ns (I + 2) m₅ ∧ m₅ xa = some (.int (i : Int) ti) ∧ Fr h₀ L h₅ m ∧ News h₀ L h₅ ((I, oI) :: (I + 1, LCg.lst []) :: news)) ?_ (n + 1)
            ⟨h₄, _, 0, _, rfl, Nat.zero_le _, rfl, (by show h₄.get? J = some _; rw [hJt]; simp), hn₃.keeps up4, by simp, F₃.keeps up4, fun p hp => ?_⟩
          · rintro k _ E'' ⟨h₅, tk₅, j, m₅, rfl, hj, rfl, hjt, hn₅, hma, F₅, N₅⟩
            by_cases hlj : j < n
            · refine WJ.item j _ _ _ hlj hjt fun vv h₆ tk₆ hP hjt₆ hk₆ => ?_
              obtain ⟨tj, rfl⟩ := hP
              rw [Int.zero_add]
              have hk6' : ∀ b o, @Ne Nat b J → h₅.get? b = some o → h₆.get? b = some o := fun b o nb e => hk₆ b o (by simpa using nb) e
              refine wpAny_assign_Name (wpAny_storeName_local (hlocal _ hxb) (hn₅.at' fun o e => hk6' _ o (by omega : @Ne Nat (I + 2) J) e) (fun h₇ hn₇ hs₇ => ?_) hplain)
              have up7 : ∀ b o, @Ne Nat b J → @Ne Nat b (I + 2) → h₅.get? b = some o → h₇.get? b = some o := fun b o n1 n2 e => hs₇.extBut b o n2 (hk6' b o n1 e)
              have hjt₇ : h₇.get? J = some _ := hs₇.extBut J _ (by omega : @Ne Nat J (I + 2)) hjt₆
              obtain ⟨oC₇, hoC₇, hoC₇2⟩ := LCg.ns_obj hn₇
              have F₇ : Fr h₀ L h₇ m := ⟨F₅.ns.at' fun o e => up7 L o (by omega) (by omega) e, fun b o e => up7 b o (fun q => by rw [q, fresh₀ J (by omega)] at e; cases e) (fun q => by rw [q, fresh₀ (I + 2) (by omega)] at e; cases e) (F₅.keep b o e), F₅.above⟩
              have N₇ : News h₀ L h₇ ((I, oI) :: (J, _) :: (I + 2, oC₇) :: (I + 1, LCg.lst []) :: news) := fun p hp => by
                rcases List.mem_cons.mp hp with rfl | hp
                · have z := N₅ (I, oI) (by simp)
                  exact ⟨up7 _ _ (by omega : @Ne Nat I J) (by omega : @Ne Nat I (I + 2)) z.1, z.2⟩
                rcases List.mem_cons.mp hp with rfl | hp
                · exact ⟨hjt₇, (by omega : @Ne Nat J L), fresh₀ _ (by omega)⟩
                rcases List.mem_cons.mp hp with rfl | hp
                · exact ⟨hoC₇, (by omega : @Ne Nat (I + 2) L), fresh₀ _ (by omega)⟩
                rcases List.mem_cons.mp hp with rfl | hp
                · have z := N₅ (I + 1, LCg.lst []) (by simp)
                  exact ⟨up7 _ _ (by omega : @Ne Nat (I + 1) J) (by omega : @Ne Nat (I + 1) (I + 2)) z.1, z.2⟩
                · have z := N₅ p (List.mem_cons_of_mem _ (List.mem_cons_of_mem _ hp))
                  have o1 := offn p hp
                  exact ⟨up7 _ _ (by omega) (by omega) z.1, z.2⟩
              refine wpAny_mono (htest i j ti tj I oI J _ (I + 2) oC₇ (I + 1) _ h₇ _ _ hlt hlj hoC₇2 (by simp only [if_neg hab]; exact hma) (by simp) F₇ N₇) (fun ok s₈ h₈ => ?_) fun _ _ e => e
              obtain ⟨rfl, h₈, tk₈, rfl, F₈, N₈⟩ := h₈
              refine ⟨rfl, n + 1 - (j + 1), by omega, h₈, tk₈, j + 1, _, rfl, by omega, rfl, (N₈ (J, _) (by simp)).1, hoC₇2.ns (N₈ (I + 2, oC₇) (by simp)).1, by simp only [if_neg hab]; exact hma, F₈, fun p hp => N₈ p ?_⟩
              rcases List.mem_cons.mp hp with rfl | hp
              · simp
              · exact List.mem_cons_of_mem _ (List.mem_cons_of_mem _ (List.mem_cons_of_mem _ hp))
            · obtain rfl : j = n := Nat.le_antisymm hj (Nat.not_lt.mp hlj)
              refine WJ.done _ _ _ hjt fun h₆ tk₆ hk₆ => ?_
              have hk6' : ∀ b o, @Ne Nat b J → h₅.get? b = some o → h₆.get? b = some o := fun b o nb e => hk₆ b o (by simpa using nb) e
              refine fin1 h₆ _ m₅ (hn₅.at' fun o e => hk6' _ o (by omega : @Ne Nat (I + 2) J) e)
                ⟨F₅.ns.at' fun o e => hk6' L o (by omega) e, fun b o e => hk6' b o (fun q => by rw [q, fresh₀ J (by omega)] at e; cases e) (F₅.keep b o e), F₅.above⟩ fun p hp => ?_
              have z := N₅ p hp
              have o1 : @Ne Nat p.1 J := by
                rcases List.mem_cons.mp hp with rfl | hp
                · exact (by omega : @Ne Nat I J)
                rcases List.mem_cons.mp hp with rfl | hp
                · exact (by omega : @Ne Nat (I + 1) J)
                · have := offn p hp; omega
              exact ⟨hk6' _ _ o1 z.1, z.2⟩
          · have z := N₃ p (by
              rcases List.mem_cons.mp hp with rfl | hp
              · simp
              · exact List.mem_cons_of_mem _ (List.mem_cons_of_mem _ hp))
            exact ⟨up4 _ _ z.1, z.2⟩
        exact start_two1 loop1 fun E'' => WJ.self 0 _ _ _ (by show h₄.get? J = some _; rw [hJt]; simp) loop1
      · obtain rfl : i = n := Nat.le_antisymm hi (Nat.not_lt.mp hlt)
        refine WI.done _ _ _ hit fun h₂ tk₂ hk₂ => ?_
        have hk2' : ∀ b o, @Ne Nat b I → h'.get? b = some o → h₂.get? b = some o := fun b o nb e => hk₂ b o (by simpa using nb) e
        refine ⟨m', hn'.at' fun o e => hk2' _ o (by omega : @Ne Nat (I + 2) I) e, fun h'' hs'' => ?_⟩
        have up4 : ∀ b o, @Ne Nat b I → @Ne Nat b (I + 2) → h'.get? b = some o → h''.get? b = some o := fun b o n1 n2 e => hs''.extBut b o n2 (hk2' b o n1 e)
        refine hfin (I + 1) h'' _ ⟨F'.ns.at' fun o e => up4 L o (by omega) (by omega) e, fun b o e => up4 b o (fun q => by rw [q, fresh₀ I (Nat.le_refl _)] at e; cases e) (fun q => by rw [q, fresh₀ (I + 2) (by omega)] at e; cases e) (F'.keep b o e), F'.above⟩ fun p hp => ?_
        have z := N' p hp
        rcases List.mem_cons.mp hp with rfl | hp
        · exact ⟨up4 _ _ (by omega : @Ne Nat (I + 1) I) (by omega : @Ne Nat (I + 1) (I + 2)) z.1, z.2⟩
        · have := offn p hp
          exact ⟨up4 _ _ (by omega) (by omega) z.1, z.2⟩
    · rcases List.mem_cons.mp hp with rfl | hp
      · exact ⟨hDv, (by omega : @Ne Nat (I + 1) L), fresh₀ _ (by omega)⟩
      · exact ⟨old _ _ (N p hp).1, (N p hp).2⟩
  exact codeAny_compStart_list loop (WI.self 0 _ _ _ (by show h₁.get? I = some _; rw [hIt]; simp) loop)
end
end Mine
end
theorem Mine.freshLS4h : True := by k_with_none; w_top off; first | walk1 | trivial
-- LS4h
section
open PySem PySem.W PyProof.Rows PySem.Calls
set_option Elab.async false
set_option maxRecDepth 100000
namespace Mine
open Hd (KK)
open PySem.SeqAt
section
variable {prog : Program} {w : World} {A : Around} {E : Value → Shared → Prop} {s : Shared} {h₀ : Heap} {L : Addr} {m : Str → Option Value} {env : Env}
theorem range3_walks {I : Addr} (hh : A.handled = none) (n : Nat) : Walks prog w A I [I] [I] n (fun i v => ∃ t, v = .int ((i : Int) * 3) t) (fun i h => IsRangeIter h I (0 + (i : Nat) * 3) ((n : Int) - (i : Nat)) 3) :=
  let W : Walks prog w A I [I] [I] n (fun i v => i < n ∧ ∃ t, v = .int (0 + i * 3) t) (fun i h => IsRangeIter h I (0 + (i : Nat) * 3) ((n : Int) - (i : Nat)) 3) := (Walks.range hh I 0 3 n).bound
  { sub := W.sub, frame := W.frame, done := W.done, self := W.self,
    item := fun i s Q E hi st hQ => W.item i s Q E hi st fun v h' tk hP => hQ v h' tk (by obtain ⟨_, t, rfl⟩ := hP; exact ⟨t, by rw [Int.zero_add]⟩) }
theorem range3_st {I : Addr} {n : Nat} : ∀ i (h h' : Heap) (o : Obj) (nw : List (Addr × Obj)), IsRangeIter h I (0 + (i : Nat) * 3) ((n : Int) - (i : Nat)) 3 → h.get? I = some o → h'.get? I = some o → (∀ b o, h₀.get? b = some o → h'.get? b = some o) → News h₀ L h' nw → True → IsRangeIter h' I (0 + (i : Nat) * 3) ((n : Int) - (i : Nat)) 3 :=
  fun i h h' o nw st e e' _ _ _ => by
    have st' : h.get? I = some _ := st
    show h'.get? I = some _
    rw [e', ← e]; exact st'
def Src3 (prog : Program) (w : World) (A : Around) (h₀ : Heap) (L : Addr) (m : Str → Option Value) (env : Env) (elt : Expr) (x : Str) (scope : Scope) (cl : List (Str × Addr)) (Q : Value → Shared → Prop) (xv : Value) (s₁ : Shared) : Prop :=
  ∃ r a t u v n news, xv = .ref r ∧ A.handled = none ∧ Fr h₀ L s₁.heap m ∧ News h₀ L s₁.heap news ∧ IsRange s₁.heap r 0 a 3 t u v ∧ Builtin.Range.small 0 a 3 = true ∧ Builtin.Range.rangeSize 0 a 3 = ((n : Nat) : Int) ∧ n ≤ sizeLine ∧
    ∀ s₂ : Shared, (∃ h, s₂ = { s₁ with heap := h }) → LCg.CompRest prog w A h₀ L m env elt x scope cl s₂ (fun _ => True) (fun i v => ∃ t, v = .int ((i : Int) * 3) t) (LCg.FinE h₀ L m s₂ Q) n 0 [] news
theorem ListComp_R3 {elt iter : Expr} {x : Str} {px : Pos} {scope : Scope} {cl : List (Str × Addr)} {pos : Pos} {Q : Value → Shared → Prop} (F₀ : Fr h₀ L s.heap m)
    (hclos : closureFor scope env = pure cl) (hcell : ∀ y ∈ scope.names, y.2 ≠ .cell) (hkind : scope.kind = .function)
    (hnames : ∀ y ∈ scope.names, y.2 = .local → scope.names.lookup y.1 = some .local) (hx : scope.names.lookup x = some .local)
    (h : wpAny (model prog w) A (eval iter env) (Src3 prog w A h₀ L m env elt x scope cl Q) E s)
    (hs : ∀ x, foldedSetIterable iter env x = pure x := by intro _; rfl) :
    wpAny (model prog w) A (eval (.ListComp elt [⟨.Name x px, iter, [], 0⟩] scope pos) env) Q E s := by
  rw [eval_ListComp]
  refine wpAny_comprehension_free (use := none) rfl hs hclos hkind hnames (wpAny_mono h (fun xv s₁ h₁ => ?_) fun _ _ e => e)
  obtain ⟨r, a, t, u, v, n, news, rfl, hh, F, N, hr, hsm, hn, hsz, R⟩ := h₁
  refine wpAny_pyIter_range hr hsm ?_
  refine LCg.block_U (range3_walks hh n) hsz (fun i h st => ⟨_, st⟩) range3_st hcell hkind hx (by show IsRangeIter _ _ _ _ _; rw [hn]; simpa using Heap.get?_push_size _ rfl) (fun b hb => ?_)
    (F.keeps fun _ _ e => Heap.get?_push_of_some _ e) (N.grown fun _ _ e => Heap.get?_push_of_some _ e) (Nat.ne_of_lt F.ns.lt) (next_is_new F) (fun p hp => Nat.ne_of_lt (Heap.lt_size (N p hp).1)) trivial (R _ ⟨_, rfl⟩) ?_
  · rw [List.mem_singleton.mp hb]
    show s₁.heap.objs.size < (s₁.heap.push _).objs.size
    rw [Heap.size_push]; exact Nat.lt_succ_self _
  · intro D C h tk m' ys news' F' N' o1 hn hC₀ hD₀ hCL hDL hCD offC fin
    refine ⟨m', hn, fun h'' hs'' => fin D h'' tk (F'.change hs'' hCL hC₀) (fun p hp => ?_) o1⟩
    refine ⟨hs''.extBut _ _ ?_ (N' p hp).1, (N' p hp).2⟩
    rcases List.mem_cons.mp hp with rfl | hp
    · exact Ne.symm hCD
    · exact offC p hp
end
theorem small3 {n : Nat} (h : n ≤ 8) : Builtin.Range.small 0 ((3 * n : Nat) : Int) 3 = true := by
  have key : ∀ n, n ≤ 8 → Builtin.Range.small 0 ((3 * n : Nat) : Int) 3 = true := by decide +kernel
  exact key n h
theorem size3 {n : Nat} : Builtin.Range.rangeSize 0 ((3 * n : Nat) : Int) 3 = (n : Int) := by
  unfold Builtin.Range.rangeSize
  simp
  omega
theorem ints_of : ∀ {ys : List Value} {ns : List Int}, ys.length = ns.length → (∀ (i : Nat) (y : Value), ys[i]? = some y → ∃ t k, ns[i]? = some k ∧ y = Value.int k t) → IntsAre ys ns
  | [], [], _, _ => .nil
  | [], _ :: _, h, _ => by simp at h
  | _ :: _, [], h, _ => by simp at h
  | y :: ys, n :: ns, h, hy => by
    obtain ⟨t, k, hk, rfl⟩ := hy 0 y rfl
    have : n = k := Option.some.inj hk
    subst this
    exact .cons _ _ (ints_of (by simpa using h) fun i z hz => hy (i + 1) z (by simpa using hz))
/-- the parts of the fourth statement -/
noncomputable def in4 : Expr := by
  refine (?f : st4 = .If (.Compare (.ListComp ?el [⟨?tg, ?it, [], 0⟩] ?sc ?ps) ?o ?c ?q) ?b ?e ?z → Expr) ?h
  case h => exact rfl
  case f => exact fun _ => ?el
noncomputable def sc4 : Scope := by
  refine (?f : st4 = .If (.Compare (.ListComp ?el [⟨?tg, ?it, [], 0⟩] ?sc ?ps) ?o ?c ?q) ?b ?e ?z → Scope) ?h
  case h => exact rfl
  case f => exact fun _ => ?sc
noncomputable def el4 : Expr := by
  refine (?f : in4 = .ListComp ?el [⟨?tg, ?it, [], 0⟩] ?sc ?ps → Expr) ?h
  case h => exact rfl
  case f => exact fun _ => ?el
noncomputable def sc4i : Scope := by
  refine (?f : in4 = .ListComp ?el [⟨?tg, ?it, [], 0⟩] ?sc ?ps → Scope) ?h
  case h => exact rfl
  case f => exact fun _ => ?sc
end Mine
end
theorem Mine.freshLS4e : True := by k_with_none; w_top off; first | walk1 | trivial
-- LS4e
section
open PySem PySem.W PyProof.Rows PySem.Calls
set_option Elab.async false
set_option maxRecDepth 100000
namespace Mine
open Hd (KK)
open PySem.SeqAt
section
theorem spl_at : ∀ {ns : List Int} {i : Nat} {k : Int}, ns[i]? = some k → ((spl ns).drop (3 * i)).take 3 = sp3 k.toNat
  | [], _, _, h => by simp at h
  | n :: ns, 0, k, h => by
    have : n = k := Option.some.inj h
    subst this
    rfl
  | n :: ns, i + 1, k, h => by
    have ih := spl_at (ns := ns) (i := i) (k := k) (by simpa using h)
    rw [spl_cons, show 3 * (i + 1) = 3 * i + 1 + 1 + 1 by omega]
    simpa only [List.drop_succ_cons] using ih
theorem slice3 {ns : List Int} {i : Nat} {k : Int} (hi : ns[i]? = some k) : Txt.slice (tx ns) (some ((i : Int) * 3)) (some ((i : Int) * 3 + 3)) = (⟨(sp3 k.toNat).toArray⟩ : Str) := by
  have hlt := (List.getElem?_eq_some_iff.mp hi).1
  show StrLaws.sliceText (tx ns) (some ((i : Int) * 3)) (some ((i : Int) * 3 + 3)) = _
  rw [StrLaws.sliceText_plain ⟨by omega, by omega, by show _ ≤ (((spl ns).toArray.toList.length : Nat) : Int); rw [List.toList_toArray, spl_length]; omega⟩]
  rw [show ((i : Int) * 3).toNat = 3 * i by omega, show ((i : Int) * 3 + 3 - (i : Int) * 3).toNat = 3 by omega]
  show (⟨(((spl ns).toArray.toList.drop (3 * i)).take 3).toArray⟩ : Str) = _
  rw [List.toList_toArray, spl_at hi]
noncomputable def sb4 : Expr := by
  refine (?f : el4 = .Call ?a [.Call ?b [?sb] ?c ?d] ?e ?g → Expr) ?h
  case h => exact rfl
  case f => exact fun _ => ?sb
local macro_rules | `(tactic| walk_at "eval Name") => `(tactic| (k_here; refine stop_here ?_))
local macro_rules | `(tactic| walk_at "subscriptTail") => `(tactic| (k_here; refine stop_here ?_))
local macro_rules | `(tactic| walk_at "subscriptTail Name Slice str ref") => `(tactic| (k_here; refine stop_here ?_))
set_option maxHeartbeats 8000000 in
theorem sub4 {w : World} {p : Program} {loose : List Str} {mean : ExcName → Option Value} {mg mb : Str → Option Value} {h₀ : Heap} {L fa C C2 Xc : Addr} {m m2 : Str → Option Value} {s : Shared} {Q E : Value → Shared → Prop} {oX oC : Obj} {led : List (Addr × Obj)} {ns : List Int} {tx0 : Tok} {i : Nat} {k : Int} {t : Tok}
    (B : Below callerA h₀ [] h₀) (X : (KK w.params).In h₀) (T : Top p loose mean mg mb h₀)
    (F : Fr h₀ L s.heap m) (N : News h₀ L s.heap led) (hX : (Xc, oX) ∈ led) (hd : oX.data = .cell (some (.str (tx ns) tx0))) (hlen : ns.length ≤ 8) (ho : Oct ns)
    (hC : LCg.NsObj oC m2) (hCl : (C2, oC) ∈ led) (hx : m2 (Str.ofString "k") = some (.int ((i : Int) * 3) t)) (hi : ns[i]? = some k)
    (hret : ∀ h tk t', Fr h₀ L h m → News h₀ L h led → Q (.str ⟨(sp3 k.toNat).toArray⟩ t') { s with heap := h, toks := tk }) :
    wpAny (model PySem.Challenge.rw_mr0202_01.row.prog w) (lawA L fa) (eval sb4 (compEnvC sc4i [(Str.ofString "text", Xc)] C2 (compEnvC sc4 [(Str.ofString "text", Xc)] C (lawE L fa)))) Q E s := by
  delta sb4
  k_steps
  show wpAny _ _ (eval (Expr.Name _ _) _) _ _ _
  refine lcf_cell N (by rfl) hX hd ?_ (by rfl) (by with_unfolding_all rfl) (by decide)
  k_steps
  show wpAny _ _ (eval (Expr.Name _ _) _) _ _ _
  refine wpAny_Name (wpAny_loadName_local (by rfl) (by with_unfolding_all rfl) (hC.ns (N _ hCl).1) hx ?_) (by decide)
  k_steps
  show wpAny _ _ (eval (Expr.Name _ _) _) _ _ _
  refine wpAny_Name (wpAny_loadName_local (by rfl) (by with_unfolding_all rfl) (hC.ns (N _ hCl).1) hx ?_) (by decide)
  k_steps
  show wpAny _ _ (subscriptTail _ _ _ _) _ _ _
  refine slice_strN_ss (hsz := ?hsz) (s := ⟨_, _, _, _, _⟩) F N ?_
  case hsz => show (spl ns).toArray.size ≤ sizeLine; rw [List.size_toArray, spl_length, sizeLine_eq]; omega
  intro h' t' k' F' N'
  rw [slice3 hi]
  exact hret h' k' t' F' N'
end
section
local macro_rules | `(tactic| walk_at "call ref") => `(tactic| (k_here; (with_reducible show wpAny _ _ (call (Value.ref 37) _) _ _ _); refine stop_here ?_))
local macro_rules | `(tactic| walk_at "eval Subscript") => `(tactic| (k_here; refine stop_here ?_))
set_option maxHeartbeats 8000000 in
theorem elt4 {w : World} {p : Program} {loose : List Str} {mean : ExcName → Option Value} {mg mb : Str → Option Value} {h₀ : Heap} {L fa C C2 Xc : Addr} {m m2 : Str → Option Value} {s : Shared} {Q E : Value → Shared → Prop} {oX oC : Obj} {led : List (Addr × Obj)} {ns : List Int} {tx0 : Tok} {i : Nat} {k : Int} {t : Tok}
    (B : Below callerA h₀ [] h₀) (X : (KK w.params).In h₀) (T : Top p loose mean mg mb h₀)
    (F : Fr h₀ L s.heap m) (N : News h₀ L s.heap led) (hX : (Xc, oX) ∈ led) (hd : oX.data = .cell (some (.str (tx ns) tx0))) (hlen : ns.length ≤ 8) (ho : Oct ns)
    (hC : LCg.NsObj oC m2) (hCl : (C2, oC) ∈ led) (hx : m2 (Str.ofString "k") = some (.int ((i : Int) * 3) t)) (hi : ns[i]? = some k)
    (hret : ∀ h tk t', Fr h₀ L h m → News h₀ L h led → Q (.int k t') { s with heap := h, toks := tk }) :
    wpAny (model PySem.Challenge.rw_mr0202_01.row.prog w) (lawA L fa) (eval el4 (compEnvC sc4i [(Str.ofString "text", Xc)] C2 (compEnvC sc4 [(Str.ofString "text", Xc)] C (lawE L fa)))) Q E s := by
  delta el4
  revert X; k_fill; intro X
  k_steps
  show wpAny _ _ (eval (Expr.Subscript _ _ _) _) _ _ _
  refine sub4 (Q := _) B X T F N hX hd hlen ho hC hCl hx hi ?_
  intro h8 tk8 t8 F8 N8
  k_steps
  show wpAny _ _ (call (Value.ref 37) _) _ _ _
  have hk := ho k (List.mem_of_getElem? hi)
  refine c37 (n := k.toNat) (B := B) (F := F8) (X := X) (T := T) rfl (by decide +kernel) (by decide +kernel) (octet_nat hk) ?_
  intro h9 tk9 t9 st9
  have F9 := F8.keeps st9
  have N9 := N8.keeps st9
  clear st9
  show wpAny _ _ _ _ _ _
  k_steps
  have hk2 : ((k.toNat : Nat) : Int) = k := Int.toNat_of_nonneg hk.1
  rw [hk2]
  exact hret _ _ _ F9 N9
end
end Mine
end
theorem Mine.freshLS4i : True := by k_with_none; w_top off; first | walk1 | trivial
-- LS4i
section
open PySem PySem.W PyProof.Rows PySem.Calls
set_option Elab.async false
set_option maxRecDepth 100000
namespace Mine
open Hd (KK)
open PySem.SeqAt
local macro_rules | `(tactic| walk_at "eval ListComp") => `(tactic| (k_here; k_dflt (refine ListComp_R3 (F₀ := by k_asm) (by with_unfolding_all rfl) (by decide) (by rfl) (by decide) (by rfl) ?_)))
local macro_rules | `(tactic| walk_at "call type:range") => `(tactic| (k_here; refine stop_here ?_))
set_option maxHeartbeats 8000000 in
theorem inner4 {w : World} {p : Program} {loose : List Str} {mean : ExcName → Option Value} {mg mb : Str → Option Value} {h₀ : Heap} {L fa C Xc : Addr} {m : Str → Option Value} {s : Shared} {Q E : Value → Shared → Prop} {oX : Obj} {led : List (Addr × Obj)} {ns : List Int} {tx0 : Tok}
    (B : Below callerA h₀ [] h₀) (X : (KK w.params).In h₀) (T : Top p loose mean mg mb h₀)
    (F : Fr h₀ L s.heap m) (N : News h₀ L s.heap led) (hX : (Xc, oX) ∈ led) (hd : oX.data = .cell (some (.str (tx ns) tx0))) (hlen : ns.length ≤ 8) (ho : Oct ns)
    (hret : ∀ D ys h tk, Fr h₀ L h m → News h₀ L h ((D, LCg.lst ys) :: led) → LCg.Off1 D led → IntsAre ys ns → Q (.ref D) { s with heap := h, toks := tk }) :
    wpAny (model PySem.Challenge.rw_mr0202_01.row.prog w) (lawA L fa) (eval in4 (compEnvC sc4 [(Str.ofString "text", Xc)] C (lawE L fa))) Q E s := by
  delta in4
  revert X; k_fill; intro X
  k_steps
  have htl : (tx ns).length = 3 * ns.length := by show (spl ns).toArray.size = _; rw [List.size_toArray, spl_length]
  refine len_str (by rw [htl]; omega) ?_
  rw [htl]
  k_steps
  show wpAny _ _ (call (Value.type "range") _) _ _ _
  refine call_range_3 (by decide) ?_ ?hp
  case hp => exact Or.inl (PyProof.noPylong_small (by omega))
  refine ⟨_, _, _, _, _, ns.length, led, rfl, rfl, F.keeps fun _ _ e => Heap.get?_push_of_some _ e, N.grown fun _ _ e => Heap.get?_push_of_some _ e, Heap.get?_push_size _ rfl, small3 hlen, size3, by rw [sizeLine_eq]; omega, ?_⟩
  rintro _ ⟨g, rfl⟩
  refine rest_of (fun i y => ∃ t k, ns[i]? = some k ∧ y = .int k t) trivial ?turn ?fin
  case turn =>
    rintro i _ I oI C oC D0 ys m2 h7 tk7 E7 hi ⟨t, rfl⟩ hC hx F7 N7
    have hk : ns[i]? = some (ns[i]) := by simp [hi]
    refine elt4 B X T F7 N7 (List.mem_cons_of_mem _ (List.mem_cons_of_mem _ (List.mem_cons_of_mem _ hX))) hd hlen ho hC (List.mem_cons_of_mem _ List.mem_cons_self) hx hk ?_
    intro h8 tk8 t8 F8 N8
    exact TurnC.intro ⟨_, _, hk, rfl⟩ F8 N8
  case fin =>
    intro ys hlen hys S h7 tk7 F7 N7 o1
    exact hret S ys h7 tk7 F7 N7 o1 (ints_of hlen hys)
end Mine
end
theorem Mine.freshLS4c : True := by k_with_none; w_top off; first | walk1 | trivial
-- LS4c
section
open PySem PySem.W PyProof.Rows PySem.Calls
set_option Elab.async false
set_option maxRecDepth 100000
namespace Mine
section
variable {M : Model} {A : Around} {E : Value → Shared → Prop} {s : Shared}
abbrev emptyCell : Obj := { cls := .type "cell", data := .cell none }
theorem new_env_cell {scope : Scope} {globals : Addr} {x qual : Str} {env : Env} {Q : Env → Shared → Prop} (hcells : ∀ n, cellsFrom n scope.names [] = [(x, n)]) (hpush : ∀ h, pushCells h scope.names = h.push emptyCell)
    (hQ : ∀ h', h'.Ns s.heap.objs.size (fun _ => none) → h'.get? (s.heap.objs.size + 1) = some emptyCell → (∀ b o, s.heap.get? b = some o → h'.get? b = some o) →
      Q { scope, locals := s.heap.objs.size, globals, cells := [(x, s.heap.objs.size + 1)], qual, func := none, code := env.code, frame := env.frame, builtins := env.builtins } { s with heap := h' }) :
    wpAny M A (newFunctionEnv scope globals [] [] qual none .none (some env)) Q E s := by
  simp only [newFunctionEnv, Option.isSome_some, if_true]
  refine wpAny_bind (wpAny_alloc ?_)
  refine wpAny_bind (wpAny_layCells _ (fun name kind cells => by cases hkc : kind == NameKind.cell <;> simp [hkc]) _ _ _ _ ?_)
  rw [hcells, hpush]
  rw [show ({ s with heap := s.heap.push { cls := .type "dict", data := .dict #[] } } : Shared).heap.objs.size = s.heap.objs.size + 1 from Heap.size_push ..]
  refine wpAny_bind (wpAny_pure (wpAny_pure ?_))
  refine hQ _ ((Heap.Ns.new s.heap (.type "dict")).keeps fun b o e => Heap.get?_push_of_some _ e) ?_ fun b o e => Heap.get?_push_of_some _ (Heap.get?_push_of_some _ e)
  exact Heap.get?_push_at (by rw [Heap.size_push]) rfl
end
section
variable {prog : Program} {w : World} {A : Around} {E : Value → Shared → Prop} {s : Shared} {h₀ : Heap} {L : Addr} {m : Str → Option Value} {env : Env}
/-- what a turn of the outer comprehension leaves: one more object -/
def TurnO (h₀ : Heap) (L : Addr) (m : Str → Option Value) (s₁ : Shared) (led : List (Addr × Obj)) (R : Obj → Prop) (y : Value) (s₂ : Shared) : Prop :=
  ∃ q h' tk', y = .ref q.1 ∧ R q.2 ∧ s₂ = { s₁ with heap := h', toks := tk' } ∧ Fr h₀ L h' m ∧ News h₀ L h' (q :: led) ∧ LCg.Off1 q.1 led
theorem off1_mem {D : Addr} : ∀ {l : List (Addr × Obj)}, LCg.Off1 D l → ∀ p ∈ l, p.1 ≠ D
  | [], _, _, h => nomatch h
  | _ :: _, x, p, h => by
    rcases List.mem_cons.mp h with rfl | h
    · exact x.1
    · exact off1_mem x.2 p h
def SrcC (prog : Program) (w : World) (A : Around) (h₀ : Heap) (L : Addr) (m : Str → Option Value) (env : Env) (elt : Expr) (x : Str) (scope : Scope) (R : Nat → Obj → Prop) (Q : Value → Shared → Prop) (xv : Value) (s₁ : Shared) : Prop :=
  ∃ ax its k news, xv = .ref ax ∧ A.handled = none ∧ Fr h₀ L s₁.heap m ∧ News h₀ L s₁.heap news ∧ (ax, ({ cls := .type "list", data := .seq its k } : Obj)) ∈ news ∧ its.size ≤ sizeLine ∧
    (∀ i v I oI C oC X oX D ys more h tk (E' : Value → Shared → Prop), its[i]? = some v → oX.data = .cell (some v) → Fr h₀ L h m → News h₀ L h ((I, oI) :: (C, oC) :: (X, oX) :: (D, LCg.lst ys) :: (more ++ news)) →
      wpAny (model prog w) A (eval elt (compEnvC scope [(x, X)] C env)) (TurnO h₀ L m s₁ ((I, oI) :: (C, oC) :: (X, oX) :: (D, LCg.lst ys) :: (more ++ news)) (R i)) E' { s₁ with heap := h, toks := tk }) ∧
    (∀ D more h tk, more.length = its.size → (∀ (j : Nat) (q : Addr × Obj), more.reverse[j]? = some q → R j q.2) → Fr h₀ L h m → News h₀ L h ((D, LCg.lst (more.reverse.map fun q => Value.ref q.1)) :: (more ++ news)) → Q (.ref D) { s₁ with heap := h, toks := tk })
theorem ListComp_cell {elt iter : Expr} {x : Str} {px : Pos} {scope : Scope} {pos : Pos} {R : Nat → Obj → Prop} {Q : Value → Shared → Prop} (F₀ : Fr h₀ L s.heap m)
    (hclos : closureFor scope env = pure []) (hcells : ∀ n, cellsFrom n scope.names [] = [(x, n)]) (hpush : ∀ h, pushCells h scope.names = h.push emptyCell) (hkind : scope.kind = .function)
    (hnames : ∀ y ∈ scope.names, y.2 = .local → scope.names.lookup y.1 = some .local) (hx : ∀ cl C, (compEnvC scope cl C env).kindOf x = some .cell)
    (h : wpAny (model prog w) A (eval iter env) (SrcC prog w A h₀ L m env elt x scope R Q) E s)
    (hs : ∀ x, foldedSetIterable iter env x = pure x := by intro _; rfl) :
    wpAny (model prog w) A (eval (.ListComp elt [⟨.Name x px, iter, [], 0⟩] scope pos) env) Q E s := by
  rw [eval_ListComp]
  refine wpAny_comprehension_free (use := none) rfl hs hclos hkind hnames (wpAny_mono h (fun xv s₁ h₁ => ?_) fun _ _ e => e)
  obtain ⟨ax, its, k, news, rfl, hh, F, N, hm, hsz, turn, fin⟩ := h₁
  have hl : s₁.heap.IsList ax its := ⟨_, (N _ hm).1, rfl, _, rfl⟩
  have hlt : ax < s₁.heap.objs.size := Heap.lt_size (N _ hm).1
  refine wpAny_pyIter_list hl ?_
  refine wpAny_newObj_type (new_env_cell hcells hpush fun h₁ hns₁ hX₁ hk₁ => ?_)
  dsimp only at hns₁ hX₁ hk₁ ⊢
  -- the addresses: I, D, C, X one after the other
  generalize hI : s₁.heap.objs.size = I at *
  generalize hH1 : s₁.heap.push { cls := .type "list_iterator", data := .fields #[.ref ax, .int 0 0] } = H1 at hns₁ hX₁ hk₁
  have hD : H1.objs.size = I + 1 := by rw [← hH1, Heap.size_push, hI]
  generalize hH2 : H1.push { cls := .type "list", dict := none, data := .seq ([] : List Value).toArray } = H2 at hns₁ hX₁ hk₁
  have hC : H2.objs.size = I + 2 := by rw [← hH2, Heap.size_push, hD]
  rw [hC] at hns₁ hX₁ ⊢
  rw [hD]
  have up2 : ∀ b o, s₁.heap.get? b = some o → H2.get? b = some o := fun b o e => by rw [← hH2]; exact Heap.get?_push_of_some _ (by rw [← hH1]; exact Heap.get?_push_of_some _ e)
  have old : ∀ b o, s₁.heap.get? b = some o → h₁.get? b = some o := fun b o e => hk₁ b o (up2 b o e)
  have hIt : h₁.IsListIter I ax 0 := ⟨_, hk₁ _ _ (by rw [← hH2]; exact Heap.get?_push_of_some _ (by rw [← hH1, ← hI]; exact Heap.get?_push_size _ rfl)), rfl, rfl⟩
  have hDv : h₁.get? (I + 1) = some (LCg.lst []) := hk₁ _ _ (by rw [← hH2, ← hD]; exact Heap.get?_push_size _ rfl)
  have fresh₀ : ∀ b : Nat, I ≤ b → h₀.get? b = none := fun b hb => by
    cases e : h₀.get? b with
    | none => rfl
    | some o => exact absurd (Heap.lt_size (F.keep b o e)) (by rw [hI]; exact Nat.not_lt.mpr hb)
  have hLI : @LT.lt Nat instLTNat L I := by rw [← hI]; exact F.ns.lt
  have offn : ∀ p ∈ news, @LT.lt Nat instLTNat p.1 I := fun p hp => by rw [← hI]; exact Heap.lt_size (N p hp).1
  have axm : ∀ {h' : Heap} {more : List (Addr × Obj)} {q : Addr × Obj}, News h₀ L h' (q :: (more ++ news)) → h'.IsList ax its := fun {h' more q} N' => ⟨_, (N' _ (List.mem_cons_of_mem _ (List.mem_append_right _ hm))).1, rfl, _, rfl⟩
  have loop : codeAny (model prog w) A (.compLoop (.ListComp elt [⟨.Name x px, iter, [], 0⟩] scope pos) 0 (.ref I) (.ref (I + 1)) (compEnvC scope [(x, I + 3)] (I + 2) env))
      (compPost (model prog w) A E none Q (Value.ref (I + 1)) (I + 2)) { s₁ with heap := h₁ } := by
    refine codeAny_compLoop_tests
      (fun n s' => ∃ h' tk more m' oX, s' = { s₁ with heap := h', toks := tk } ∧ more.length ≤ its.size ∧ n = its.size + 1 - more.length ∧ h'.IsListIter I ax more.length ∧ Fr h₀ L h' m ∧ h'.Ns (I + 2) m' ∧
        (h'.get? (I + 3) = some oX ∧ ∃ v, oX.data = .cell v) ∧ News h₀ L h' ((I + 1, LCg.lst (more.reverse.map fun q => Value.ref q.1)) :: (more ++ news)) ∧
        (∀ q ∈ more, @Ne Nat q.1 I ∧ @Ne Nat q.1 (I + 1) ∧ @Ne Nat q.1 (I + 2) ∧ @Ne Nat q.1 (I + 3)) ∧ (∀ (j : Nat) (q : Addr × Obj), more.reverse[j]? = some q → R j q.2)) ?_ (its.size + 1)
      ⟨h₁, s₁.toks, [], _, _, rfl, Nat.zero_le _, rfl, hIt, F.keeps old, hns₁, ⟨hX₁, _, rfl⟩, fun p hp => ?_, (fun q hq => by cases hq), (fun j q hq => by simp at hq)⟩
    · rintro n _ ⟨h', tk, more, m', oX, rfl, hle, rfl, hit, F', hn', ⟨hXo, v0, hXd⟩, N', off, hR⟩
      have hl' := axm N'
      by_cases hlt' : more.length < its.size
      · have hv : its[more.length]? = some its[more.length] := by simp [hlt']
        refine wpAny_pyNext_list_item hit hl' hv fun h₂ hit₂ hs₂ => ?_
        refine wpAny_assign_Name (wpAny_storeName_cell (by show scope.kind = _; exact hkind) (hx _ _) (by simp [compEnvC]) ⟨oX, hs₂.extBut _ _ (by omega : @Ne Nat (I + 3) I) hXo, hXd⟩ fun h₃ hc₃ hs₃ => ?_)
        refine wpAny_tests_nil ?_
        simp only [if_true]
        obtain ⟨oX₃, hX₃, hXd₃⟩ := hc₃
        have offN : ∀ p ∈ (more ++ news), @Ne Nat p.1 I ∧ @Ne Nat p.1 (I + 1) ∧ @Ne Nat p.1 (I + 2) ∧ @Ne Nat p.1 (I + 3) := fun p hp => by
          rcases List.mem_append.mp hp with hp | hp
          · exact off p hp
          · have := offn p hp; omega
        have up3 : ∀ b o, @Ne Nat b I → @Ne Nat b (I + 3) → h'.get? b = some o → h₃.get? b = some o := fun b o n1 n2 e => hs₃.extBut b o n2 (hs₂.extBut b o n1 e)
        have F₃ : Fr h₀ L h₃ m := ⟨F'.ns.at' fun o e => up3 L o (by omega) (by omega) e, fun b o e => up3 b o (fun q => by rw [q, fresh₀ I (Nat.le_refl _)] at e; cases e) (fun q => by rw [q, fresh₀ (I + 3) (by omega)] at e; cases e) (F'.keep b o e), F'.above⟩
        obtain ⟨oI, hoI, hoI2⟩ := hit₂
        obtain ⟨oC, hoC, hoC2⟩ := LCg.ns_obj hn'
        have hI₃ : h₃.get? I = some oI := hs₃.extBut _ _ (by omega : @Ne Nat I (I + 3)) hoI
        have hC₃ : h₃.get? (I + 2) = some oC := up3 _ _ (by omega : @Ne Nat (I + 2) I) (by omega : @Ne Nat (I + 2) (I + 3)) hoC
        have N₃ : News h₀ L h₃ ((I, oI) :: (I + 2, oC) :: (I + 3, oX₃) :: (I + 1, LCg.lst (more.reverse.map fun q => Value.ref q.1)) :: (more ++ news)) := fun p hp => by
          rcases List.mem_cons.mp hp with rfl | hp
          · exact ⟨hI₃, (by omega : @Ne Nat I L), fresh₀ _ (Nat.le_refl _)⟩
          rcases List.mem_cons.mp hp with rfl | hp
          · exact ⟨hC₃, (by omega : @Ne Nat (I + 2) L), fresh₀ _ (by omega)⟩
          rcases List.mem_cons.mp hp with rfl | hp
          · exact ⟨hX₃, (by omega : @Ne Nat (I + 3) L), fresh₀ _ (by omega)⟩
          have z := N' p hp
          rcases List.mem_cons.mp hp with rfl | hp
          · exact ⟨up3 _ _ (by omega : @Ne Nat (I + 1) I) (by omega : @Ne Nat (I + 1) (I + 3)) z.1, z.2⟩
          · exact ⟨up3 _ _ (offN p hp).1 (offN p hp).2.2.2 z.1, z.2⟩
        refine wpAny_mono (turn more.length its[more.length] I oI (I + 2) oC (I + 3) oX₃ (I + 1) _ more h₃ _ _ hv hXd₃ F₃ N₃) (fun y s₄ h₄ => ?_) fun _ _ e => e
        obtain ⟨q, h₄, tk₄, rfl, hRq, rfl, F₄, N₄, o1⟩ := h₄
        have oq := off1_mem o1
        have q1 : @Ne Nat q.1 I := Ne.symm (oq (I, oI) (by simp))
        have q2 : @Ne Nat q.1 (I + 2) := Ne.symm (oq (I + 2, oC) (by simp))
        have q3 : @Ne Nat q.1 (I + 3) := Ne.symm (oq (I + 3, oX₃) (by simp))
        have q4 : @Ne Nat q.1 (I + 1) := Ne.symm (oq (I + 1, LCg.lst (more.reverse.map fun q => Value.ref q.1)) (by simp))
        have zD := (N₄ (I + 1, LCg.lst (more.reverse.map fun q => Value.ref q.1)) (by simp)).1
        refine append_at (hsz := by rw [List.size_toArray, List.length_map, List.length_reverse]; omega) zD fun h₅ hs₅ hD₅ => ?_
        have offN' : ∀ p ∈ ((q :: more) ++ news), @Ne Nat p.1 I ∧ @Ne Nat p.1 (I + 1) ∧ @Ne Nat p.1 (I + 2) ∧ @Ne Nat p.1 (I + 3) := fun p hp => by
          rcases List.mem_cons.mp hp with rfl | hp
          · exact ⟨q1, q4, q2, q3⟩
          · exact offN p hp
        refine ⟨its.size + 1 - (q :: more).length, by rw [List.length_cons]; omega, h₅, tk₄, q :: more, m', oX₃, rfl, by rw [List.length_cons]; omega, rfl, ?_, ?_, ?_, ⟨?_, _, hXd₃⟩, fun p hp => ?_, fun p hp => (offN' p (List.mem_append_left _ hp)), ?_⟩
        · exact ⟨oI, hs₅.extBut _ _ (by omega : @Ne Nat I (I + 1)) (N₄ (I, oI) (by simp)).1, hoI2⟩
        · exact F₄.change hs₅ (by omega : @Ne Nat (I + 1) L) (fresh₀ _ (by omega))
        · exact (hoC2.ns (N₄ (I + 2, oC) (by simp)).1).sameBut hs₅ (by omega : @Ne Nat (I + 2) (I + 1))
        · exact hs₅.extBut _ _ (by omega : @Ne Nat (I + 3) (I + 1)) (N₄ (I + 3, oX₃) (by simp)).1
        · rcases List.mem_cons.mp hp with rfl | hp
          · have z := N₄ (I + 1, LCg.lst (more.reverse.map fun q => Value.ref q.1)) (by simp)
            refine ⟨hD₅.trans (congrArg some ?_), z.2⟩
            rw [List.reverse_cons, List.map_append]
            exact LCg.lst_snoc _ _
          · have z := N₄ p (by
              rcases List.mem_cons.mp hp with rfl | hp
              · exact List.mem_cons_self
              · exact List.mem_cons_of_mem _ (List.mem_cons_of_mem _ (List.mem_cons_of_mem _ (List.mem_cons_of_mem _ (List.mem_cons_of_mem _ hp)))))
            exact ⟨hs₅.extBut _ _ (offN' p hp).2.1 z.1, z.2⟩
        · intro j z hz
          rw [List.reverse_cons] at hz
          by_cases hj : j < more.reverse.length
          · rw [List.getElem?_append_left hj] at hz
            exact hR j z hz
          · rw [List.getElem?_append_right (Nat.not_lt.mp hj)] at hz
            have hj2 : j - more.reverse.length = 0 := by
              have := (List.getElem?_eq_some_iff.mp hz).1
              rw [List.length_singleton] at this; omega
            rw [hj2] at hz
            have hz' : q = z := Option.some.inj hz
            subst hz'
            have e9 : more.reverse.length = more.length := List.length_reverse
            have : j = more.length := by omega
            subst this
            exact hRq
      · have hlen : more.length = its.size := by omega
        have hv : its[more.length]? = none := by rw [hlen]; simp
        refine wpAny_pyNext_list_end hh hit hl' hv fun h₂ he₂ => ?_
        have up : ∀ b o, @Ne Nat b I → h'.get? b = some o → h₂.get? b = some o := fun b o n1 e => he₂ b o n1 e
        refine ⟨m', hn'.at' fun o e => up _ o (by omega : @Ne Nat (I + 2) I) e, fun h'' hs'' => ?_⟩
        have up4 : ∀ b o, @Ne Nat b I → @Ne Nat b (I + 2) → h'.get? b = some o → h''.get? b = some o := fun b o n1 n2 e => hs''.extBut b o n2 (up b o n1 e)
        refine fin (I + 1) more h'' _ hlen hR ⟨F'.ns.at' fun o e => up4 L o (by omega) (by omega) e, fun b o e => up4 b o (fun q => by rw [q, fresh₀ I (Nat.le_refl _)] at e; cases e) (fun q => by rw [q, fresh₀ (I + 2) (by omega)] at e; cases e) (F'.keep b o e), F'.above⟩ fun p hp => ?_
        have z := N' p hp
        rcases List.mem_cons.mp hp with rfl | hp
        · exact ⟨up4 _ _ (by omega : @Ne Nat (I + 1) I) (by omega : @Ne Nat (I + 1) (I + 2)) z.1, z.2⟩
        · rcases List.mem_append.mp hp with hp | hp
          · exact ⟨up4 _ _ (off p hp).1 (off p hp).2.2.1 z.1, z.2⟩
          · have := offn p hp
            exact ⟨up4 _ _ (by omega) (by omega) z.1, z.2⟩
    · rcases List.mem_cons.mp hp with rfl | hp
      · exact ⟨hDv, (by omega : @Ne Nat (I + 1) L), fresh₀ _ (by omega)⟩
      · exact ⟨old _ _ (N p hp).1, (N p hp).2⟩
  exact codeAny_compStart_list loop (wpAny_pyIter_listiter hIt loop)
end
end Mine
end
theorem Mine.freshLS4 : True := by k_with_none; w_top off; first | walk1 | trivial
-- LS4
section
open PySem PySem.W PyProof.Rows PySem.Calls
set_option Elab.async false
set_option maxRecDepth 100000
namespace Mine
open Hd (KK)
open PySem.SeqAt
/-- what an inner list is -/
def InnerR (rs : List (Addr × List Int)) (i : Nat) (o : Obj) : Prop := ∃ vs r, rs[i]? = some r ∧ o = LCg.lst vs ∧ IntsAre vs r.2
theorem reads_ints {h : Heap} : ∀ {vs : List Value} {ns : List Int}, IntsAre vs ns → ReadsAll h vs (ns.map PyData.int) []
  | _, _, .nil => .nil
  | _, _, .cons _ _ r => readsAll_cons_val (.int _ _) (reads_ints r)
theorem rowds_lay : ∀ (rs : List (Addr × List Int)), PyData.canLayAll0 (rowds rs) = true ∧ PyData.depthAll (rowds rs) ≤ 1
  | [] => ⟨rfl, by show 0 ≤ 1; omega⟩
  | r :: rs => by
    have ih := rowds_lay rs
    have hi : ∀ ns : List Int, PyData.canLayAll0 (ns.map PyData.int) = true ∧ PyData.depthAll (ns.map PyData.int) = 0 := by
      intro ns
      induction ns with
      | nil => exact ⟨rfl, rfl⟩
      | cons n ns ih => exact ⟨by show (true && PyData.canLayAll0 _) = true; rw [ih.1]; rfl, by show max 0 (PyData.depthAll _) = 0; rw [ih.2]; rfl⟩
    refine ⟨?_, ?_⟩
    · show (PyData.canLayAll0 (r.2.map PyData.int) && PyData.canLayAll0 (rowds rs)) = true
      rw [(hi r.2).1, ih.1]; rfl
    · show max (PyData.depthAll (r.2.map PyData.int) + 1) (PyData.depthAll (rowds rs)) ≤ 1
      rw [(hi r.2).2]
      have := ih.2
      omega
theorem rowds_shaped (rs : List (Addr × List Int)) : shaped (.list (rowds rs)) = true := by
  have z := rowds_lay rs
  unfold shaped
  refine Bool.and_eq_true_iff.mpr ⟨z.1, decide_eq_true ?_⟩
  show PyData.depthAll (rowds rs) + 1 ≤ 64
  omega
theorem rowds_eqv (rs : List (Addr × List Int)) : PyData.eqv (.list (rowds rs)) (.list (rowds rs)) = true := eqv_refl _ (rowds_lay rs).1
theorem reads_rows {h : Heap} : ∀ (rs : List (Addr × List Int)), (∀ r ∈ rs, ∃ (vs : List Value) (n : Nat), h.get? r.1 = some (W.listOf vs.toArray n) ∧ IntsAre vs r.2) → ∃ as, ReadsAll h (rs.map fun r => Value.ref r.1) (rowds rs) as
  | [], _ => ⟨_, .nil⟩
  | r :: rs, hr => by
    obtain ⟨vs, n, h1, h2⟩ := hr r List.mem_cons_self
    obtain ⟨as, h3⟩ := reads_rows rs fun q hq => hr q (List.mem_cons_of_mem _ hq)
    exact ⟨_, .cons (reads_list_at h1 rfl rfl (by simpa using reads_ints h2)) h3⟩
theorem reads_inner {h : Heap} : ∀ (qs : List (Addr × Obj)) (rs : List (Addr × List Int)), qs.length = rs.length → (∀ q ∈ qs, h.get? q.1 = some q.2) → (∀ (j : Nat) (q : Addr × Obj), qs[j]? = some q → InnerR rs j q.2) → ∃ as, ReadsAll h (qs.map fun q => Value.ref q.1) (rowds rs) as
  | [], [], _, _, _ => ⟨_, .nil⟩
  | [], _ :: _, h, _, _ => by simp at h
  | _ :: _, [], h, _, _ => by simp at h
  | q :: qs, r :: rs, hl, hg, hq => by
    obtain ⟨vs, r', h1, h2, h3⟩ := hq 0 q rfl
    have : r = r' := Option.some.inj h1
    subst this
    obtain ⟨as, h4⟩ := reads_inner qs rs (by simpa using hl) (fun z hz => hg z (List.mem_cons_of_mem _ hz)) fun j z hz => by
      obtain ⟨vs, r', e1, e2, e3⟩ := hq (j + 1) z (by simpa using hz)
      exact ⟨vs, r', by simpa using e1, e2, e3⟩
    have hg0 := hg q List.mem_cons_self
    rw [h2] at hg0
    exact ⟨_, .cons (reads_list_at hg0 rfl rfl (by simpa using reads_ints h3)) h4⟩
theorem reads_drawn {h₀ h : Heap} {L R : Addr} {D news : List (Addr × Obj)} {rs : List (Addr × List Int)} (N : News h₀ L h news) (hr : RowsD D R rs) (sub : ∀ p ∈ D, p ∈ news) : ∃ as, Reads h (.ref R) (.list (rowds rs)) as := by
  obtain ⟨⟨nR, hR⟩, hr3, hr5, hrows⟩ := hr
  obtain ⟨as, ra⟩ := reads_rows (h := h) rs fun r hr => by
    obtain ⟨vs, n, h1, h2, _⟩ := hrows r hr
    exact ⟨vs, n, (N _ (sub _ h1)).1, h2⟩
  exact ⟨_, reads_list_at (N _ (sub _ hR)).1 rfl rfl (by simpa using ra)⟩
local macro_rules | `(tactic| walk_at "eval ListComp") => `(tactic| (k_here; refine stop_here ?_))
local macro_rules | `(tactic| walk_at "SrcC") => `(tactic| (k_here; refine stop_here ?_))
local macro_rules | `(tactic| walk_at "compareOp NotEq ref ref") => `(tactic| (k_here; refine stop_here ?_))
set_option maxHeartbeats 8000000 in
theorem s4 {w : World} {p : Program} {loose : List Str} {mean : ExcName → Option Value} {mg mb : Str → Option Value} {h₀ : Heap} {L fa R S : Addr} {m : Str → Option Value} {s : Shared} {Q : Flow → Shared → Prop} {E : Value → Shared → Prop} {oS oD oP : Obj} {D : List (Addr × Obj)} {rs : List (Addr × List Int)} {t1 t2 : Array Value} {ys : List Value}
    (B : Below callerA h₀ [] h₀) (X : (KK w.params).In h₀) (T : Top p loose mean mg mb h₀)
    (F : Fr h₀ L s.heap m) (N : News h₀ L s.heap (Five L oS oD oP t1 t2 D))
    (hS : oS.data = .cell (some (.ref S))) (hD : oD.data = .cell (some (.ref R))) (hr : RowsD D R rs) (hs : SpellD D S rs ys)
    (hret : ∀ h' tk', Fr h₀ L h' m → News h₀ L h' (Five L oS oD oP t1 t2 D) → Q .next { s with heap := h', toks := tk' }) :
    wpAny (model PySem.Challenge.rw_mr0202_01.row.prog w) (lawA L fa) (exec st4 (lawE L fa)) Q E s := by
  have N5 := N
  delta st4
  unfold Five at N
  revert X; k_fill; intro X
  k_steps
  show wpAny _ _ (eval (Expr.ListComp _ _ _ _) _) _ _ _
  refine ListComp_cell (R := InnerR rs) F (by with_unfolding_all rfl) (by intro _; rfl) (by intro _; rfl) (by rfl) (by decide) (by intro _ _; rfl) ?_
  k_steps
  have hS9 : (S, LCg.lst ys) ∈ Five L oS oD oP t1 t2 D := List.mem_cons_of_mem _ (List.mem_cons_of_mem _ (List.mem_cons_of_mem _ (List.mem_cons_of_mem _ (List.mem_cons_of_mem _ hs.1))))
  have hylen : ys.toArray.size = rs.length := by rw [List.size_toArray, hs.2.1]
  refine ⟨S, ys.toArray, ys.length, Five L oS oD oP t1 t2 D, rfl, rfl, F, N5, hS9, by rw [hylen, sizeLine_eq]; have := hr.2.2.1; omega, ?turn, ?fin⟩
  case turn =>
    intro i v I oI C oC Xc oX D0 zs more h7 tk7 E7 hv hoX F7 N7
    obtain ⟨t, r, hr0, rfl⟩ := hs.2.2 i v (by simpa using hv)
    obtain ⟨vr, nr, hrD, hri, hrl, hro⟩ := hr.2.2.2 r (List.mem_of_getElem? hr0)
    refine inner4 B X T F7 N7 (by simp : (Xc, oX) ∈ _) hoX hrl hro ?_
    intro D1 vs h8 tk8 F8 N8 o8 hvs
    exact ⟨(D1, LCg.lst vs), h8, tk8, rfl, ⟨vs, r, hr0, rfl, hvs⟩, rfl, F8, N8, o8⟩
  case fin =>
    intro D1 more h7 tk7 hml hmr F7 N7
    show wpAny _ _ _ _ _ _
    have N8 : News h₀ L h7 (Five L oS oD oP t1 t2 D) := fun p hp => N7 p (List.mem_cons_of_mem _ (List.mem_append_right _ hp))
    obtain ⟨as1, ra1⟩ := reads_inner (h := h7) more.reverse rs (by rw [List.length_reverse, hml, hylen]) (fun q hq => (N7 q (List.mem_cons_of_mem _ (List.mem_append_left _ (List.mem_reverse.mp hq)))).1) hmr
    have rd1 : Reads h7 (.ref D1) (.list (rowds rs)) (D1 :: as1) := reads_list_at (N7 _ List.mem_cons_self).1 rfl rfl (by simpa using ra1)
    obtain ⟨as2, rd2⟩ := reads_drawn N8 hr fun p hp => List.mem_cons_of_mem _ (List.mem_cons_of_mem _ (List.mem_cons_of_mem _ (List.mem_cons_of_mem _ (List.mem_cons_of_mem _ hp))))
    have hq : (!PyData.eqv (.list (rowds rs)) (.list (rowds rs))) = false := by rw [rowds_eqv]; rfl
    clear N7 N5 N
    have N9 := N8
    unfold Five at N9
    k_steps
    show wpAny _ _ (compareOp CmpOp.NotEq _ _) _ _ _
    refine ne_dataH rd1 rd2 (rowds_shaped rs) (rowds_shaped rs) (lawUnits L fa) ?_
    rw [hq]
    k_steps
    exact hret h7 tk7 F7 N8
end Mine
end
theorem Mine.freshLLt : True := by k_with_none; w_top off; first | walk1 | trivial
-- LLt
section
open PySem PySem.W PyProof.Rows PySem.Calls PySem.SeqAt PySem.MeetsSeq PySem.MeetsSeq2 PySem.MeetsSeq3
open AutoSeq1 (wpAny_loadPart')
set_option Elab.async false
set_option maxRecDepth 100000
namespace Mine
theorem lt_loopAt (l b : Addr) (items items2 : Array Value) (n n2 : Nat) (dd dd2 : Option Addr) (sl sl2 : Array (Option Value)) (ns ms : List Int) (h1 : IntsAre items.toList ns) (h2 : IntsAre items2.toList ms) : ∀ (k i : Nat), items.size - i = k → i ≤ items.size → i ≤ items2.size →
    Meets (Builtin.«list.__eq__.loop» ⟨[.ref l, .ref b, rawInt i, rawInt 0], []⟩)
      (fun A R s => s.heap.get? l = some { cls := .type "list", dict := dd, data := .seq items n, slots := sl } ∧ s.heap.get? b = some { cls := .type "list", dict := dd2, data := .seq items2 n2, slots := sl2 } ∧
        R (.ok (.ret (.bool (decide (ns.drop i < ms.drop i))))) s) := by
  have z1 : items.size = ns.length := by simpa using h1.length
  have z2 : items2.size = ms.length := by simpa using h2.length
  intro k
  induction k with
  | zero =>
    intro i hk hi1 hi2 prog w A R s h
    obtain ⟨hp, g, d, tk, os⟩ := s; obtain ⟨hl, hb, h⟩ := h
    wp_walk using wpAny_loadPart' hl, wpAny_loadPart' hb
    have e1 : items[((i : Nat) : Int).toNat]? = none := by simp; omega
    have hv : decide (ns.drop i < ms.drop i) = decide (items.size < items2.size) := by
      have : i = ns.length := by omega
      subst this
      rw [List.drop_length, z1, z2]
      refine decide_eq_decide.mpr ⟨fun h => ?_, fun h => ?_⟩
      · cases hd : ms.drop ns.length with
        | nil => rw [hd] at h; exact absurd h (by decide)
        | cons x r => have := congrArg List.length hd; rw [List.length_drop, List.length_cons] at this; omega
      · cases hd : ms.drop ns.length with
        | nil => have := congrArg List.length hd; rw [List.length_drop, List.length_nil] at this; omega
        | cons x r => exact List.nil_lt_cons ..
    rw [hv] at h
    rw [e1]
    wp_walk using wpAny_loadPart' hl, wpAny_loadPart' hb
    exact h
  | succ k ih =>
    intro i hk hi1 hi2 prog w A R s h
    obtain ⟨hp, g, d, tk, os⟩ := s; obtain ⟨hl, hb, h⟩ := h
    wp_walk using wpAny_loadPart' hl, wpAny_loadPart' hb
    have hlt : i < items.size := by omega
    obtain ⟨u, hu⟩ := h1.get i ns[i] (by simp [show i < ns.length by omega])
    have e1 : items[((i : Nat) : Int).toNat]? = some (.int ns[i] u) := by rw [Int.toNat_natCast]; simpa using hu
    rw [e1]
    have hdn : ns.drop i = ns[i] :: ns.drop (i + 1) := List.drop_eq_getElem_cons (by omega)
    rcases Nat.lt_or_ge i items2.size with hlt2 | hge2
    · obtain ⟨v, hv⟩ := h2.get i ms[i] (by simp [show i < ms.length by omega])
      have e2 : items2[((i : Nat) : Int).toNat]? = some (.int ms[i] v) := by rw [Int.toNat_natCast]; simpa using hv
      rw [e2]
      have hdm : ms.drop i = ms[i] :: ms.drop (i + 1) := List.drop_eq_getElem_cons (by omega)
      have hc : ((i : Int) + 1) = ((i + 1 : Nat) : Int) := by push_cast; rfl
      rw [hdn, hdm] at h
      refine wpAny_bind (EqAt.int_int ns[i] u ms[i] v prog w _ _ ?_)
      cases hb' : (ns[i] == ms[i]) with
      | true =>
        have he : ns[i] = ms[i] := beq_iff_eq.mp hb'
        rw [show decide (ns[i] :: ns.drop (i + 1) < ms[i] :: ms.drop (i + 1)) = decide (ns.drop (i + 1) < ms.drop (i + 1)) from decide_eq_decide.mpr (by rw [List.cons_lt_cons_iff, he]; simp)] at h
        wp_walk
        rw [hc]
        exact ⟨plainId_quiet plain_eq_loop _, codeAny_builtin entry_eq_loop (by
          rw [Around.under_plainId plain_eq_loop _]
          exact ih (i + 1) (by omega) (by omega) (by omega) prog w A R _ ⟨hl, hb, h⟩)⟩
      | false =>
        have he : ns[i] ≠ ms[i] := fun q => by rw [q] at hb'; simp at hb'
        rw [show decide (ns[i] :: ns.drop (i + 1) < ms[i] :: ms.drop (i + 1)) = decide (ns[i] < ms[i]) from decide_eq_decide.mpr (by rw [List.cons_lt_cons_iff]; simp [he])] at h
        wp_walk using wpAny_loadPart' hl, wpAny_loadPart' hb
        rw [e1, e2]
        dsimp only
        refine wpAny_bind ?_
        show wpAny _ _ (compareOp .Lt (.int ns[i] u) (.int ms[i] v)) _ _ _
        refine PyProof.Rows.lt_int (wpAny_pure ?_)
        exact h
    · have e2 : items2[((i : Nat) : Int).toNat]? = none := by simp; omega
      have hv : decide (ns.drop i < ms.drop i) = decide (items.size < items2.size) := by
        have : ms.drop i = [] := List.drop_of_length_le (by omega)
        rw [this, hdn]
        refine decide_eq_decide.mpr ⟨fun h => ?_, fun h => by omega⟩
        exact absurd h (by simp)
      rw [hv] at h
      rw [e2]
      wp_walk using wpAny_loadPart' hl, wpAny_loadPart' hb
      exact h
theorem list_ltAt (l b : Addr) (items items2 : Array Value) (n n2 : Nat) (dd dd2 : Option Addr) (sl sl2 : Array (Option Value)) (ns ms : List Int) (h1 : IntsAre items.toList ns) (h2 : IntsAre items2.toList ms) :
    Meets (Builtin.«list.__lt__» ⟨[.ref l, .ref b], []⟩)
      (fun _ R s => s.heap.get? l = some { cls := .type "list", dict := dd, data := .seq items n, slots := sl } ∧ s.heap.get? b = some { cls := .type "list", dict := dd2, data := .seq items2 n2, slots := sl2 } ∧
        R (.ok (.ret (.bool (decide (ns < ms))))) s) := by
  intro prog w A R s h
  obtain ⟨hp, g, d, tk, os⟩ := s; obtain ⟨hl, hb, h⟩ := h
  have f3 := AutoSeq1.sub_list_list
  wp_walk using wpAny_loadPart' hl, wpAny_loadPart' hb
  exact ⟨plainId_quiet plain_eq_loop _, codeAny_builtin entry_eq_loop (by
    rw [Around.under_plainId plain_eq_loop _]
    exact lt_loopAt l b items items2 n n2 dd dd2 sl sl2 ns ms h1 h2 _ 0 rfl (Nat.zero_le _) (Nat.zero_le _) prog w A R _ ⟨hl, hb, by simpa using h⟩)⟩
/-- one list of ints is below another -/
theorem lt_lists {prog : Program} {w : World} {A : Around} {E : Value → Shared → Prop} {s : Shared} {l b : Addr} {vs vs2 : List Value} {ns ms : List Int} {Q : Value → Shared → Prop} (hl : s.heap.IsList l vs.toArray) (hb : s.heap.IsList b vs2.toArray) (h1 : IntsAre vs ns) (h2 : IntsAre vs2 ms) (hu : A.units < cLine)
    (h : Q (.bool (decide (ns < ms))) s) : wpAny (model prog w) A (richCompare .Lt (.ref l) (.ref b)) Q E s := by
  obtain ⟨⟨cls, dd, data, sl⟩, ho, hc, n, hd⟩ := id hl
  obtain ⟨⟨cls2, dd2, data2, sl2⟩, ho2, hc2, n2, hd2⟩ := id hb
  simp only at hc hd hc2 hd2
  subst hc hd hc2 hd2
  exact richCompare_meets_room (op := .Lt) ⟨_, ho, rfl⟩ ⟨_, ho2, rfl⟩ F.slot_list_lt F.entry_list_lt (F.args_list_lt_2 _ _) (list_ltAt l b vs.toArray vs2.toArray n n2 dd dd2 sl sl2 ns ms (by simpa using h1) (by simpa using h2))
    ⟨ho, ho2, show Value.bool (decide (ns < ms)) ≠ Value.notImplemented ∧ Q (.bool (decide (ns < ms))) s from ⟨(fun x => nomatch x), h⟩⟩ hu
end Mine
end
theorem Mine.freshLS6 : True := by k_with_none; w_top off; first | walk1 | trivial
-- LS6
section
open PySem PySem.W PyProof.Rows PySem.Calls
set_option Elab.async false
set_option maxRecDepth 100000
namespace Mine
open Hd (KK)
open PySem.SeqAt
/-- the parts of the sixth statement -/
noncomputable def ct6 : Expr := by
  refine (?f : st6 = .If (.Compare (.ListComp ?el [⟨?ta, ?ia, [], 0⟩, ⟨?tb, ?ib, [?ct], 0⟩] ?sc ?ps) ?o ?c ?q) ?b ?e ?z → Expr) ?h
  case h => exact rfl
  case f => exact fun _ => ?ct
noncomputable def sc6 : Scope := by
  refine (?f : st6 = .If (.Compare (.ListComp ?el [⟨?ta, ?ia, [], 0⟩, ⟨?tb, ?ib, [?ct], 0⟩] ?sc ?ps) ?o ?c ?q) ?b ?e ?z → Scope) ?h
  case h => exact rfl
  case f => exact fun _ => ?sc
abbrev cl6 (L : Addr) : List (Str × Addr) := [(Str.ofString "spelled", L + 1 + 1 + 1), (Str.ofString "places", L + 1), (Str.ofString "drawn", L + 1 + 1)]
theorem clos6 (L fa : Addr) : closureFor sc6 (lawE L fa) = pure (cl6 L) := by with_unfolding_all rfl
theorem small1 {n : Nat} (h : n ≤ 5) : Builtin.Range.small 0 ((n : Nat) : Int) 1 = true := by
  have key : ∀ n, n ≤ 5 → Builtin.Range.small 0 ((n : Nat) : Int) 1 = true := by decide +kernel
  exact key n h
theorem size1 {n : Nat} : Builtin.Range.rangeSize 0 ((n : Nat) : Int) 1 = (n : Int) := by
  unfold Builtin.Range.rangeSize
  simp
  omega
theorem ints_eqv : ∀ ns ms : List Int, PyData.eqv (.list (ns.map PyData.int)) (.list (ms.map PyData.int)) = decide (ns = ms)
  | [], [] => rfl
  | [], _ :: _ => rfl
  | _ :: _, [] => rfl
  | n :: ns, m :: ms => by
    have ih := ints_eqv ns ms
    show ((n == m) && PyData.eqvAll (ns.map PyData.int) (ms.map PyData.int)) = _
    have ih' : PyData.eqvAll (ns.map PyData.int) (ms.map PyData.int) = decide (ns = ms) := ih
    rw [ih', Bool.eq_iff_iff]
    simp
theorem ints_lay : ∀ ns : List Int, PyData.canLayAll0 (ns.map PyData.int) = true ∧ PyData.depthAll (ns.map PyData.int) = 0
  | [] => ⟨rfl, rfl⟩
  | n :: ns => ⟨by show (true && PyData.canLayAll0 _) = true; rw [(ints_lay ns).1]; rfl, by show max 0 (PyData.depthAll _) = 0; rw [(ints_lay ns).2]; rfl⟩
theorem ints_shaped (ns : List Int) : shaped (.list (ns.map PyData.int)) = true := by
  have z := ints_lay ns
  unfold shaped
  refine Bool.and_eq_true_iff.mpr ⟨z.1, decide_eq_true ?_⟩
  show PyData.depthAll _ + 1 ≤ 64
  rw [z.2]; decide
theorem spell_at {D : List (Addr × Obj)} {S : Addr} {rs : List (Addr × List Int)} {ys : List Value} (h : SpellD D S rs ys) {i : Nat} {r : Addr × List Int} (hi : rs[i]? = some r) : ∃ t, ys[i]? = some (.str (tx r.2) t) := by
  have hlt : i < ys.length := by rw [h.2.1]; exact (List.getElem?_eq_some_iff.mp hi).1
  obtain ⟨t, r', h1, h2⟩ := h.2.2 i ys[i] (by simp [hlt])
  rw [hi] at h1
  cases h1
  exact ⟨t, by rw [← h2]; simp [hlt]⟩
local macro_rules | `(tactic| walk_at "call ref") => `(tactic| (k_here; (with_reducible show wpAny _ _ (call (Value.ref 166) _) _ _ _); refine stop_here ?_))
local macro_rules | `(tactic| walk_at "compareOp Lt ref ref") => `(tactic| (k_here; refine stop_here ?_))
local macro_rules | `(tactic| walk_at "compareOp Eq ref ref") => `(tactic| (k_here; refine stop_here ?_))
local macro_rules | `(tactic| walk_at "subscriptTail Name Name ref int") => `(tactic| (k_here; refine stop_here ?_))
local macro_rules | `(tactic| walk_at "subscriptTail") => `(tactic| (k_here; refine stop_here ?_))
set_option maxHeartbeats 8000000 in
theorem test6 {w : World} {p : Program} {loose : List Str} {mean : ExcName → Option Value} {mg mb : Str → Option Value} {h₀ : Heap} {L fa R S I J C D0 : Addr} {oI oJ oC : Obj} {m m₂ : Str → Option Value} {s : Shared} {Q : Bool → Shared → Prop} {E : Value → Shared → Prop} {oS oD oP : Obj} {D : List (Addr × Obj)} {rs : List (Addr × List Int)} {t1 t2 : Array Value} {ys : List Value} {i j : Nat} {ti tj : Tok}
    (B : Below callerA h₀ [] h₀) (X : (KK w.params).In h₀) (T : Top p loose mean mg mb h₀)
    (F : Fr h₀ L s.heap m) (N : News h₀ L s.heap ((I, oI) :: (J, oJ) :: (C, oC) :: (D0, LCg.lst []) :: Five L oS oD oP t1 t2 D))
    (hS : oS.data = .cell (some (.ref S))) (hD : oD.data = .cell (some (.ref R))) (hr : RowsD D R rs) (hs : SpellD D S rs ys)
    (hC : LCg.NsObj oC m₂) (hi : i < rs.length) (hj : j < rs.length) (hma : m₂ (Str.ofString "a") = some (.int (i : Int) ti)) (hmb : m₂ (Str.ofString "b") = some (.int (j : Int) tj))
    (hret : ∀ h' tk', Fr h₀ L h' m → News h₀ L h' ((I, oI) :: (J, oJ) :: (C, oC) :: (D0, LCg.lst []) :: Five L oS oD oP t1 t2 D) → Q false { s with heap := h', toks := tk' }) :
    wpAny (model PySem.Challenge.rw_mr0202_01.row.prog w) (lawA L fa) (isTrue ct6 (compEnvC sc6 (cl6 L) C (lawE L fa)) (eval ct6 (compEnvC sc6 (cl6 L) C (lawE L fa)))) Q E s := by
  have N5 := N
  delta ct6
  unfold Five at N
  revert X; k_fill; intro X
  obtain ⟨ra, hra⟩ : ∃ r, rs[i]? = some r := ⟨rs[i], by simp [hi]⟩
  obtain ⟨rb, hrb⟩ : ∃ r, rs[j]? = some r := ⟨rs[j], by simp [hj]⟩
  obtain ⟨ta', hya⟩ := spell_at hs hra
  obtain ⟨tb', hyb⟩ := spell_at hs hrb
  have hr5 := hr.2.2.1
  obtain ⟨nR, hR⟩ := hr.1
  obtain ⟨va, na, hDa, hia, -, hoa⟩ := hr.2.2.2 ra (List.mem_of_getElem? hra)
  obtain ⟨vb, nb, hDb, hib, -, hob⟩ := hr.2.2.2 rb (List.mem_of_getElem? hrb)
  have inF : ∀ p ∈ D, p ∈ ((I, oI) :: (J, oJ) :: (C, oC) :: (D0, LCg.lst []) :: Five L oS oD oP t1 t2 D) := fun p hp => by simp [Five, hp]
  have hRa : (rs.map fun r => Value.ref r.1)[((i : Nat) : Int).toNat]? = some (.ref ra.1) := by rw [Int.toNat_natCast, List.getElem?_map, hra]; rfl
  have hRb : (rs.map fun r => Value.ref r.1)[((j : Nat) : Int).toNat]? = some (.ref rb.1) := by rw [Int.toNat_natCast, List.getElem?_map, hrb]; rfl
  k_steps
  show wpAny _ _ (subscriptTail _ _ _ _) _ _ _
  refine item_listL (isl N5 (inF _ hs.1)) (by omega) (by omega) (by rw [Int.toNat_natCast]; exact hya) ?_
  k_steps
  show wpAny _ _ (subscriptTail _ _ _ _) _ _ _
  refine item_listL (isl N5 (inF _ hs.1)) (by omega) (by omega) (by rw [Int.toNat_natCast]; exact hyb) ?_
  k_steps
  show wpAny _ _ (subscriptTail _ _ _ _) _ _ _
  refine item_listL (isl N5 (inF _ hR)) (by omega) (by omega) hRa ?_
  k_steps
  show wpAny _ _ (subscriptTail _ _ _ _) _ _ _
  refine item_listL (isl N5 (inF _ hR)) (by omega) (by omega) hRb ?_
  k_steps
  show wpAny _ _ (compareOp CmpOp.Lt _ _) _ _ _
  refine cmp_ofLt (lt_lists (isl N5 (inF _ hDa)) (isl N5 (inF _ hDb)) hia hib (by show callerA.units + 3 < cLine; decide +kernel) ?_)
  k_steps
  show wpAny _ _ (subscriptTail _ _ _ _) _ _ _
  refine item_listL (isl N5 (inF _ hR)) (by omega) (by omega) hRa ?_
  k_steps
  show wpAny _ _ (subscriptTail _ _ _ _) _ _ _
  refine item_listL (isl N5 (inF _ hR)) (by omega) (by omega) hRb ?_
  k_steps
  show wpAny _ _ (compareOp CmpOp.Eq _ _) _ _ _
  refine eq_dataH (reads_list_at (N5 _ (inF _ hDa)).1 rfl rfl (by simpa using reads_ints hia)) (reads_list_at (N5 _ (inF _ hDb)).1 rfl rfl (by simpa using reads_ints hib)) (ints_shaped _) (ints_shaped _) (lawUnits L fa) ?_
  rw [ints_eqv]
  k_steps
  show wpAny _ _ (call (Value.ref 166) _) _ _ _
  have hlt := tx_lt hoa hob
  have hlt2 := tx_lt hob hoa
  have heq := tx_eq hoa hob
  refine c166 (B := B) (F := F) (X := X) (T := T) rfl (by decide +kernel) (by decide +kernel) hlt heq (hlt2.trans (tri _ _)) ?_
  intro h8 tk8 st8
  have F8 := F.keeps st8
  have N8 := N5.keeps st8
  show wpAny _ _ _ _ _ _
  k_steps
  exact hret h8 tk8 F8 N8
section
local macro_rules | `(tactic| walk_at "eval ListComp") => `(tactic| (k_here; refine stop_here ?_))
local macro_rules | `(tactic| walk_at "compareOp NotEq ref ref") => `(tactic| (k_here; refine stop_here ?_))
set_option maxHeartbeats 8000000 in
theorem s6 {w : World} {p : Program} {loose : List Str} {mean : ExcName → Option Value} {mg mb : Str → Option Value} {h₀ : Heap} {L fa R S P : Addr} {m : Str → Option Value} {s : Shared} {Q : Flow → Shared → Prop} {E : Value → Shared → Prop} {oS oD oP : Obj} {D : List (Addr × Obj)} {rs : List (Addr × List Int)} {t1 t2 : Array Value} {ys : List Value} {pt pu pv : Tok}
    (B : Below callerA h₀ [] h₀) (X : (KK w.params).In h₀) (T : Top p loose mean mg mb h₀)
    (F : Fr h₀ L s.heap m) (N : News h₀ L s.heap (Five L oS oD oP t1 t2 D))
    (hS : oS.data = .cell (some (.ref S))) (hD : oD.data = .cell (some (.ref R))) (hP : oP.data = .cell (some (.ref P))) (hPm : (P, rangeO rs.length pt pu pv) ∈ D) (hr : RowsD D R rs) (hs : SpellD D S rs ys)
    (hret : ∀ h' tk', Fr h₀ L h' m → News h₀ L h' (Five L oS oD oP t1 t2 D) → Q .next { s with heap := h', toks := tk' }) :
    wpAny (model PySem.Challenge.rw_mr0202_01.row.prog w) (lawA L fa) (exec st6 (lawE L fa)) Q E s := by
  have N5 := N
  have hr5 := hr.2.2.1
  delta st6
  unfold Five at N
  revert X; k_fill; intro X
  k_steps
  show wpAny _ _ (eval (Expr.ListComp _ _ _ _) _) _ _ _
  refine ListComp_two (cl := cl6 L) F (clos6 L fa) (by decide) (by rfl) (by decide) (by rfl) (by rfl) (by decide) ?_ (hs1 := by intro _ _; rfl)
  k_steps
  refine ⟨P, pt, pu, pv, rs.length, Five L oS oD oP t1 t2 D, rfl, rfl, F, N5, by simp [Five, hPm], small1 hr5, size1, ?it, ?ts, ?fin⟩
  case it =>
    intro I oI C oC D0 m₂ h tk E' hC F7 N7
    refine lcf_cell (x := Str.ofString "places") (c := L + 1) N7 (by rfl) (by simp [Five]) hP ?_ (by rfl) (by with_unfolding_all rfl) (by decide)
    exact ⟨rfl, rfl⟩
  case ts =>
    intro i j ti tj I oI J oJ C oC D0 m₂ h tk E' hi hj hC hma hmb F7 N7
    exact test6 B X T F7 N7 hS hD hr hs hC hi hj hma hmb fun h' tk' F8 N8 => ⟨rfl, h', tk', rfl, F8, N8⟩
  case fin =>
    intro D0 h7 tk7 F7 N7
    show wpAny _ _ _ _ _ _
    clear N N5
    k_steps
    rename_i l' h' F' N' l1
    show wpAny _ _ (compareOp CmpOp.NotEq _ _) _ _ _
    refine ne_dataH (reads_list_at (N' (D0, LCg.lst []) (by simp)).1 rfl rfl (by simpa using ReadsAll.nil)) (reads_list_at (N' _ List.mem_cons_self).1 rfl rfl (by simpa using ReadsAll.nil)) (by rfl) (by rfl) (lawUnits L fa) ?_
    show wpAny _ _ (truthy (.bool false)) _ _ _
    k_steps
    exact hret _ _ F' fun p hp => N' p (List.mem_cons_of_mem _ (List.mem_cons_of_mem _ hp))
end
end Mine
end
theorem Mine.freshKM : True := by k_with_none; w_top off; first | walk1 | trivial
-- KM
section
open PySem PySem.W PySem.W.X PyProof.Rows PySem.Calls
set_option Elab.async false
namespace Mine
theorem bindV {α β : Type} {M : Model} {A : Around} {E : Value → Shared → Prop} {s : Shared} {m : Sem α} {k : α → Sem β} {Q : β → Shared → Prop}
    (h : ∀ Q' : α → Shared → Prop, (∀ a s', wpAny M A (k a) Q E s' → Q' a s') → wpAny M A m Q' E s) : wpAny M A (m >>= k) Q E s := wpAny_bind (h _ fun _ _ x => x)
theorem iteF {α : Type} {M : Model} {A : Around} {E : Value → Shared → Prop} {s : Shared} {Q : α → Shared → Prop} {b : Bool} {x y : Sem α} (hb : b = false) (h : wpAny M A y Q E s) : wpAny M A (if b = true then x else y) Q E s := by subst hb; exact h
theorem iteT {α : Type} {M : Model} {A : Around} {E : Value → Shared → Prop} {s : Shared} {Q : α → Shared → Prop} {b : Bool} {x y : Sem α} (hb : b = true) (h : wpAny M A x Q E s) : wpAny M A (if b = true then x else y) Q E s := by subst hb; exact h
section
variable {M : Model} {A : Around} {E : Value → Shared → Prop} {h₀ h : Heap} {g : Array GenState} {d : Drawn} {t : Nat} {os : OsState} {chg news : List (Addr × Obj)} {a : Addr} {o : Obj} {part : Option Value} {f : Obj → Obj}
theorem allocM {Q : Addr → Shared → Prop} (D : Mem h₀ h chg news) (hf : o.isFreed = false) (hq : ∀ a h', Mem h₀ h' chg ((a, o) :: news) → Q a ⟨h', g, d, t, os⟩) : wpAny M A (alloc o) Q E ⟨h, g, d, t, os⟩ :=
  wpAny_alloc (hq _ _ (D.alloc hf))
theorem updM {Q : Unit → Shared → Prop} (D : Mem h₀ h chg news) (i : Nat) (hi : news[i]? = some (a, o)) (hf : (f o).isFreed = false) (hq : ∀ h', Mem h₀ h' chg (news.set i (a, f o)) → Q () ⟨h', g, d, t, os⟩) : wpAny M A (update a f) Q E ⟨h, g, d, t, os⟩ :=
  wpAny_update (D.at i a o hi) (hq _ (D.update hi hf))
theorem updPM {Q : Unit → Shared → Prop} (D : Mem h₀ h chg news) (i : Nat) (hi : news[i]? = some (a, o)) (hf : (f o).isFreed = false) (hq : ∀ h', Mem h₀ h' chg (news.set i (a, f o)) → Q () ⟨h', g, d, t, os⟩) : wpAny M A (updatePart a part f) Q E ⟨h, g, d, t, os⟩ :=
  wpAny_updatePart (D.at i a o hi) (hq _ (D.update hi hf))
theorem loadN {Q : Obj → Shared → Prop} (D : Mem h₀ h chg news) (i : Nat) (hi : news[i]? = some (a, o)) (hq : Q o ⟨h, g, d, t, os⟩) : wpAny M A (load a) Q E ⟨h, g, d, t, os⟩ := wpAny_load (D.at i a o hi) hq
theorem loadO {Q : Obj → Shared → Prop} (D : Mem h₀ h chg news) (e : h₀.get? a = some o) (k : (hasCls o || away chg a) = true) (hq : Q o ⟨h, g, d, t, os⟩) : wpAny M A (load a) Q E ⟨h, g, d, t, os⟩ := wpAny_load (D.keep a o e k) hq
theorem loadPN {Q : Obj → Shared → Prop} (D : Mem h₀ h chg news) (i : Nat) (hi : news[i]? = some (a, o)) (hq : Q o ⟨h, g, d, t, os⟩) : wpAny M A (loadPart a part) Q E ⟨h, g, d, t, os⟩ := wpAny_loadPart (D.at i a o hi) hq
theorem loadPO {Q : Obj → Shared → Prop} (D : Mem h₀ h chg news) (e : h₀.get? a = some o) (k : (hasCls o || away chg a) = true) (hq : Q o ⟨h, g, d, t, os⟩) : wpAny M A (loadPart a part) Q E ⟨h, g, d, t, os⟩ := wpAny_loadPart (D.keep a o e k) hq
end
theorem memKeep {h₀ h h' : Heap} {chg news : List (Addr × Obj)} (D : Mem h₀ h chg news) (hk : ∀ b o', h.get? b = some o' → h'.get? b = some o') : Mem h₀ h' chg news :=
  ⟨fun b o e q => hk _ _ (D.keep b o e q), fun p hp => ⟨hk _ _ (D.ch p hp).1, (D.ch p hp).2⟩, D.cd, fun p hp => ⟨hk _ _ (D.nw p hp).1, (D.nw p hp).2⟩, D.ord⟩
theorem st_tt : isSubtype (.type "tuple") (.type "tuple") = pure true := by rw [isSubtype_type]; kernel_rfl
theorem st_dd : isSubtype (.type "dict") (.type "dict") = pure true := by rw [isSubtype_type]; kernel_rfl
theorem st_yy : isSubtype (.type "type") (.type "type") = pure true := by rw [isSubtype_type]; kernel_rfl
theorem st_oo : isSubtype (.type "object") (.type "object") = pure true := by rw [isSubtype_type]; kernel_rfl
theorem tl_di : typeLookup (.type "dict") (Str.ofString "__iter__") = pure (some (.builtin "dict.__iter__")) := by rw [typeLookup_type, builtinLookup_eq_fast]; kernel_rfl
theorem tl_ow : typeLookup (.type "object") (Str.ofString "__weakref__") = pure none := by rw [typeLookup_type, builtinLookup_eq_fast]; kernel_rfl
theorem tl_od : typeLookup (.type "object") (Str.ofString "__dict__") = pure none := by rw [typeLookup_type, builtinLookup_eq_fast]; kernel_rfl
theorem it_o : isType (.type "object") = pure true := by with_unfolding_all rfl
theorem ty_o : typeOf (.type "object") = pure (.type "type") := by kernel_rfl
def ent (P : Params) (x : String) (t : Tok) (v : Value) : DictEntry := ⟨PyData.keyHash P (Str.ofString x), .str (Str.ofString x) t, v⟩
def clsEs (P : Params) (t0 t1 t2 t3 t4 t5 t6 t7 t8 t9 ta tb tc td te : Tok) (sL f1 f2 f3 f4 f5 f6 sT : Addr) : Array DictEntry := #[ent P "__module__" t0 (.str (Str.ofString "cpy313.functools") t1), ent P "__qualname__" t2 (.str (Str.ofString "cmp_to_key.<locals>.K") t3), ent P "__firstlineno__" t4 (.int 85 t5),
      ent P "__slots__" t6 (.ref sL), ent P "__init__" t7 (.ref f1), ent P "__lt__" t8 (.ref f2), ent P "__gt__" t9 (.ref f3), ent P "__eq__" ta (.ref f4), ent P "__le__" tb (.ref f5), ent P "__ge__" tc (.ref f6),
      ent P "__hash__" td .none, ent P "__static_attributes__" te (.ref sT)]
end Mine
end
theorem Mine.freshKR : True := by k_with_none; w_top off; first | walk1 | trivial
-- KR
section
open PySem PySem.W PySem.W.X PyProof.Rows PySem.Calls
set_option Elab.async false
namespace Mine
set_option maxRecDepth 100000 in
set_option maxHeartbeats 1500000 in
theorem slots_read {prog : Program} {w : World} {A : Around} {h₀ h : Heap} {g : Array GenState} {d : Drawn} {t : Nat} {os : OsState} {chg news : List (Addr × Obj)} {f1 f2 f3 f4 f5 f6 sL sT : Addr} {t0 t1 t2 t3 t4 t5 t6 t7 t8 t9 ta tb tc td te tf : Tok} {Q : Builtin.Slots.Plan → Shared → Prop} {E : Value → Shared → Prop}
   (D : Mem h₀ h chg news) (hsL : h₀.get? sL = some ⟨.type "list", none, .seq #[.str (Str.ofString "obj") tf] 0, #[]⟩)
   (hQ : ∀ h', Mem h₀ h' chg news → Q { names := [Str.ofString "obj"], dict := false, weak := false, inherited := [] } ⟨h', g, d, t, os⟩) :
   wpAny (model prog w) A (Builtin.Slots.read (Str.ofString "K") [.type "object"] (clsEs w.params t0 t1 t2 t3 t4 t5 t6 t7 t8 t9 ta tb tc td te sL f1 f2 f3 f4 f5 f6 sT)) Q E ⟨h, g, d, t, os⟩ := by
  have e1 := st_tt
  have e2 := st_dd
  have e3 := st_yy
  have e4 := it_o
  have e5 := ty_o
  have e7 := st_oo
  have e8 := tl_di
  have e9 := tl_ow
  have e10 := tl_od
  wp_delta
  (repeat (((fail_if_success (with_reducible show wpAny _ _ (collect _) _ _ _)); (fail_if_success (with_reducible show wpAny _ _ (Builtin.Slots.read _ _ _) _ _ _)); (fail_if_success (with_reducible show wpAny _ _ (call _ _ _) _ _ _)); (fail_if_success (with_reducible show wpAny _ _ (runValue _) _ _ _)); first | ((fail_if_success (with_reducible show wpAny _ _ _ _ _ _)); with_reducible apply_assumption) | ((with_reducible refine bindV ?_); intro _ _) | ((first | with_reducible (first | refine wpAny_of_eq (by assumption) ?_ | refine wpAny_pure ?_ | refine wpAny_holding ?_ | refine wpAny_standAt ?_ | refine wpAny_point ?_ | refine wpAny_rule ?_ | refine wpAny_fresh' ?_ | refine wpAny_attempt ?_ | refine wpAny_throw ?_) | ((with_reducible refine allocM ?_ ?_ ?_); (focus assumption); (focus rfl); intro _ _ _) | ((with_reducible show wpAny _ _ (load _) _ _ _); first | refine loadO (by assumption) (by assumption) rfl ?_ | refine loadN (by assumption) 0 rfl ?_ | refine loadN (by assumption) 1 rfl ?_ | refine loadN (by assumption) 2 rfl ?_ | refine loadN (by assumption) 3 rfl ?_ | refine loadN (by assumption) 4 rfl ?_ | refine loadN (by assumption) 5 rfl ?_ | refine loadN (by assumption) 6 rfl ?_) | ((with_reducible show wpAny _ _ (loadPart _ _) _ _ _); first | refine loadPO (by assumption) (by assumption) rfl ?_ | refine loadPN (by assumption) 0 rfl ?_ | refine loadPN (by assumption) 1 rfl ?_ | refine loadPN (by assumption) 2 rfl ?_ | refine loadPN (by assumption) 3 rfl ?_ | refine loadPN (by assumption) 4 rfl ?_ | refine loadPN (by assumption) 5 rfl ?_ | refine loadPN (by assumption) 6 rfl ?_) | ((with_reducible show wpAny _ _ (update _ _) _ _ _); (first | refine updM (by assumption) 0 rfl rfl ?_ | refine updM (by assumption) 1 rfl rfl ?_ | refine updM (by assumption) 2 rfl rfl ?_ | refine updM (by assumption) 3 rfl rfl ?_ | refine updM (by assumption) 4 rfl rfl ?_); intro hZ DZ; (try simp only [List.set_cons_zero, List.set_cons_succ] at DZ); (try dsimp only [Obj.mapCls, Obj.mapDict, Obj.mapDictKeys, Obj.mapFields, Obj.mapSeq] at DZ); (revert hZ; intro _ _)) | ((with_reducible show wpAny _ _ (updatePart _ _ _) _ _ _); (first | refine updPM (by assumption) 0 rfl rfl ?_ | refine updPM (by assumption) 1 rfl rfl ?_ | refine updPM (by assumption) 2 rfl rfl ?_ | refine updPM (by assumption) 3 rfl rfl ?_ | refine updPM (by assumption) 4 rfl rfl ?_); intro hZ DZ; (try simp only [List.set_cons_zero, List.set_cons_succ] at DZ); (try dsimp only [Obj.mapCls, Obj.mapDict, Obj.mapDictKeys, Obj.mapFields, Obj.mapSeq] at DZ); (revert hZ; intro _ _)) | (with_reducible refine iteF (by assumption) ?_) | (with_reducible refine iteT (by assumption) ?_) | ((with_reducible refine iteF ?_ ?_); (focus (as_aux_lemma => kernel_rfl))) | ((with_reducible refine iteT ?_ ?_); (focus (as_aux_lemma => kernel_rfl))) | ((with_reducible refine wpAny_ite_false ?_ ?_); (focus (as_aux_lemma => kernel_rfl))) | ((with_reducible refine wpAny_ite_true ?_ ?_); (focus (as_aux_lemma => kernel_rfl))) | wp_delta | (with_reducible_and_instances refine wpAny_pure ?_) | (with_reducible dsimp only))) | ((with_reducible_and_instances refine bindV ?_); intro _ _))))
  show wpAny _ _ (collect (.ref sL)) _ _ _
  refine wpAny_collect_seq sL (.inl rfl) (D.keep _ _ hsL rfl) rfl rfl ?_ (by show 1 ≤ sizeLine; rw [sizeLine_eq]; omega)
  intro h' hk
  have D' := memKeep D hk
  clear hk D
  (repeat (((fail_if_success (with_reducible show wpAny _ _ (collect _) _ _ _)); (fail_if_success (with_reducible show wpAny _ _ (Builtin.Slots.read _ _ _) _ _ _)); (fail_if_success (with_reducible show wpAny _ _ (call _ _ _) _ _ _)); (fail_if_success (with_reducible show wpAny _ _ (runValue _) _ _ _)); first | ((fail_if_success (with_reducible show wpAny _ _ _ _ _ _)); with_reducible apply_assumption) | ((with_reducible refine bindV ?_); intro _ _) | ((first | with_reducible (first | refine wpAny_of_eq (by assumption) ?_ | refine wpAny_pure ?_ | refine wpAny_holding ?_ | refine wpAny_standAt ?_ | refine wpAny_point ?_ | refine wpAny_rule ?_ | refine wpAny_fresh' ?_ | refine wpAny_attempt ?_ | refine wpAny_throw ?_) | ((with_reducible refine allocM ?_ ?_ ?_); (focus assumption); (focus rfl); intro _ _ _) | ((with_reducible show wpAny _ _ (load _) _ _ _); first | refine loadO (by assumption) (by assumption) rfl ?_ | refine loadN (by assumption) 0 rfl ?_ | refine loadN (by assumption) 1 rfl ?_ | refine loadN (by assumption) 2 rfl ?_ | refine loadN (by assumption) 3 rfl ?_ | refine loadN (by assumption) 4 rfl ?_ | refine loadN (by assumption) 5 rfl ?_ | refine loadN (by assumption) 6 rfl ?_) | ((with_reducible show wpAny _ _ (loadPart _ _) _ _ _); first | refine loadPO (by assumption) (by assumption) rfl ?_ | refine loadPN (by assumption) 0 rfl ?_ | refine loadPN (by assumption) 1 rfl ?_ | refine loadPN (by assumption) 2 rfl ?_ | refine loadPN (by assumption) 3 rfl ?_ | refine loadPN (by assumption) 4 rfl ?_ | refine loadPN (by assumption) 5 rfl ?_ | refine loadPN (by assumption) 6 rfl ?_) | ((with_reducible show wpAny _ _ (update _ _) _ _ _); (first | refine updM (by assumption) 0 rfl rfl ?_ | refine updM (by assumption) 1 rfl rfl ?_ | refine updM (by assumption) 2 rfl rfl ?_ | refine updM (by assumption) 3 rfl rfl ?_ | refine updM (by assumption) 4 rfl rfl ?_); intro hZ DZ; (try simp only [List.set_cons_zero, List.set_cons_succ] at DZ); (try dsimp only [Obj.mapCls, Obj.mapDict, Obj.mapDictKeys, Obj.mapFields, Obj.mapSeq] at DZ); (revert hZ; intro _ _)) | ((with_reducible show wpAny _ _ (updatePart _ _ _) _ _ _); (first | refine updPM (by assumption) 0 rfl rfl ?_ | refine updPM (by assumption) 1 rfl rfl ?_ | refine updPM (by assumption) 2 rfl rfl ?_ | refine updPM (by assumption) 3 rfl rfl ?_ | refine updPM (by assumption) 4 rfl rfl ?_); intro hZ DZ; (try simp only [List.set_cons_zero, List.set_cons_succ] at DZ); (try dsimp only [Obj.mapCls, Obj.mapDict, Obj.mapDictKeys, Obj.mapFields, Obj.mapSeq] at DZ); (revert hZ; intro _ _)) | (with_reducible refine iteF (by assumption) ?_) | (with_reducible refine iteT (by assumption) ?_) | ((with_reducible refine iteF ?_ ?_); (focus (as_aux_lemma => kernel_rfl))) | ((with_reducible refine iteT ?_ ?_); (focus (as_aux_lemma => kernel_rfl))) | ((with_reducible refine wpAny_ite_false ?_ ?_); (focus (as_aux_lemma => kernel_rfl))) | ((with_reducible refine wpAny_ite_true ?_ ?_); (focus (as_aux_lemma => kernel_rfl))) | wp_delta | (with_reducible_and_instances refine wpAny_pure ?_) | (with_reducible dsimp only))) | ((with_reducible_and_instances refine bindV ?_); intro _ _))))
  rw [show Builtin.Slots.isIdentifier (Str.ofString "obj") = some true by decide +kernel]
  (repeat (((fail_if_success (with_reducible show wpAny _ _ (collect _) _ _ _)); (fail_if_success (with_reducible show wpAny _ _ (Builtin.Slots.read _ _ _) _ _ _)); (fail_if_success (with_reducible show wpAny _ _ (call _ _ _) _ _ _)); (fail_if_success (with_reducible show wpAny _ _ (runValue _) _ _ _)); first | ((fail_if_success (with_reducible show wpAny _ _ _ _ _ _)); with_reducible apply_assumption) | ((with_reducible refine bindV ?_); intro _ _) | ((first | with_reducible (first | refine wpAny_of_eq (by assumption) ?_ | refine wpAny_pure ?_ | refine wpAny_holding ?_ | refine wpAny_standAt ?_ | refine wpAny_point ?_ | refine wpAny_rule ?_ | refine wpAny_fresh' ?_ | refine wpAny_attempt ?_ | refine wpAny_throw ?_) | ((with_reducible refine allocM ?_ ?_ ?_); (focus assumption); (focus rfl); intro _ _ _) | ((with_reducible show wpAny _ _ (load _) _ _ _); first | refine loadO (by assumption) (by assumption) rfl ?_ | refine loadN (by assumption) 0 rfl ?_ | refine loadN (by assumption) 1 rfl ?_ | refine loadN (by assumption) 2 rfl ?_ | refine loadN (by assumption) 3 rfl ?_ | refine loadN (by assumption) 4 rfl ?_ | refine loadN (by assumption) 5 rfl ?_ | refine loadN (by assumption) 6 rfl ?_) | ((with_reducible show wpAny _ _ (loadPart _ _) _ _ _); first | refine loadPO (by assumption) (by assumption) rfl ?_ | refine loadPN (by assumption) 0 rfl ?_ | refine loadPN (by assumption) 1 rfl ?_ | refine loadPN (by assumption) 2 rfl ?_ | refine loadPN (by assumption) 3 rfl ?_ | refine loadPN (by assumption) 4 rfl ?_ | refine loadPN (by assumption) 5 rfl ?_ | refine loadPN (by assumption) 6 rfl ?_) | ((with_reducible show wpAny _ _ (update _ _) _ _ _); (first | refine updM (by assumption) 0 rfl rfl ?_ | refine updM (by assumption) 1 rfl rfl ?_ | refine updM (by assumption) 2 rfl rfl ?_ | refine updM (by assumption) 3 rfl rfl ?_ | refine updM (by assumption) 4 rfl rfl ?_); intro hZ DZ; (try simp only [List.set_cons_zero, List.set_cons_succ] at DZ); (try dsimp only [Obj.mapCls, Obj.mapDict, Obj.mapDictKeys, Obj.mapFields, Obj.mapSeq] at DZ); (revert hZ; intro _ _)) | ((with_reducible show wpAny _ _ (updatePart _ _ _) _ _ _); (first | refine updPM (by assumption) 0 rfl rfl ?_ | refine updPM (by assumption) 1 rfl rfl ?_ | refine updPM (by assumption) 2 rfl rfl ?_ | refine updPM (by assumption) 3 rfl rfl ?_ | refine updPM (by assumption) 4 rfl rfl ?_); intro hZ DZ; (try simp only [List.set_cons_zero, List.set_cons_succ] at DZ); (try dsimp only [Obj.mapCls, Obj.mapDict, Obj.mapDictKeys, Obj.mapFields, Obj.mapSeq] at DZ); (revert hZ; intro _ _)) | (with_reducible refine iteF (by assumption) ?_) | (with_reducible refine iteT (by assumption) ?_) | ((with_reducible refine iteF ?_ ?_); (focus (as_aux_lemma => kernel_rfl))) | ((with_reducible refine iteT ?_ ?_); (focus (as_aux_lemma => kernel_rfl))) | ((with_reducible refine wpAny_ite_false ?_ ?_); (focus (as_aux_lemma => kernel_rfl))) | ((with_reducible refine wpAny_ite_true ?_ ?_); (focus (as_aux_lemma => kernel_rfl))) | wp_delta | (with_reducible_and_instances refine wpAny_pure ?_) | (with_reducible dsimp only))) | ((with_reducible_and_instances refine bindV ?_); intro _ _))))
end Mine
end
theorem Mine.freshKC : True := by k_with_none; w_top off; first | walk1 | trivial
-- KC
section
open PySem PySem.W PySem.W.X PyProof.Rows PySem.Calls
set_option Elab.async false
namespace Mine
section
variable {M : Model} {A : Around} {E : Value → Shared → Prop} {h : Heap} {g : Array GenState} {d : Drawn} {t : Nat} {os : OsState} {C : Addr} {c0 : Value} {dd : Option Addr} {cd : ClassData} {sl : Array (Option Value)} {name : Str}
theorem mroC {Q : List Value → Shared → Prop} (hC : h.get? C = some ⟨c0, dd, .cls cd, sl⟩) (hq : Q cd.mro ⟨h, g, d, t, os⟩) : wpAny M A (mroOf (.ref C)) Q E ⟨h, g, d, t, os⟩ := by
  unfold mroOf
  wp_walk
  exact hq
theorem mro_o : mroOf (.type "object") = pure [.type "object"] := by rw [mroOf_type]; kernel_rfl
theorem tlC {mN : Str → Option Value} {y : Option Value} {Q : Option Value → Shared → Prop} (hC : h.get? C = some ⟨c0, dd, .cls cd, sl⟩) (hm : cd.mro = [.ref C, .type "object"]) (hn : h.Ns cd.ns mN) (hB : typeLookup (.type "object") name = pure y)
    (hq : Q (match mN name with | some v => some v | none => y) ⟨h, g, d, t, os⟩) : wpAny M A (typeLookup (.ref C) name) Q E ⟨h, g, d, t, os⟩ := by
  have hrest : lookupAlong [.type "object"] name = pure y := by rw [typeLookup_eq, mro_o] at hB; exact hB
  rw [typeLookup_eq]
  refine wpAny_bind (mroC hC ?_)
  rw [hm, lookupAlong_cons]
  refine wpAny_bind (wpAny_classOwn_cls hC hn ?_)
  cases hv : mN name with
  | some v => rw [hv] at hq; exact wpAny_pure hq
  | none => rw [hv] at hq; show wpAny M A (lookupAlong [.type "object"] name) Q E _; rw [hrest]; exact wpAny_pure hq
/-- the name is asked of the class's own namespace first: that part is walked -/
theorem tlW {y : Option Value} {Q : Option Value → Shared → Prop} (hC : h.get? C = some ⟨c0, dd, .cls cd, sl⟩) (hm : cd.mro = [.ref C, .type "object"]) (hB : typeLookup (.type "object") name = pure y)
    (hq : ∀ Q', (∀ r s', Q (match r with | some v => some v | none => y) s' → Q' r s') → wpAny M A (nsGet cd.ns name) Q' E ⟨h, g, d, t, os⟩) : wpAny M A (typeLookup (.ref C) name) Q E ⟨h, g, d, t, os⟩ := by
  have hrest : lookupAlong [.type "object"] name = pure y := by rw [typeLookup_eq, mro_o] at hB; exact hB
  rw [typeLookup_eq]
  refine wpAny_bind (mroC hC ?_)
  rw [hm, lookupAlong_cons]
  refine wpAny_bind ?_
  unfold classOwn
  refine wpAny_bind ?_
  unfold classData
  refine wpAny_bind (wpAny_load hC (wpAny_pure (hq _ fun r s' hr => ?_)))
  cases r with
  | some v => exact wpAny_pure hr
  | none => show wpAny M A (lookupAlong [.type "object"] name) Q E _; rw [hrest]; exact wpAny_pure hr
end
end Mine
end
theorem Mine.freshKS : True := by k_with_none; w_top off; first | walk1 | trivial
-- KS
section
open PySem PySem.W PySem.W.X PyProof.Rows PySem.Calls
set_option Elab.async false
namespace Mine
/-- the slots with one of them set, as a list -/
def putS : List (Option Value) → Nat → Option Value → List (Option Value)
  | [], 0, v => [v]
  | [], k + 1, v => none :: putS [] k v
  | _ :: l, 0, v => v :: l
  | x :: l, k + 1, v => x :: putS l k v
theorem putS_eq : ∀ (l : List (Option Value)) (k : Nat) (v : Option Value), (l ++ List.replicate (k + 1 - l.length) none).set k v = putS l k v
  | [], 0, v => rfl
  | [], k + 1, v => by
    have := putS_eq [] k v
    simp only [List.nil_append, List.length_nil, Nat.sub_zero] at this ⊢
    rw [List.replicate_succ, List.set_cons_succ, this]; rfl
  | x :: l, 0, v => by simp [putS]
  | x :: l, k + 1, v => by
    have := putS_eq l k v
    rw [List.cons_append, List.set_cons_succ, List.length_cons, show k + 1 + 1 - (l.length + 1) = k + 1 - l.length by omega, this]; rfl
theorem putA (l : List (Option Value)) (k : Nat) (v : Option Value) : (l.toArray ++ Array.replicate (k + 1 - l.toArray.size) none).setIfInBounds k v = (putS l k v).toArray := by
  rw [← putS_eq]
  apply Array.toList_inj.mp
  simp
section
variable {M : Model} {A : Around} {E : Value → Shared → Prop} {h₀ h : Heap} {g : Array GenState} {d : Drawn} {t : Nat} {os : OsState} {chg news : List (Addr × Obj)} {a : Addr} {c : Value} {dd : Option Addr} {dt : Data} {l : List (Option Value)} {k : Nat} {v : Option Value}
theorem setSlotM {Q : Unit → Shared → Prop} (D : Mem h₀ h chg news) (i : Nat) (hi : news[i]? = some (a, ⟨c, dd, dt, l.toArray⟩)) (hk : Nat.blt k sizeLine = true) (hf : (⟨c, dd, dt, #[]⟩ : Obj).isFreed = false)
    (hq : ∀ h', Mem h₀ h' chg (news.set i (a, ⟨c, dd, dt, (putS l k v).toArray⟩)) → Q () ⟨h', g, d, t, os⟩) : wpAny M A (setSlotAt a k v) Q E ⟨h, g, d, t, os⟩ := by
  unfold setSlotAt
  have hlt : ¬ k ≥ sizeLine := by
    have := Nat.le_of_ble_eq_true hk
    omega
  rw [if_neg hlt]
  refine updPM D i hi ?_ fun h' D' => hq h' ?_
  · cases dt <;> first | rfl | exact hf
  · rw [← putA]; exact D'
end
end Mine
end
theorem Mine.freshKU : True := by k_with_none; w_top off; first | walk1 | trivial
-- KU
section
open PySem PySem.W PySem.W.X PyProof.Rows PySem.Calls
set_option Elab.async false
namespace Mine
/-- an around of which little is known -/
def WA : Around := { depth := 600, units := 300 }
theorem weaker {α : Type} {M : Model} {A A' : Around} {t : Sem α} {Q : α → Shared → Prop} {E : Value → Shared → Prop} {s : Shared}
    (h1 : A.handled = A'.handled) (h2 : A.depth ≤ A'.depth) (h3 : A.units ≤ A'.units) (h4 : A'.frames = none) (h5 : A'.guards = none) (h : wpAny M A' t Q E s) : wpAny M A t Q E s :=
  fun Γ p hΓ => h Γ p ⟨hΓ.1.trans h1, Nat.le_trans hΓ.2.1 h2, fun l hl => by (rw [h4] at hl; cases hl), fun l hl => by (rw [h5] at hl; cases hl), Nat.le_trans hΓ.2.2.2.2 h3⟩
def clsObj (bT C ns : Addr) (tn t3 : Tok) : Obj :=
  ⟨.type "type", none, .cls { name := Str.ofString "K", bases := [.type "object"], mro := [.ref C, .type "object"], ns := ns, qualname := Str.ofString "cmp_to_key.<locals>.K", hasDict := false, slotNames := [Str.ofString "obj"], hasDel := false },
    #[some (.ref bT), none, some (.str (Str.ofString "K") tn), some (.str (Str.ofString "cmp_to_key.<locals>.K") t3), some (.builtin "object.__new__"), some (.bool false)]⟩
def memObj (C : Addr) (t : Tok) : Obj := ⟨.type "member_descriptor", none, .fields #[.str (Str.ofString "obj") t, .ref C, .builtin "proto.slot", .builtin "proto.slot#set", rawInt 0], #[]⟩
def madeEs (P : Params) (t0 t1 t4 t5 t6 t7 t8 t9 ta tb tc td te tf tg : Tok) (sL f1 f2 f3 f4 f5 f6 sT mm : Addr) : Array DictEntry := #[ent P "__module__" t0 (.str (Str.ofString "cpy313.functools") t1), ent P "__firstlineno__" t4 (.int 85 t5),
      ent P "__slots__" t6 (.ref sL), ent P "__init__" t7 (.ref f1), ent P "__lt__" t8 (.ref f2), ent P "__gt__" t9 (.ref f3), ent P "__eq__" ta (.ref f4), ent P "__le__" tb (.ref f5), ent P "__ge__" tc (.ref f6),
      ent P "__hash__" td .none, ent P "__static_attributes__" te (.ref sT), ent P "obj" tf (.ref mm), ent P "__doc__" tg .none]
local macro_rules | `(tactic| x_close) => `(tactic| (apply_assumption; assumption))
set_option maxRecDepth 100000 in
set_option maxHeartbeats 0 in
theorem sup_call {prog : Program} {w : World} {h : Heap} {g : Array GenState} {d : Drawn} {t : Nat} {os : OsState} {bT C ns : Addr} {tn t3 : Tok} {Q E : Value → Shared → Prop}
   (hC : h.get? C = some ⟨.type "type", none, .cls { name := Str.ofString "K", bases := [.type "object"], mro := [.ref C, .type "object"], ns := ns, qualname := Str.ofString "cmp_to_key.<locals>.K", hasDict := false, slotNames := [Str.ofString "obj"], hasDel := false },
    #[some (.ref bT), none, some (.str (Str.ofString "K") tn), some (.str (Str.ofString "cmp_to_key.<locals>.K") t3), some (.builtin "object.__new__"), some (.bool false)]⟩)
   (hQ : ∀ a h', Mem h h' [] [(a, ⟨.type "super", none, .fields #[.ref C, .ref C, .ref C], #[]⟩)] → Q (.ref a) ⟨h', g, d, t, os⟩) :
   wpAny (model prog w) WA (call (.type "super") [.ref C, .ref C]) Q E ⟨h, g, d, t, os⟩ := by
  x_run
set_option maxRecDepth 100000 in
set_option maxHeartbeats 0 in
theorem cm_get {prog : Program} {w : World} {h : Heap} {g : Array GenState} {d : Drawn} {t : Nat} {os : OsState} {bT C ns : Addr} {tn t3 : Tok} {Q E : Value → Shared → Prop}
   (hC : h.get? C = some ⟨.type "type", none, .cls { name := Str.ofString "K", bases := [.type "object"], mro := [.ref C, .type "object"], ns := ns, qualname := Str.ofString "cmp_to_key.<locals>.K", hasDict := false, slotNames := [Str.ofString "obj"], hasDel := false },
    #[some (.ref bT), none, some (.str (Str.ofString "K") tn), some (.str (Str.ofString "cmp_to_key.<locals>.K") t3), some (.builtin "object.__new__"), some (.bool false)]⟩)
   (hQ : ∀ a h', Mem h h' [] [(a, ⟨.type "builtin_function_or_method", none, .fields #[.builtin "object.__init_subclass__", .ref C], #[]⟩)] → Q (.ref a) ⟨h', g, d, t, os⟩) :
   wpAny (model prog w) WA.in1 (call (.builtin "classmethod_descriptor.__get__") [.builtin "object.__init_subclass__", .none, .ref C]) Q E ⟨h, g, d, t, os⟩ := by
  x_run
local macro_rules | `(tactic| x_close) => `(tactic| assumption)
set_option maxRecDepth 100000 in
set_option maxHeartbeats 0 in
theorem ini_call {prog : Program} {w : World} {h : Heap} {g : Array GenState} {d : Drawn} {t : Nat} {os : OsState} {bT C ns m : Addr} {tn t3 : Tok} {Q E : Value → Shared → Prop}
   (hC : h.get? C = some ⟨.type "type", none, .cls { name := Str.ofString "K", bases := [.type "object"], mro := [.ref C, .type "object"], ns := ns, qualname := Str.ofString "cmp_to_key.<locals>.K", hasDict := false, slotNames := [Str.ofString "obj"], hasDel := false },
    #[some (.ref bT), none, some (.str (Str.ofString "K") tn), some (.str (Str.ofString "cmp_to_key.<locals>.K") t3), some (.builtin "object.__new__"), some (.bool false)]⟩)
   (hm : h.get? m = some ⟨.type "builtin_function_or_method", none, .fields #[.builtin "object.__init_subclass__", .ref C], #[]⟩) (hQ : Q .none ⟨h, g, d, t, os⟩) :
   wpAny (model prog w) WA (call (.ref m) []) Q E ⟨h, g, d, t, os⟩ := by
  x_run
end Mine
end
theorem Mine.freshKV : True := by k_with_none; w_top off; first | walk1 | trivial
-- KV
section
open PySem PySem.W PySem.W.X PyProof.Rows PySem.Calls
set_option Elab.async false
namespace Mine

theorem tl_sg : typeLookup (.type "super") (Str.ofString "__getattribute__") = pure (some (.builtin "super.__getattribute__")) := by rw [typeLookup_type, builtinLookup_eq_fast]; kernel_rfl
theorem slot_sg : Slot "super" (Str.ofString "__getattribute__") "super.__getattribute__" :=
  .of tl_sg (owner := "super") (n := "__getattribute__") (by decide +kernel) (by decide +kernel) (by decide +kernel) (.inl (by decide +kernel)) (by rw [isSubtype_type]; kernel_rfl)
theorem entry_sg : entryFor table "super.__getattribute__" = some Builtin.«super.__getattribute__» := entryFor_of_tree (by kernel_rfl)
theorem own_oi : classOwn (.type "object") (Str.ofString "__init_subclass__") = pure (some (.builtin "object.__init_subclass__")) := PySem.F.own_object (by kernel_rfl)
theorem ty_ois : typeOf (.builtin "object.__init_subclass__") = pure (.type "classmethod_descriptor") := by kernel_rfl
theorem tl_cmg : typeLookup (.type "classmethod_descriptor") (Str.ofString "__get__") = pure (some (.builtin "classmethod_descriptor.__get__")) := by rw [typeLookup_type, builtinLookup_eq_fast]; kernel_rfl
theorem drop_C (C : Addr) : ([Value.ref C, Value.type "object"].dropWhile (· != Value.ref C)).drop 1 = [Value.type "object"] := by simp [List.dropWhile]
theorem loopE {α β : Type} {M : Model} {A : Around} {E : Value → Shared → Prop} {s : Shared} {Q : β → Shared → Prop} {l l' : List α} {f : α → β → Sem (ForInStep β)} {b : β} {p : ∃ bs, bs ++ l = l} (e : l = l')
    (h : wpAny M A (forIn l' b f) Q E s) : wpAny M A (List.forIn'.loop l (fun a _ r => f a r) l b p) Q E s := by subst e; exact h
set_option maxRecDepth 100000 in
set_option maxHeartbeats 2500000 in
theorem sup_attr {prog : Program} {w : World} {h₀ h : Heap} {g : Array GenState} {d : Drawn} {t : Nat} {os : OsState} {news : List (Addr × Obj)} {S bT C ns : Addr} {tn t3 : Tok} {Q E : Value → Shared → Prop}
   (h2 : h₀.get? cStatics = some ⟨.none, none, .dict #[] 0, #[]⟩) (hC : h₀.get? C = some (clsObj bT C ns tn t3)) (D : Mem h₀ h [] ((S, ⟨.type "super", none, .fields #[.ref C, .ref C, .ref C], #[]⟩) :: news))
   (hQ : ∀ a h', Mem h h' [] [(a, ⟨.type "builtin_function_or_method", none, .fields #[.builtin "object.__init_subclass__", .ref C], #[]⟩)] → Q (.ref a) ⟨h', g, d, t + 1, os⟩) :
   wpAny (model prog w) WA (getAttr (.ref S) (Str.ofString "__init_subclass__")) Q E ⟨h, g, d, t, os⟩ := by
  have e1 := tl_sg
  have e2 := slot_sg.bind (.ref S)
  have e3 := own_oi
  have e4 := ty_ois
  have e5 := tl_cmg
  unfold clsObj at hC
  have hC' := D.old _ _ hC rfl
  (repeat (((fail_if_success (with_reducible show wpAny _ _ (collect _) _ _ _)); (fail_if_success (with_reducible show wpAny _ _ (Sem.tryCatch _ _) _ _ _)); (fail_if_success (with_reducible show wpAny _ _ (tryCatch _ _) _ _ _)); (fail_if_success (with_reducible show wpAny _ _ (Builtin.Slots.read _ _ _) _ _ _)); (fail_if_success (with_reducible show wpAny _ _ (call _ _ _) _ _ _)); (fail_if_success (with_reducible show wpAny _ _ (runValue _) _ _ _)); first | ((fail_if_success (with_reducible show wpAny _ _ _ _ _ _)); with_reducible apply_assumption) | ((with_reducible refine bindV ?_); intro _ _) | ((first | with_reducible (first | refine wpAny_of_eq (by assumption) ?_ | refine wpAny_pure ?_ | refine wpAny_holding ?_ | refine wpAny_standAt ?_ | refine wpAny_point ?_ | refine wpAny_rule ?_ | refine wpAny_fresh' ?_ | refine wpAny_askSetting ?_ | refine wpAny_tryCatch ?_ | refine wpAny_attempt ?_ | refine wpAny_throw ?_) | ((with_reducible refine allocM (by assumption) ?_ ?_); (focus rfl); intro _ _ _) | ((with_reducible show wpAny _ _ (typeLookup (Value.ref _) _) _ _ _); (first | refine tlW (Mem.at (by assumption) 0 _ _ rfl) rfl (by assumption) ?_ | refine tlW (Mem.at (by assumption) 1 _ _ rfl) rfl (by assumption) ?_ | refine tlW (Mem.at (by assumption) 2 _ _ rfl) rfl (by assumption) ?_ | refine tlW (Mem.at (by assumption) 3 _ _ rfl) rfl (by assumption) ?_); intro _ _) | ((with_reducible show wpAny _ _ (setSlotAt _ _ _) _ _ _); (first | refine setSlotM (by assumption) 0 rfl (by rw [sizeLine_eq]; rfl) rfl ?_ | refine setSlotM (by assumption) 1 rfl (by rw [sizeLine_eq]; rfl) rfl ?_ | refine setSlotM (by assumption) 2 rfl (by rw [sizeLine_eq]; rfl) rfl ?_ | refine setSlotM (by assumption) 3 rfl (by rw [sizeLine_eq]; rfl) rfl ?_); intro hZ DZ; (try simp only [List.set_cons_zero, List.set_cons_succ, putS] at DZ); (try dsimp only at DZ); (revert hZ; intro _ _)) | ((with_reducible show wpAny _ _ (load _) _ _ _); first | refine loadO (by assumption) (by assumption) rfl ?_ | refine loadN (by assumption) 0 rfl ?_ | refine loadN (by assumption) 1 rfl ?_ | refine loadN (by assumption) 2 rfl ?_ | refine loadN (by assumption) 3 rfl ?_ | refine loadN (by assumption) 4 rfl ?_ | refine loadN (by assumption) 5 rfl ?_ | refine loadN (by assumption) 6 rfl ?_) | ((with_reducible show wpAny _ _ (loadPart _ _) _ _ _); first | refine loadPO (by assumption) (by assumption) rfl ?_ | refine loadPN (by assumption) 0 rfl ?_ | refine loadPN (by assumption) 1 rfl ?_ | refine loadPN (by assumption) 2 rfl ?_ | refine loadPN (by assumption) 3 rfl ?_ | refine loadPN (by assumption) 4 rfl ?_ | refine loadPN (by assumption) 5 rfl ?_ | refine loadPN (by assumption) 6 rfl ?_) | ((with_reducible show wpAny _ _ (update _ _) _ _ _); (first | refine updM (by assumption) 0 rfl rfl ?_ | refine updM (by assumption) 1 rfl rfl ?_ | refine updM (by assumption) 2 rfl rfl ?_ | refine updM (by assumption) 3 rfl rfl ?_ | refine updM (by assumption) 4 rfl rfl ?_); intro hZ DZ; (try simp only [List.set_cons_zero, List.set_cons_succ] at DZ); (try dsimp only [Obj.mapCls, Obj.mapDict, Obj.mapDictKeys, Obj.mapFields, Obj.mapSeq] at DZ); (revert hZ; intro _ _)) | ((with_reducible show wpAny _ _ (updatePart _ _ _) _ _ _); (first | refine updPM (by assumption) 0 rfl rfl ?_ | refine updPM (by assumption) 1 rfl rfl ?_ | refine updPM (by assumption) 2 rfl rfl ?_ | refine updPM (by assumption) 3 rfl rfl ?_ | refine updPM (by assumption) 4 rfl rfl ?_); intro hZ DZ; (try simp only [List.set_cons_zero, List.set_cons_succ] at DZ); (try dsimp only [Obj.mapCls, Obj.mapDict, Obj.mapDictKeys, Obj.mapFields, Obj.mapSeq] at DZ); (revert hZ; intro _ _)) | (with_reducible refine iteF (by assumption) ?_) | (with_reducible refine iteT (by assumption) ?_) | ((with_reducible refine iteF ?_ ?_); (focus (as_aux_lemma => kernel_rfl))) | ((with_reducible refine iteT ?_ ?_); (focus (as_aux_lemma => kernel_rfl))) | ((with_reducible refine wpAny_ite_false ?_ ?_); (focus (as_aux_lemma => kernel_rfl))) | ((with_reducible refine wpAny_ite_true ?_ ?_); (focus (as_aux_lemma => kernel_rfl))) | wp_delta | (with_reducible_and_instances refine wpAny_pure ?_) | (with_reducible dsimp only))) | ((with_reducible_and_instances refine bindV ?_); intro _ _))))
  show wpAny _ _ (call (.builtin "super.__getattribute__") [.ref S, .str (Str.ofString "__init_subclass__") t]) _ _ _
  refine wpAny_call_entry slot_sg ⟨_, D.at 0 _ _ rfl, rfl⟩ entry_sg ?_
  (repeat (((fail_if_success (with_reducible show wpAny _ _ (collect _) _ _ _)); (fail_if_success (with_reducible show wpAny _ _ (Sem.tryCatch _ _) _ _ _)); (fail_if_success (with_reducible show wpAny _ _ (tryCatch _ _) _ _ _)); (fail_if_success (with_reducible show wpAny _ _ (Builtin.Slots.read _ _ _) _ _ _)); (fail_if_success (with_reducible show wpAny _ _ (call _ _ _) _ _ _)); (fail_if_success (with_reducible show wpAny _ _ (runValue _) _ _ _)); first | ((fail_if_success (with_reducible show wpAny _ _ _ _ _ _)); with_reducible apply_assumption) | ((with_reducible refine bindV ?_); intro _ _) | ((first | with_reducible (first | refine wpAny_of_eq (by assumption) ?_ | refine wpAny_pure ?_ | refine wpAny_holding ?_ | refine wpAny_standAt ?_ | refine wpAny_point ?_ | refine wpAny_rule ?_ | refine wpAny_fresh' ?_ | refine wpAny_askSetting ?_ | refine wpAny_tryCatch ?_ | refine wpAny_attempt ?_ | refine wpAny_throw ?_) | ((with_reducible refine allocM (by assumption) ?_ ?_); (focus rfl); intro _ _ _) | ((with_reducible show wpAny _ _ (typeLookup (Value.ref _) _) _ _ _); (first | refine tlW (Mem.at (by assumption) 0 _ _ rfl) rfl (by assumption) ?_ | refine tlW (Mem.at (by assumption) 1 _ _ rfl) rfl (by assumption) ?_ | refine tlW (Mem.at (by assumption) 2 _ _ rfl) rfl (by assumption) ?_ | refine tlW (Mem.at (by assumption) 3 _ _ rfl) rfl (by assumption) ?_); intro _ _) | ((with_reducible show wpAny _ _ (setSlotAt _ _ _) _ _ _); (first | refine setSlotM (by assumption) 0 rfl (by rw [sizeLine_eq]; rfl) rfl ?_ | refine setSlotM (by assumption) 1 rfl (by rw [sizeLine_eq]; rfl) rfl ?_ | refine setSlotM (by assumption) 2 rfl (by rw [sizeLine_eq]; rfl) rfl ?_ | refine setSlotM (by assumption) 3 rfl (by rw [sizeLine_eq]; rfl) rfl ?_); intro hZ DZ; (try simp only [List.set_cons_zero, List.set_cons_succ, putS] at DZ); (try dsimp only at DZ); (revert hZ; intro _ _)) | ((with_reducible show wpAny _ _ (load _) _ _ _); first | refine loadO (by assumption) (by assumption) rfl ?_ | refine loadN (by assumption) 0 rfl ?_ | refine loadN (by assumption) 1 rfl ?_ | refine loadN (by assumption) 2 rfl ?_ | refine loadN (by assumption) 3 rfl ?_ | refine loadN (by assumption) 4 rfl ?_ | refine loadN (by assumption) 5 rfl ?_ | refine loadN (by assumption) 6 rfl ?_) | ((with_reducible show wpAny _ _ (loadPart _ _) _ _ _); first | refine loadPO (by assumption) (by assumption) rfl ?_ | refine loadPN (by assumption) 0 rfl ?_ | refine loadPN (by assumption) 1 rfl ?_ | refine loadPN (by assumption) 2 rfl ?_ | refine loadPN (by assumption) 3 rfl ?_ | refine loadPN (by assumption) 4 rfl ?_ | refine loadPN (by assumption) 5 rfl ?_ | refine loadPN (by assumption) 6 rfl ?_) | ((with_reducible show wpAny _ _ (update _ _) _ _ _); (first | refine updM (by assumption) 0 rfl rfl ?_ | refine updM (by assumption) 1 rfl rfl ?_ | refine updM (by assumption) 2 rfl rfl ?_ | refine updM (by assumption) 3 rfl rfl ?_ | refine updM (by assumption) 4 rfl rfl ?_); intro hZ DZ; (try simp only [List.set_cons_zero, List.set_cons_succ] at DZ); (try dsimp only [Obj.mapCls, Obj.mapDict, Obj.mapDictKeys, Obj.mapFields, Obj.mapSeq] at DZ); (revert hZ; intro _ _)) | ((with_reducible show wpAny _ _ (updatePart _ _ _) _ _ _); (first | refine updPM (by assumption) 0 rfl rfl ?_ | refine updPM (by assumption) 1 rfl rfl ?_ | refine updPM (by assumption) 2 rfl rfl ?_ | refine updPM (by assumption) 3 rfl rfl ?_ | refine updPM (by assumption) 4 rfl rfl ?_); intro hZ DZ; (try simp only [List.set_cons_zero, List.set_cons_succ] at DZ); (try dsimp only [Obj.mapCls, Obj.mapDict, Obj.mapDictKeys, Obj.mapFields, Obj.mapSeq] at DZ); (revert hZ; intro _ _)) | (with_reducible refine iteF (by assumption) ?_) | (with_reducible refine iteT (by assumption) ?_) | ((with_reducible refine iteF ?_ ?_); (focus (as_aux_lemma => kernel_rfl))) | ((with_reducible refine iteT ?_ ?_); (focus (as_aux_lemma => kernel_rfl))) | ((with_reducible refine wpAny_ite_false ?_ ?_); (focus (as_aux_lemma => kernel_rfl))) | ((with_reducible refine wpAny_ite_true ?_ ?_); (focus (as_aux_lemma => kernel_rfl))) | wp_delta | (with_reducible_and_instances refine wpAny_pure ?_) | (with_reducible dsimp only))) | ((with_reducible_and_instances refine bindV ?_); intro _ _))))
  refine loopE (l' := [.type "object"]) (by with_unfolding_all exact drop_C C) ?_
  (repeat (((fail_if_success (with_reducible show wpAny _ _ (collect _) _ _ _)); (fail_if_success (with_reducible show wpAny _ _ (Sem.tryCatch _ _) _ _ _)); (fail_if_success (with_reducible show wpAny _ _ (tryCatch _ _) _ _ _)); (fail_if_success (with_reducible show wpAny _ _ (Builtin.Slots.read _ _ _) _ _ _)); (fail_if_success (with_reducible show wpAny _ _ (call _ _ _) _ _ _)); (fail_if_success (with_reducible show wpAny _ _ (runValue _) _ _ _)); first | ((fail_if_success (with_reducible show wpAny _ _ _ _ _ _)); with_reducible apply_assumption) | ((with_reducible refine bindV ?_); intro _ _) | ((first | with_reducible (first | refine wpAny_of_eq (by assumption) ?_ | refine wpAny_pure ?_ | refine wpAny_holding ?_ | refine wpAny_standAt ?_ | refine wpAny_point ?_ | refine wpAny_rule ?_ | refine wpAny_fresh' ?_ | refine wpAny_askSetting ?_ | refine wpAny_tryCatch ?_ | refine wpAny_attempt ?_ | refine wpAny_throw ?_) | ((with_reducible refine allocM (by assumption) ?_ ?_); (focus rfl); intro _ _ _) | ((with_reducible show wpAny _ _ (typeLookup (Value.ref _) _) _ _ _); (first | refine tlW (Mem.at (by assumption) 0 _ _ rfl) rfl (by assumption) ?_ | refine tlW (Mem.at (by assumption) 1 _ _ rfl) rfl (by assumption) ?_ | refine tlW (Mem.at (by assumption) 2 _ _ rfl) rfl (by assumption) ?_ | refine tlW (Mem.at (by assumption) 3 _ _ rfl) rfl (by assumption) ?_); intro _ _) | ((with_reducible show wpAny _ _ (setSlotAt _ _ _) _ _ _); (first | refine setSlotM (by assumption) 0 rfl (by rw [sizeLine_eq]; rfl) rfl ?_ | refine setSlotM (by assumption) 1 rfl (by rw [sizeLine_eq]; rfl) rfl ?_ | refine setSlotM (by assumption) 2 rfl (by rw [sizeLine_eq]; rfl) rfl ?_ | refine setSlotM (by assumption) 3 rfl (by rw [sizeLine_eq]; rfl) rfl ?_); intro hZ DZ; (try simp only [List.set_cons_zero, List.set_cons_succ, putS] at DZ); (try dsimp only at DZ); (revert hZ; intro _ _)) | ((with_reducible show wpAny _ _ (load _) _ _ _); first | refine loadO (by assumption) (by assumption) rfl ?_ | refine loadN (by assumption) 0 rfl ?_ | refine loadN (by assumption) 1 rfl ?_ | refine loadN (by assumption) 2 rfl ?_ | refine loadN (by assumption) 3 rfl ?_ | refine loadN (by assumption) 4 rfl ?_ | refine loadN (by assumption) 5 rfl ?_ | refine loadN (by assumption) 6 rfl ?_) | ((with_reducible show wpAny _ _ (loadPart _ _) _ _ _); first | refine loadPO (by assumption) (by assumption) rfl ?_ | refine loadPN (by assumption) 0 rfl ?_ | refine loadPN (by assumption) 1 rfl ?_ | refine loadPN (by assumption) 2 rfl ?_ | refine loadPN (by assumption) 3 rfl ?_ | refine loadPN (by assumption) 4 rfl ?_ | refine loadPN (by assumption) 5 rfl ?_ | refine loadPN (by assumption) 6 rfl ?_) | ((with_reducible show wpAny _ _ (update _ _) _ _ _); (first | refine updM (by assumption) 0 rfl rfl ?_ | refine updM (by assumption) 1 rfl rfl ?_ | refine updM (by assumption) 2 rfl rfl ?_ | refine updM (by assumption) 3 rfl rfl ?_ | refine updM (by assumption) 4 rfl rfl ?_); intro hZ DZ; (try simp only [List.set_cons_zero, List.set_cons_succ] at DZ); (try dsimp only [Obj.mapCls, Obj.mapDict, Obj.mapDictKeys, Obj.mapFields, Obj.mapSeq] at DZ); (revert hZ; intro _ _)) | ((with_reducible show wpAny _ _ (updatePart _ _ _) _ _ _); (first | refine updPM (by assumption) 0 rfl rfl ?_ | refine updPM (by assumption) 1 rfl rfl ?_ | refine updPM (by assumption) 2 rfl rfl ?_ | refine updPM (by assumption) 3 rfl rfl ?_ | refine updPM (by assumption) 4 rfl rfl ?_); intro hZ DZ; (try simp only [List.set_cons_zero, List.set_cons_succ] at DZ); (try dsimp only [Obj.mapCls, Obj.mapDict, Obj.mapDictKeys, Obj.mapFields, Obj.mapSeq] at DZ); (revert hZ; intro _ _)) | (with_reducible refine iteF (by assumption) ?_) | (with_reducible refine iteT (by assumption) ?_) | ((with_reducible refine iteF ?_ ?_); (focus (as_aux_lemma => kernel_rfl))) | ((with_reducible refine iteT ?_ ?_); (focus (as_aux_lemma => kernel_rfl))) | ((with_reducible refine wpAny_ite_false ?_ ?_); (focus (as_aux_lemma => kernel_rfl))) | ((with_reducible refine wpAny_ite_true ?_ ?_); (focus (as_aux_lemma => kernel_rfl))) | wp_delta | (with_reducible_and_instances refine wpAny_pure ?_) | (with_reducible dsimp only))) | ((with_reducible_and_instances refine bindV ?_); intro _ _))))
  rw [show (if (#[Value.ref C, Value.ref C, Value.ref C][1] == #[Value.ref C, Value.ref C, Value.ref C][2]) = true then Value.none else #[Value.ref C, Value.ref C, Value.ref C][1]) = Value.none from if_pos (by show (Value.ref C == Value.ref C) = true; exact beq_self_eq_true _)]
  refine cm_get hC' fun m h' D' => ?_
  (repeat (((fail_if_success (with_reducible show wpAny _ _ (collect _) _ _ _)); (fail_if_success (with_reducible show wpAny _ _ (Sem.tryCatch _ _) _ _ _)); (fail_if_success (with_reducible show wpAny _ _ (tryCatch _ _) _ _ _)); (fail_if_success (with_reducible show wpAny _ _ (Builtin.Slots.read _ _ _) _ _ _)); (fail_if_success (with_reducible show wpAny _ _ (call _ _ _) _ _ _)); (fail_if_success (with_reducible show wpAny _ _ (runValue _) _ _ _)); first | ((fail_if_success (with_reducible show wpAny _ _ _ _ _ _)); with_reducible apply_assumption) | ((with_reducible refine bindV ?_); intro _ _) | ((first | with_reducible (first | refine wpAny_of_eq (by assumption) ?_ | refine wpAny_pure ?_ | refine wpAny_holding ?_ | refine wpAny_standAt ?_ | refine wpAny_point ?_ | refine wpAny_rule ?_ | refine wpAny_fresh' ?_ | refine wpAny_askSetting ?_ | refine wpAny_tryCatch ?_ | refine wpAny_attempt ?_ | refine wpAny_throw ?_) | ((with_reducible refine allocM (by assumption) ?_ ?_); (focus rfl); intro _ _ _) | ((with_reducible show wpAny _ _ (typeLookup (Value.ref _) _) _ _ _); (first | refine tlW (Mem.at (by assumption) 0 _ _ rfl) rfl (by assumption) ?_ | refine tlW (Mem.at (by assumption) 1 _ _ rfl) rfl (by assumption) ?_ | refine tlW (Mem.at (by assumption) 2 _ _ rfl) rfl (by assumption) ?_ | refine tlW (Mem.at (by assumption) 3 _ _ rfl) rfl (by assumption) ?_); intro _ _) | ((with_reducible show wpAny _ _ (setSlotAt _ _ _) _ _ _); (first | refine setSlotM (by assumption) 0 rfl (by rw [sizeLine_eq]; rfl) rfl ?_ | refine setSlotM (by assumption) 1 rfl (by rw [sizeLine_eq]; rfl) rfl ?_ | refine setSlotM (by assumption) 2 rfl (by rw [sizeLine_eq]; rfl) rfl ?_ | refine setSlotM (by assumption) 3 rfl (by rw [sizeLine_eq]; rfl) rfl ?_); intro hZ DZ; (try simp only [List.set_cons_zero, List.set_cons_succ, putS] at DZ); (try dsimp only at DZ); (revert hZ; intro _ _)) | ((with_reducible show wpAny _ _ (load _) _ _ _); first | refine loadO (by assumption) (by assumption) rfl ?_ | refine loadN (by assumption) 0 rfl ?_ | refine loadN (by assumption) 1 rfl ?_ | refine loadN (by assumption) 2 rfl ?_ | refine loadN (by assumption) 3 rfl ?_ | refine loadN (by assumption) 4 rfl ?_ | refine loadN (by assumption) 5 rfl ?_ | refine loadN (by assumption) 6 rfl ?_) | ((with_reducible show wpAny _ _ (loadPart _ _) _ _ _); first | refine loadPO (by assumption) (by assumption) rfl ?_ | refine loadPN (by assumption) 0 rfl ?_ | refine loadPN (by assumption) 1 rfl ?_ | refine loadPN (by assumption) 2 rfl ?_ | refine loadPN (by assumption) 3 rfl ?_ | refine loadPN (by assumption) 4 rfl ?_ | refine loadPN (by assumption) 5 rfl ?_ | refine loadPN (by assumption) 6 rfl ?_) | ((with_reducible show wpAny _ _ (update _ _) _ _ _); (first | refine updM (by assumption) 0 rfl rfl ?_ | refine updM (by assumption) 1 rfl rfl ?_ | refine updM (by assumption) 2 rfl rfl ?_ | refine updM (by assumption) 3 rfl rfl ?_ | refine updM (by assumption) 4 rfl rfl ?_); intro hZ DZ; (try simp only [List.set_cons_zero, List.set_cons_succ] at DZ); (try dsimp only [Obj.mapCls, Obj.mapDict, Obj.mapDictKeys, Obj.mapFields, Obj.mapSeq] at DZ); (revert hZ; intro _ _)) | ((with_reducible show wpAny _ _ (updatePart _ _ _) _ _ _); (first | refine updPM (by assumption) 0 rfl rfl ?_ | refine updPM (by assumption) 1 rfl rfl ?_ | refine updPM (by assumption) 2 rfl rfl ?_ | refine updPM (by assumption) 3 rfl rfl ?_ | refine updPM (by assumption) 4 rfl rfl ?_); intro hZ DZ; (try simp only [List.set_cons_zero, List.set_cons_succ] at DZ); (try dsimp only [Obj.mapCls, Obj.mapDict, Obj.mapDictKeys, Obj.mapFields, Obj.mapSeq] at DZ); (revert hZ; intro _ _)) | (with_reducible refine iteF (by assumption) ?_) | (with_reducible refine iteT (by assumption) ?_) | ((with_reducible refine iteF ?_ ?_); (focus (as_aux_lemma => kernel_rfl))) | ((with_reducible refine iteT ?_ ?_); (focus (as_aux_lemma => kernel_rfl))) | ((with_reducible refine wpAny_ite_false ?_ ?_); (focus (as_aux_lemma => kernel_rfl))) | ((with_reducible refine wpAny_ite_true ?_ ?_); (focus (as_aux_lemma => kernel_rfl))) | wp_delta | (with_reducible_and_instances refine wpAny_pure ?_) | (with_reducible dsimp only))) | ((with_reducible_and_instances refine bindV ?_); intro _ _))))
  refine ⟨_, rfl, ?_⟩
  (repeat (((fail_if_success (with_reducible show wpAny _ _ (collect _) _ _ _)); (fail_if_success (with_reducible show wpAny _ _ (Sem.tryCatch _ _) _ _ _)); (fail_if_success (with_reducible show wpAny _ _ (tryCatch _ _) _ _ _)); (fail_if_success (with_reducible show wpAny _ _ (Builtin.Slots.read _ _ _) _ _ _)); (fail_if_success (with_reducible show wpAny _ _ (call _ _ _) _ _ _)); (fail_if_success (with_reducible show wpAny _ _ (runValue _) _ _ _)); first | ((fail_if_success (with_reducible show wpAny _ _ _ _ _ _)); with_reducible apply_assumption) | ((with_reducible refine bindV ?_); intro _ _) | ((first | with_reducible (first | refine wpAny_of_eq (by assumption) ?_ | refine wpAny_pure ?_ | refine wpAny_holding ?_ | refine wpAny_standAt ?_ | refine wpAny_point ?_ | refine wpAny_rule ?_ | refine wpAny_fresh' ?_ | refine wpAny_askSetting ?_ | refine wpAny_tryCatch ?_ | refine wpAny_attempt ?_ | refine wpAny_throw ?_) | ((with_reducible refine allocM (by assumption) ?_ ?_); (focus rfl); intro _ _ _) | ((with_reducible show wpAny _ _ (typeLookup (Value.ref _) _) _ _ _); (first | refine tlW (Mem.at (by assumption) 0 _ _ rfl) rfl (by assumption) ?_ | refine tlW (Mem.at (by assumption) 1 _ _ rfl) rfl (by assumption) ?_ | refine tlW (Mem.at (by assumption) 2 _ _ rfl) rfl (by assumption) ?_ | refine tlW (Mem.at (by assumption) 3 _ _ rfl) rfl (by assumption) ?_); intro _ _) | ((with_reducible show wpAny _ _ (setSlotAt _ _ _) _ _ _); (first | refine setSlotM (by assumption) 0 rfl (by rw [sizeLine_eq]; rfl) rfl ?_ | refine setSlotM (by assumption) 1 rfl (by rw [sizeLine_eq]; rfl) rfl ?_ | refine setSlotM (by assumption) 2 rfl (by rw [sizeLine_eq]; rfl) rfl ?_ | refine setSlotM (by assumption) 3 rfl (by rw [sizeLine_eq]; rfl) rfl ?_); intro hZ DZ; (try simp only [List.set_cons_zero, List.set_cons_succ, putS] at DZ); (try dsimp only at DZ); (revert hZ; intro _ _)) | ((with_reducible show wpAny _ _ (load _) _ _ _); first | refine loadO (by assumption) (by assumption) rfl ?_ | refine loadN (by assumption) 0 rfl ?_ | refine loadN (by assumption) 1 rfl ?_ | refine loadN (by assumption) 2 rfl ?_ | refine loadN (by assumption) 3 rfl ?_ | refine loadN (by assumption) 4 rfl ?_ | refine loadN (by assumption) 5 rfl ?_ | refine loadN (by assumption) 6 rfl ?_) | ((with_reducible show wpAny _ _ (loadPart _ _) _ _ _); first | refine loadPO (by assumption) (by assumption) rfl ?_ | refine loadPN (by assumption) 0 rfl ?_ | refine loadPN (by assumption) 1 rfl ?_ | refine loadPN (by assumption) 2 rfl ?_ | refine loadPN (by assumption) 3 rfl ?_ | refine loadPN (by assumption) 4 rfl ?_ | refine loadPN (by assumption) 5 rfl ?_ | refine loadPN (by assumption) 6 rfl ?_) | ((with_reducible show wpAny _ _ (update _ _) _ _ _); (first | refine updM (by assumption) 0 rfl rfl ?_ | refine updM (by assumption) 1 rfl rfl ?_ | refine updM (by assumption) 2 rfl rfl ?_ | refine updM (by assumption) 3 rfl rfl ?_ | refine updM (by assumption) 4 rfl rfl ?_); intro hZ DZ; (try simp only [List.set_cons_zero, List.set_cons_succ] at DZ); (try dsimp only [Obj.mapCls, Obj.mapDict, Obj.mapDictKeys, Obj.mapFields, Obj.mapSeq] at DZ); (revert hZ; intro _ _)) | ((with_reducible show wpAny _ _ (updatePart _ _ _) _ _ _); (first | refine updPM (by assumption) 0 rfl rfl ?_ | refine updPM (by assumption) 1 rfl rfl ?_ | refine updPM (by assumption) 2 rfl rfl ?_ | refine updPM (by assumption) 3 rfl rfl ?_ | refine updPM (by assumption) 4 rfl rfl ?_); intro hZ DZ; (try simp only [List.set_cons_zero, List.set_cons_succ] at DZ); (try dsimp only [Obj.mapCls, Obj.mapDict, Obj.mapDictKeys, Obj.mapFields, Obj.mapSeq] at DZ); (revert hZ; intro _ _)) | (with_reducible refine iteF (by assumption) ?_) | (with_reducible refine iteT (by assumption) ?_) | ((with_reducible refine iteF ?_ ?_); (focus (as_aux_lemma => kernel_rfl))) | ((with_reducible refine iteT ?_ ?_); (focus (as_aux_lemma => kernel_rfl))) | ((with_reducible refine wpAny_ite_false ?_ ?_); (focus (as_aux_lemma => kernel_rfl))) | ((with_reducible refine wpAny_ite_true ?_ ?_); (focus (as_aux_lemma => kernel_rfl))) | wp_delta | (with_reducible_and_instances refine wpAny_pure ?_) | (with_reducible dsimp only))) | ((with_reducible_and_instances refine bindV ?_); intro _ _))))
theorem memAll {h₀ h : Heap} {news : List (Addr × Obj)} (D : Mem h₀ h [] news) (b : Addr) (o : Obj) (e : h₀.get? b = some o) : h.get? b = some o := D.keep b o e (by simp [away])
theorem sup_init {prog : Program} {w : World} {h : Heap} {g : Array GenState} {d : Drawn} {t : Nat} {os : OsState} {bT C ns : Addr} {tn t3 : Tok} {β : Type} {r : β} {Q : β → Shared → Prop} {E : Value → Shared → Prop}
   (h2 : h.get? cStatics = some ⟨.none, none, .dict #[] 0, #[]⟩) (hC : h.get? C = some (clsObj bT C ns tn t3))
   (hQ : ∀ h', (∀ b o, h.get? b = some o → h'.get? b = some o) → Q r ⟨h', g, d, t + 1, os⟩) :
   wpAny (model prog w) WA (call (.type "super") [.ref C, .ref C] >>= fun sup => holding [sup] (getAttr sup (Str.ofString "__init_subclass__")) >>= fun f => call f [] [] >>= fun _ => pure r) Q E ⟨h, g, d, t, os⟩ :=
  wpAny_bind (sup_call hC fun _ _ D1 => wpAny_bind (wpAny_holding (sup_attr h2 hC D1 fun _ _ D3 => wpAny_bind (ini_call (bT := bT) (ns := ns) (tn := tn) (t3 := t3) (memAll D3 _ _ (memAll D1 _ _ hC)) (D3.at 0 _ _ rfl) (wpAny_pure (hQ _ fun b o e => memAll D3 b o (memAll D1 b o e)))))))
end Mine
end
theorem Mine.freshKT : True := by k_with_none; w_top off; first | walk1 | trivial
-- KT
section
open PySem PySem.W PySem.W.X PyProof.Rows PySem.Calls
set_option Elab.async false
namespace Mine
theorem tl_ym : typeLookup (.type "type") (Str.ofString "mro") = pure (some (.builtin "type.mro")) := by rw [typeLookup_type, builtinLookup_eq_fast]; kernel_rfl
theorem tq0 : typeLookup (.type "object") (Str.ofString "__new__") = pure (some (.builtin "object.__new__")) := by rw [typeLookup_type, builtinLookup_eq_fast]; kernel_rfl
theorem tq1 : typeLookup (.type "function") (Str.ofString "__set_name__") = pure none := by rw [typeLookup_type, builtinLookup_eq_fast]; kernel_rfl
theorem tq2 : typeLookup (.type "tuple") (Str.ofString "__set_name__") = pure none := by rw [typeLookup_type, builtinLookup_eq_fast]; kernel_rfl
theorem tq3 : typeLookup (.type "str") (Str.ofString "__set_name__") = pure none := by rw [typeLookup_type, builtinLookup_eq_fast]; kernel_rfl
theorem tq4 : typeLookup (.type "int") (Str.ofString "__set_name__") = pure none := by rw [typeLookup_type, builtinLookup_eq_fast]; kernel_rfl
theorem tq5 : typeLookup (.type "NoneType") (Str.ofString "__set_name__") = pure none := by rw [typeLookup_type, builtinLookup_eq_fast]; kernel_rfl
theorem tq6 : typeLookup (.type "member_descriptor") (Str.ofString "__set_name__") = pure none := by rw [typeLookup_type, builtinLookup_eq_fast]; kernel_rfl
theorem tq7 : typeLookup (.type "list") (Str.ofString "__set_name__") = pure none := by rw [typeLookup_type, builtinLookup_eq_fast]; kernel_rfl
theorem forA_same {β : Type} {M : Model} {A : Around} {E : Value → Shared → Prop} {s : Shared} {es : Array DictEntry} {b : β} {f : DictEntry → β → Sem (ForInStep β)} {Q : β → Shared → Prop}
    (hf : ∀ e ∈ es.toList, ∀ Q' : ForInStep β → Shared → Prop, Q' (.yield b) s → wpAny M A (f e b) Q' E s) (hq : Q b s) : wpAny M A (forIn es b f) Q E s := by
  rw [← Array.forIn_toList]
  revert hf
  generalize es.toList = l
  intro hf
  induction l with
  | nil => exact wpAny_pure hq
  | cons e l ih =>
    rw [List.forIn_cons]
    exact wpAny_bind (hf e (.head _) _ (ih fun e' he' => hf e' (.tail _ he')))
theorem keysStr (P : Params) (t0 t1 t4 t5 t6 t7 t8 t9 ta tb tc td te tf tg : Tok) (sL f1 f2 f3 f4 f5 f6 sT mm : Addr) (e : DictEntry) (he : e ∈ (madeEs P t0 t1 t4 t5 t6 t7 t8 t9 ta tb tc td te tf tg sL f1 f2 f3 f4 f5 f6 sT mm).toList) : ∃ x t, e.key = .str x t := by
  simp only [madeEs, List.mem_cons, List.not_mem_nil, or_false] at he
  rcases he with rfl | rfl | rfl | rfl | rfl | rfl | rfl | rfl | rfl | rfl | rfl | rfl | rfl <;> exact ⟨_, _, rfl⟩
theorem noSet {h : Heap} {g : Array GenState} {d : Drawn} {t : Nat} {os : OsState} {P : Params} {t0 t1 t4 t5 t6 t7 t8 t9 ta tb tc td te tf tg : Tok} {sL f1 f2 f3 f4 f5 f6 sT mm C : Addr}
   {d1 d2 d3 d4 d5 d6 d7 : Option Addr} {x1 x2 x3 x4 x5 x6 x7 : Data} {y1 y2 y3 y4 y5 y6 y7 : Array (Option Value)} {tS tM : Tok}
   (hsL : h.get? sL = some ⟨.type "list", none, .seq #[.str (Str.ofString "obj") tS] 0, #[]⟩)
   (hf1 : h.get? f1 = some ⟨.type "function", d1, x1, y1⟩) (hf2 : h.get? f2 = some ⟨.type "function", d2, x2, y2⟩) (hf3 : h.get? f3 = some ⟨.type "function", d3, x3, y3⟩)
   (hf4 : h.get? f4 = some ⟨.type "function", d4, x4, y4⟩) (hf5 : h.get? f5 = some ⟨.type "function", d5, x5, y5⟩) (hf6 : h.get? f6 = some ⟨.type "function", d6, x6, y6⟩)
   (hsT : h.get? sT = some ⟨.type "tuple", d7, x7, y7⟩) (hmm : h.get? mm = some (memObj C tM))
   (e : DictEntry) (he : e ∈ (madeEs P t0 t1 t4 t5 t6 t7 t8 t9 ta tb tc td te tf tg sL f1 f2 f3 f4 f5 f6 sT mm).toList) :
   Builtin.laidUnderItsOwnName e.key e.val = false ∧ ∃ T, (⟨h, g, d, t, os⟩ : Shared).TypeIs e.val T ∧ typeLookup (.type T) (Str.ofString "__set_name__") = pure none := by
  simp only [madeEs, List.mem_cons, List.not_mem_nil, or_false] at he
  rcases he with rfl | rfl | rfl | rfl | rfl | rfl | rfl | rfl | rfl | rfl | rfl | rfl | rfl
  · exact ⟨rfl, "str", typeIs_str _ _ _, tq3⟩
  · exact ⟨rfl, "int", rfl, tq4⟩
  · exact ⟨rfl, "list", ⟨_, hsL, rfl⟩, tq7⟩
  · exact ⟨rfl, "function", ⟨_, hf1, rfl⟩, tq1⟩
  · exact ⟨rfl, "function", ⟨_, hf2, rfl⟩, tq1⟩
  · exact ⟨rfl, "function", ⟨_, hf3, rfl⟩, tq1⟩
  · exact ⟨rfl, "function", ⟨_, hf4, rfl⟩, tq1⟩
  · exact ⟨rfl, "function", ⟨_, hf5, rfl⟩, tq1⟩
  · exact ⟨rfl, "function", ⟨_, hf6, rfl⟩, tq1⟩
  · exact ⟨rfl, "NoneType", rfl, tq5⟩
  · exact ⟨rfl, "tuple", ⟨_, hsT, rfl⟩, tq2⟩
  · exact ⟨rfl, "member_descriptor", ⟨_, hmm, rfl⟩, tq6⟩
  · exact ⟨rfl, "NoneType", rfl, tq5⟩
theorem filt (a : Addr) : List.filter (fun x => x != Value.ref a) [Value.ref a, .type "object"] = [.type "object"] := by simp
theorem anyM_one {α : Type} (f : α → Sem Bool) (x : α) : List.anyM f [x] = (do if ← f x then pure true else pure false) := by
  simp only [List.anyM]; congr; funext b; cases b <;> rfl
theorem hooksPre {h₀ h : Heap} {o1 o2 o3 : Obj} {mm C ns bT : Addr} {tM tn t3 : Tok} {es : Addr → Array DictEntry} {n : Nat} (D : Mem h₀ h [] [(mm, o1), (C, o2), (ns, o3)]) (e1 : o1 = memObj C tM) (e2 : o2 = clsObj bT C ns tn t3) (e3 : o3 = ⟨.type "dict", none, .dict (es mm) n, #[]⟩) :
   (h.get? mm = some (memObj C tM) ∧ h₀.get? mm = none) ∧ (h.get? C = some (clsObj bT C ns tn t3) ∧ h₀.get? C = none) ∧ (h.get? ns = some ⟨.type "dict", none, .dict (es mm) n, #[]⟩ ∧ h₀.get? ns = none) ∧ (∀ b o, h₀.get? b = some o → h.get? b = some o) := by
  subst e1 e2 e3
  exact ⟨D.nw _ (.head _), D.nw _ (.tail _ (.head _)), D.nw _ (.tail _ (.tail _ (.head _))), memAll D⟩
set_option maxRecDepth 100000 in
set_option maxHeartbeats 2500000 in
theorem type_new {prog : Program} {w : World} {h : Heap} {g : Array GenState} {d : Drawn} {t : Nat} {os : OsState} {bT nsA f1 f2 f3 f4 f5 f6 sL sT : Addr} {tn t0 t1 t2 t3 t4 t5 t6 t7 t8 t9 ta tb tc td te tf : Tok} {n : Nat} {Q : PySem.Fin → Shared → Prop} {E : Value → Shared → Prop}
   {d1 d2 d3 d4 d5 d6 d7 : Option Addr} {x1 x2 x3 x4 x5 x6 x7 : Data} {y1 y2 y3 y4 y5 y6 y7 : Array (Option Value)}
   (hb : h.get? bT = some ⟨.type "tuple", none, .seq #[.type "object"] 0, #[]⟩)
   (hn : h.get? nsA = some ⟨.type "dict", none, .dict (clsEs w.params t0 t1 t2 t3 t4 t5 t6 t7 t8 t9 ta tb tc td te sL f1 f2 f3 f4 f5 f6 sT) n, #[]⟩)
   (hs1 : (nsA == sysModules) = false) (hsL : h.get? sL = some ⟨.type "list", none, .seq #[.str (Str.ofString "obj") tf] 0, #[]⟩)
   (hf1 : h.get? f1 = some ⟨.type "function", d1, x1, y1⟩) (hf2 : h.get? f2 = some ⟨.type "function", d2, x2, y2⟩) (hf3 : h.get? f3 = some ⟨.type "function", d3, x3, y3⟩)
   (hf4 : h.get? f4 = some ⟨.type "function", d4, x4, y4⟩) (hf5 : h.get? f5 = some ⟨.type "function", d5, x5, y5⟩) (hf6 : h.get? f6 = some ⟨.type "function", d6, x6, y6⟩)
   (hsT : h.get? sT = some ⟨.type "tuple", d7, x7, y7⟩)
   (h2 : h.get? cStatics = some ⟨.none, none, .dict #[] 0, #[]⟩)
   (hQ : ∀ mm C ns h', (∀ b o, h.get? b = some o → h'.get? b = some o) → h.get? mm = none → h.get? C = none → h.get? ns = none → h'.get? mm = some (memObj C t) → h'.get? C = some (clsObj bT C ns tn t3) →
     h'.get? ns = some ⟨.type "dict", none, .dict (madeEs w.params t0 t1 t4 t5 t6 t7 t8 t9 ta tb tc td te (t + 1) (t + 1 + 1) sL f1 f2 f3 f4 f5 f6 sT mm) 3, #[]⟩ → Q (.done (.ret (.ref C))) ⟨h', g, d, t + 1 + 1 + 1 + 1, os⟩) :
   wpAny (model prog w) WA (Builtin.«type.__new__» ⟨[.type "type", .str (Str.ofString "K") tn, .ref bT, .ref nsA], []⟩) Q E ⟨h, g, d, t, os⟩ := by
  have D := Mem.start h
  have e1 := st_tt
  have e2 := st_dd
  have e3 := st_yy
  have e4 := it_o
  have e5 := ty_o
  have e7 := st_oo
  have e8 := tl_di
  have e9 := tl_ow
  have e10 := tl_od
  have e11 := tl_ym
  have q0 := tq0
  (repeat (((fail_if_success (with_reducible show wpAny _ _ (collect _) _ _ _)); (fail_if_success (with_reducible show wpAny _ _ (forIn (_ : Array DictEntry) _ _) _ _ _)); (fail_if_success (with_reducible show wpAny _ _ (Sem.tryCatch _ _) _ _ _)); (fail_if_success (with_reducible show wpAny _ _ (tryCatch _ _) _ _ _)); (fail_if_success (with_reducible show wpAny _ _ (Builtin.Slots.read _ _ _) _ _ _)); (fail_if_success (with_reducible show wpAny _ _ (call _ _ _) _ _ _)); (fail_if_success (with_reducible show wpAny _ _ (runValue _) _ _ _)); first | ((fail_if_success (with_reducible show wpAny _ _ _ _ _ _)); with_reducible apply_assumption) | ((with_reducible refine bindV ?_); intro _ _) | ((first | with_reducible (first | refine wpAny_of_eq (by assumption) ?_ | refine wpAny_pure ?_ | refine wpAny_holding ?_ | refine wpAny_standAt ?_ | refine wpAny_point ?_ | refine wpAny_rule ?_ | refine wpAny_fresh' ?_ | refine wpAny_askSetting ?_ | refine wpAny_tryCatch ?_ | refine wpAny_attempt ?_ | refine wpAny_throw ?_) | ((with_reducible refine allocM (by assumption) ?_ ?_); (focus rfl); intro _ _ _) | ((with_reducible show wpAny _ _ (typeLookup (Value.ref _) _) _ _ _); (first | refine tlW (Mem.at (by assumption) 0 _ _ rfl) rfl (by assumption) ?_ | refine tlW (Mem.at (by assumption) 1 _ _ rfl) rfl (by assumption) ?_ | refine tlW (Mem.at (by assumption) 2 _ _ rfl) rfl (by assumption) ?_ | refine tlW (Mem.at (by assumption) 3 _ _ rfl) rfl (by assumption) ?_); intro _ _) | ((with_reducible show wpAny _ _ (setSlotAt _ _ _) _ _ _); (first | refine setSlotM (by assumption) 0 rfl (by rw [sizeLine_eq]; rfl) rfl ?_ | refine setSlotM (by assumption) 1 rfl (by rw [sizeLine_eq]; rfl) rfl ?_ | refine setSlotM (by assumption) 2 rfl (by rw [sizeLine_eq]; rfl) rfl ?_ | refine setSlotM (by assumption) 3 rfl (by rw [sizeLine_eq]; rfl) rfl ?_); intro hZ DZ; (try simp only [List.set_cons_zero, List.set_cons_succ, putS] at DZ); (try dsimp only at DZ); (revert hZ; intro _ _)) | ((with_reducible show wpAny _ _ (load _) _ _ _); first | refine loadO (by assumption) (by assumption) rfl ?_ | refine loadN (by assumption) 0 rfl ?_ | refine loadN (by assumption) 1 rfl ?_ | refine loadN (by assumption) 2 rfl ?_ | refine loadN (by assumption) 3 rfl ?_ | refine loadN (by assumption) 4 rfl ?_ | refine loadN (by assumption) 5 rfl ?_ | refine loadN (by assumption) 6 rfl ?_) | ((with_reducible show wpAny _ _ (loadPart _ _) _ _ _); first | refine loadPO (by assumption) (by assumption) rfl ?_ | refine loadPN (by assumption) 0 rfl ?_ | refine loadPN (by assumption) 1 rfl ?_ | refine loadPN (by assumption) 2 rfl ?_ | refine loadPN (by assumption) 3 rfl ?_ | refine loadPN (by assumption) 4 rfl ?_ | refine loadPN (by assumption) 5 rfl ?_ | refine loadPN (by assumption) 6 rfl ?_) | ((with_reducible show wpAny _ _ (update _ _) _ _ _); (first | refine updM (by assumption) 0 rfl rfl ?_ | refine updM (by assumption) 1 rfl rfl ?_ | refine updM (by assumption) 2 rfl rfl ?_ | refine updM (by assumption) 3 rfl rfl ?_ | refine updM (by assumption) 4 rfl rfl ?_); intro hZ DZ; (try simp only [List.set_cons_zero, List.set_cons_succ] at DZ); (try dsimp only [Obj.mapCls, Obj.mapDict, Obj.mapDictKeys, Obj.mapFields, Obj.mapSeq] at DZ); (revert hZ; intro _ _)) | ((with_reducible show wpAny _ _ (updatePart _ _ _) _ _ _); (first | refine updPM (by assumption) 0 rfl rfl ?_ | refine updPM (by assumption) 1 rfl rfl ?_ | refine updPM (by assumption) 2 rfl rfl ?_ | refine updPM (by assumption) 3 rfl rfl ?_ | refine updPM (by assumption) 4 rfl rfl ?_); intro hZ DZ; (try simp only [List.set_cons_zero, List.set_cons_succ] at DZ); (try dsimp only [Obj.mapCls, Obj.mapDict, Obj.mapDictKeys, Obj.mapFields, Obj.mapSeq] at DZ); (revert hZ; intro _ _)) | (with_reducible refine iteF (by assumption) ?_) | (with_reducible refine iteT (by assumption) ?_) | ((with_reducible refine iteF ?_ ?_); (focus (as_aux_lemma => kernel_rfl))) | ((with_reducible refine iteT ?_ ?_); (focus (as_aux_lemma => kernel_rfl))) | ((with_reducible refine wpAny_ite_false ?_ ?_); (focus (as_aux_lemma => kernel_rfl))) | ((with_reducible refine wpAny_ite_true ?_ ?_); (focus (as_aux_lemma => kernel_rfl))) | wp_delta | (with_reducible_and_instances refine wpAny_pure ?_) | (with_reducible dsimp only))) | ((with_reducible_and_instances refine bindV ?_); intro _ _))))
  show wpAny _ _ (Builtin.Slots.read (Str.ofString "K") [.type "object"] _) _ _ _
  refine slots_read D hsL ?_
  clear D
  intro h' D'
  (repeat (((fail_if_success (with_reducible show wpAny _ _ (collect _) _ _ _)); (fail_if_success (with_reducible show wpAny _ _ (forIn (_ : Array DictEntry) _ _) _ _ _)); (fail_if_success (with_reducible show wpAny _ _ (Sem.tryCatch _ _) _ _ _)); (fail_if_success (with_reducible show wpAny _ _ (tryCatch _ _) _ _ _)); (fail_if_success (with_reducible show wpAny _ _ (Builtin.Slots.read _ _ _) _ _ _)); (fail_if_success (with_reducible show wpAny _ _ (call _ _ _) _ _ _)); (fail_if_success (with_reducible show wpAny _ _ (runValue _) _ _ _)); first | ((fail_if_success (with_reducible show wpAny _ _ _ _ _ _)); with_reducible apply_assumption) | ((with_reducible refine bindV ?_); intro _ _) | ((first | with_reducible (first | refine wpAny_of_eq (by assumption) ?_ | refine wpAny_pure ?_ | refine wpAny_holding ?_ | refine wpAny_standAt ?_ | refine wpAny_point ?_ | refine wpAny_rule ?_ | refine wpAny_fresh' ?_ | refine wpAny_askSetting ?_ | refine wpAny_tryCatch ?_ | refine wpAny_attempt ?_ | refine wpAny_throw ?_) | ((with_reducible refine allocM (by assumption) ?_ ?_); (focus rfl); intro _ _ _) | ((with_reducible show wpAny _ _ (typeLookup (Value.ref _) _) _ _ _); (first | refine tlW (Mem.at (by assumption) 0 _ _ rfl) rfl (by assumption) ?_ | refine tlW (Mem.at (by assumption) 1 _ _ rfl) rfl (by assumption) ?_ | refine tlW (Mem.at (by assumption) 2 _ _ rfl) rfl (by assumption) ?_ | refine tlW (Mem.at (by assumption) 3 _ _ rfl) rfl (by assumption) ?_); intro _ _) | ((with_reducible show wpAny _ _ (setSlotAt _ _ _) _ _ _); (first | refine setSlotM (by assumption) 0 rfl (by rw [sizeLine_eq]; rfl) rfl ?_ | refine setSlotM (by assumption) 1 rfl (by rw [sizeLine_eq]; rfl) rfl ?_ | refine setSlotM (by assumption) 2 rfl (by rw [sizeLine_eq]; rfl) rfl ?_ | refine setSlotM (by assumption) 3 rfl (by rw [sizeLine_eq]; rfl) rfl ?_); intro hZ DZ; (try simp only [List.set_cons_zero, List.set_cons_succ, putS] at DZ); (try dsimp only at DZ); (revert hZ; intro _ _)) | ((with_reducible show wpAny _ _ (load _) _ _ _); first | refine loadO (by assumption) (by assumption) rfl ?_ | refine loadN (by assumption) 0 rfl ?_ | refine loadN (by assumption) 1 rfl ?_ | refine loadN (by assumption) 2 rfl ?_ | refine loadN (by assumption) 3 rfl ?_ | refine loadN (by assumption) 4 rfl ?_ | refine loadN (by assumption) 5 rfl ?_ | refine loadN (by assumption) 6 rfl ?_) | ((with_reducible show wpAny _ _ (loadPart _ _) _ _ _); first | refine loadPO (by assumption) (by assumption) rfl ?_ | refine loadPN (by assumption) 0 rfl ?_ | refine loadPN (by assumption) 1 rfl ?_ | refine loadPN (by assumption) 2 rfl ?_ | refine loadPN (by assumption) 3 rfl ?_ | refine loadPN (by assumption) 4 rfl ?_ | refine loadPN (by assumption) 5 rfl ?_ | refine loadPN (by assumption) 6 rfl ?_) | ((with_reducible show wpAny _ _ (update _ _) _ _ _); (first | refine updM (by assumption) 0 rfl rfl ?_ | refine updM (by assumption) 1 rfl rfl ?_ | refine updM (by assumption) 2 rfl rfl ?_ | refine updM (by assumption) 3 rfl rfl ?_ | refine updM (by assumption) 4 rfl rfl ?_); intro hZ DZ; (try simp only [List.set_cons_zero, List.set_cons_succ] at DZ); (try dsimp only [Obj.mapCls, Obj.mapDict, Obj.mapDictKeys, Obj.mapFields, Obj.mapSeq] at DZ); (revert hZ; intro _ _)) | ((with_reducible show wpAny _ _ (updatePart _ _ _) _ _ _); (first | refine updPM (by assumption) 0 rfl rfl ?_ | refine updPM (by assumption) 1 rfl rfl ?_ | refine updPM (by assumption) 2 rfl rfl ?_ | refine updPM (by assumption) 3 rfl rfl ?_ | refine updPM (by assumption) 4 rfl rfl ?_); intro hZ DZ; (try simp only [List.set_cons_zero, List.set_cons_succ] at DZ); (try dsimp only [Obj.mapCls, Obj.mapDict, Obj.mapDictKeys, Obj.mapFields, Obj.mapSeq] at DZ); (revert hZ; intro _ _)) | (with_reducible refine iteF (by assumption) ?_) | (with_reducible refine iteT (by assumption) ?_) | ((with_reducible refine iteF ?_ ?_); (focus (as_aux_lemma => kernel_rfl))) | ((with_reducible refine iteT ?_ ?_); (focus (as_aux_lemma => kernel_rfl))) | ((with_reducible refine wpAny_ite_false ?_ ?_); (focus (as_aux_lemma => kernel_rfl))) | ((with_reducible refine wpAny_ite_true ?_ ?_); (focus (as_aux_lemma => kernel_rfl))) | wp_delta | (with_reducible_and_instances refine wpAny_pure ?_) | (with_reducible dsimp only))) | ((with_reducible_and_instances refine bindV ?_); intro _ _))))
  rw [filt, anyM_one]
  (repeat (((fail_if_success (with_reducible show wpAny _ _ (collect _) _ _ _)); (fail_if_success (with_reducible show wpAny _ _ (forIn (_ : Array DictEntry) _ _) _ _ _)); (fail_if_success (with_reducible show wpAny _ _ (Sem.tryCatch _ _) _ _ _)); (fail_if_success (with_reducible show wpAny _ _ (tryCatch _ _) _ _ _)); (fail_if_success (with_reducible show wpAny _ _ (Builtin.Slots.read _ _ _) _ _ _)); (fail_if_success (with_reducible show wpAny _ _ (call _ _ _) _ _ _)); (fail_if_success (with_reducible show wpAny _ _ (runValue _) _ _ _)); first | ((fail_if_success (with_reducible show wpAny _ _ _ _ _ _)); with_reducible apply_assumption) | ((with_reducible refine bindV ?_); intro _ _) | ((first | with_reducible (first | refine wpAny_of_eq (by assumption) ?_ | refine wpAny_pure ?_ | refine wpAny_holding ?_ | refine wpAny_standAt ?_ | refine wpAny_point ?_ | refine wpAny_rule ?_ | refine wpAny_fresh' ?_ | refine wpAny_askSetting ?_ | refine wpAny_tryCatch ?_ | refine wpAny_attempt ?_ | refine wpAny_throw ?_) | ((with_reducible refine allocM (by assumption) ?_ ?_); (focus rfl); intro _ _ _) | ((with_reducible show wpAny _ _ (typeLookup (Value.ref _) _) _ _ _); (first | refine tlW (Mem.at (by assumption) 0 _ _ rfl) rfl (by assumption) ?_ | refine tlW (Mem.at (by assumption) 1 _ _ rfl) rfl (by assumption) ?_ | refine tlW (Mem.at (by assumption) 2 _ _ rfl) rfl (by assumption) ?_ | refine tlW (Mem.at (by assumption) 3 _ _ rfl) rfl (by assumption) ?_); intro _ _) | ((with_reducible show wpAny _ _ (setSlotAt _ _ _) _ _ _); (first | refine setSlotM (by assumption) 0 rfl (by rw [sizeLine_eq]; rfl) rfl ?_ | refine setSlotM (by assumption) 1 rfl (by rw [sizeLine_eq]; rfl) rfl ?_ | refine setSlotM (by assumption) 2 rfl (by rw [sizeLine_eq]; rfl) rfl ?_ | refine setSlotM (by assumption) 3 rfl (by rw [sizeLine_eq]; rfl) rfl ?_); intro hZ DZ; (try simp only [List.set_cons_zero, List.set_cons_succ, putS] at DZ); (try dsimp only at DZ); (revert hZ; intro _ _)) | ((with_reducible show wpAny _ _ (load _) _ _ _); first | refine loadO (by assumption) (by assumption) rfl ?_ | refine loadN (by assumption) 0 rfl ?_ | refine loadN (by assumption) 1 rfl ?_ | refine loadN (by assumption) 2 rfl ?_ | refine loadN (by assumption) 3 rfl ?_ | refine loadN (by assumption) 4 rfl ?_ | refine loadN (by assumption) 5 rfl ?_ | refine loadN (by assumption) 6 rfl ?_) | ((with_reducible show wpAny _ _ (loadPart _ _) _ _ _); first | refine loadPO (by assumption) (by assumption) rfl ?_ | refine loadPN (by assumption) 0 rfl ?_ | refine loadPN (by assumption) 1 rfl ?_ | refine loadPN (by assumption) 2 rfl ?_ | refine loadPN (by assumption) 3 rfl ?_ | refine loadPN (by assumption) 4 rfl ?_ | refine loadPN (by assumption) 5 rfl ?_ | refine loadPN (by assumption) 6 rfl ?_) | ((with_reducible show wpAny _ _ (update _ _) _ _ _); (first | refine updM (by assumption) 0 rfl rfl ?_ | refine updM (by assumption) 1 rfl rfl ?_ | refine updM (by assumption) 2 rfl rfl ?_ | refine updM (by assumption) 3 rfl rfl ?_ | refine updM (by assumption) 4 rfl rfl ?_); intro hZ DZ; (try simp only [List.set_cons_zero, List.set_cons_succ] at DZ); (try dsimp only [Obj.mapCls, Obj.mapDict, Obj.mapDictKeys, Obj.mapFields, Obj.mapSeq] at DZ); (revert hZ; intro _ _)) | ((with_reducible show wpAny _ _ (updatePart _ _ _) _ _ _); (first | refine updPM (by assumption) 0 rfl rfl ?_ | refine updPM (by assumption) 1 rfl rfl ?_ | refine updPM (by assumption) 2 rfl rfl ?_ | refine updPM (by assumption) 3 rfl rfl ?_ | refine updPM (by assumption) 4 rfl rfl ?_); intro hZ DZ; (try simp only [List.set_cons_zero, List.set_cons_succ] at DZ); (try dsimp only [Obj.mapCls, Obj.mapDict, Obj.mapDictKeys, Obj.mapFields, Obj.mapSeq] at DZ); (revert hZ; intro _ _)) | (with_reducible refine iteF (by assumption) ?_) | (with_reducible refine iteT (by assumption) ?_) | ((with_reducible refine iteF ?_ ?_); (focus (as_aux_lemma => kernel_rfl))) | ((with_reducible refine iteT ?_ ?_); (focus (as_aux_lemma => kernel_rfl))) | ((with_reducible refine wpAny_ite_false ?_ ?_); (focus (as_aux_lemma => kernel_rfl))) | ((with_reducible refine wpAny_ite_true ?_ ?_); (focus (as_aux_lemma => kernel_rfl))) | wp_delta | (with_reducible_and_instances refine wpAny_pure ?_) | (with_reducible dsimp only))) | ((with_reducible_and_instances refine bindV ?_); intro _ _))))
  rename_i D9 _ _ _ _ _ _ _ _ _ _ _ _ _ _ _ _
  obtain ⟨⟨m1, m2⟩, ⟨c1, c2⟩, ⟨n1, n2⟩, hk⟩ := hooksPre (bT := bT) (tM := t) (tn := tn) (t3 := t3) (n := 3) (es := madeEs w.params t0 t1 t4 t5 t6 t7 t8 t9 ta tb tc td te (t + 1) (t + 1 + 1) sL f1 f2 f3 f4 f5 f6 sT) D9 (by as_aux_lemma => kernel_rfl) (by as_aux_lemma => kernel_rfl) (by as_aux_lemma => kernel_rfl)
  refine wpAny_tryCatch (wpAny_holding ?_)
  refine wpAny_bind (wpAny_dictEntries n1 rfl ?_)
  refine wpAny_bind (forA_same ?_ ?_)
  · intro e he Q' hq'
    obtain ⟨x, tx, hx⟩ := keysStr _ _ _ _ _ _ _ _ _ _ _ _ _ _ _ _ _ _ _ _ _ _ _ _ _ e he
    rw [hx]
    exact wpAny_pure hq'
  · refine wpAny_bind (wpAny_dictEntries n1 rfl ?_)
    refine wpAny_bind (forA_same ?_ ?_)
    · intro e he Q' hq'
      obtain ⟨y1, T, hT, hl⟩ := noSet (hk _ _ hsL) (hk _ _ hf1) (hk _ _ hf2) (hk _ _ hf3) (hk _ _ hf4) (hk _ _ hf5) (hk _ _ hf6) (hk _ _ hsT) m1 e he
      refine iteF y1 (wpAny_bind (wpAny_specialOf hT hl ?_))
      exact wpAny_pure hq'
    · refine sup_init (hk _ _ h2) c1 fun h' hk' => ?_
      apply_assumption
      exact wpAny_pure (hQ _ _ _ _ (fun b o e => hk' _ _ (hk _ _ e)) m2 c2 n2 (hk' _ _ m1) (hk' _ _ c1) (hk' _ _ n1))
end Mine
end
theorem Mine.freshKW : True := by k_with_none; w_top off; first | walk1 | trivial
-- KW
section
open PySem PySem.W PySem.W.X PyProof.Rows PySem.Calls
set_option Elab.async false
namespace Mine
theorem ty_made : Bind.madeBy (.type "type") = pure (some "type.__new__") := by kernel_rfl
theorem ty_tl : typeLookup (.type "type") (Str.ofString "__init__") = pure (some (.builtin "type.__init__")) := by rw [typeLookup_type, builtinLookup_eq_fast]; kernel_rfl
theorem slot_ti : Slot "type" (Str.ofString "__init__") "type.__init__" :=
  .of ty_tl (owner := "type") (n := "__init__") (by decide +kernel) (by decide +kernel) (by decide +kernel) (.inl (by decide +kernel)) (by rw [isSubtype_type]; kernel_rfl)
theorem entry_ti : entryFor table "type.__init__" = some Builtin.«type.__init__» := entryFor_of_tree (by kernel_rfl)
theorem entry_tn : entryFor table "type.__new__" = some Builtin.«type.__new__» := entryFor_of_tree (by kernel_rfl)
theorem ty_mro : mroOf (.type "type") = pure [.type "type", .type "object"] := by rw [mroOf_type]; kernel_rfl
theorem ty_chk (a b c : Value) : checkBuiltinCall "type.__new__" ⟨[.type "type", a, b, c], []⟩ = pure () := by kernel_rfl
set_option maxRecDepth 100000 in
set_option maxHeartbeats 2500000 in
theorem type_call {prog : Program} {w : World} {h : Heap} {g : Array GenState} {d : Drawn} {t : Nat} {os : OsState} {bT nsA f1 f2 f3 f4 f5 f6 sL sT : Addr} {tn t0 t1 t2 t3 t4 t5 t6 t7 t8 t9 ta tb tc td te tf : Tok} {n : Nat} {Q E : Value → Shared → Prop}
   {d1 d2 d3 d4 d5 d6 d7 : Option Addr} {x1 x2 x3 x4 x5 x6 x7 : Data} {y1 y2 y3 y4 y5 y6 y7 : Array (Option Value)}
   (hb : h.get? bT = some ⟨.type "tuple", none, .seq #[.type "object"] 0, #[]⟩)
   (hn : h.get? nsA = some ⟨.type "dict", none, .dict (clsEs w.params t0 t1 t2 t3 t4 t5 t6 t7 t8 t9 ta tb tc td te sL f1 f2 f3 f4 f5 f6 sT) n, #[]⟩)
   (hs1 : (nsA == sysModules) = false) (hsL : h.get? sL = some ⟨.type "list", none, .seq #[.str (Str.ofString "obj") tf] 0, #[]⟩)
   (hf1 : h.get? f1 = some ⟨.type "function", d1, x1, y1⟩) (hf2 : h.get? f2 = some ⟨.type "function", d2, x2, y2⟩) (hf3 : h.get? f3 = some ⟨.type "function", d3, x3, y3⟩)
   (hf4 : h.get? f4 = some ⟨.type "function", d4, x4, y4⟩) (hf5 : h.get? f5 = some ⟨.type "function", d5, x5, y5⟩) (hf6 : h.get? f6 = some ⟨.type "function", d6, x6, y6⟩)
   (hsT : h.get? sT = some ⟨.type "tuple", d7, x7, y7⟩)
   (h2 : h.get? cStatics = some ⟨.none, none, .dict #[] 0, #[]⟩)
   (hQ : ∀ mm C ns h', (∀ b o, h.get? b = some o → h'.get? b = some o) → h.get? mm = none → h.get? C = none → h.get? ns = none → h'.get? mm = some (memObj C t) → h'.get? C = some (clsObj bT C ns tn t3) →
     h'.get? ns = some ⟨.type "dict", none, .dict (madeEs w.params t0 t1 t4 t5 t6 t7 t8 t9 ta tb tc td te (t + 1) (t + 1 + 1) sL f1 f2 f3 f4 f5 f6 sT mm) 3, #[]⟩ → Q (.ref C) ⟨h', g, d, t + 1 + 1 + 1 + 1, os⟩) :
   wpAny (model prog w) { WA with depth := 590, units := 290 } (call (.type "type") [.str (Str.ofString "K") tn, .ref bT, .ref nsA]) Q E ⟨h, g, d, t, os⟩ := by
  have e1 := ty_made
  have e2 := ty_tl
  have e3 := ty_mro
  have e4 := ty_chk
  refine wpAny_call (codeAny_of_tree ?_)
  show wpAny _ _ (callAny (.type "type") _) _ _ _
  refine wpAny_pure ⟨Code.quiet_builtin _ (by decide +kernel), codeAny_builtin F.entry_type_call ?_⟩
  rw [Around.under_plain (weight_type_call_type "type" _ []) (units_type_call_type "type" _ [])]
  (repeat (((fail_if_success (with_reducible show wpAny _ _ (collect _) _ _ _)); (fail_if_success (with_reducible show wpAny _ _ (forIn (_ : Array DictEntry) _ _) _ _ _)); (fail_if_success (with_reducible show wpAny _ _ (Sem.tryCatch _ _) _ _ _)); (fail_if_success (with_reducible show wpAny _ _ (tryCatch _ _) _ _ _)); (fail_if_success (with_reducible show wpAny _ _ (Builtin.Slots.read _ _ _) _ _ _)); (fail_if_success (with_reducible show wpAny _ _ (call _ _ _) _ _ _)); (fail_if_success (with_reducible show wpAny _ _ (runValue _) _ _ _)); first | ((fail_if_success (with_reducible show wpAny _ _ _ _ _ _)); with_reducible apply_assumption) | ((with_reducible refine bindV ?_); intro _ _) | ((first | with_reducible (first | refine wpAny_of_eq (by assumption) ?_ | refine wpAny_pure ?_ | refine wpAny_holding ?_ | refine wpAny_standAt ?_ | refine wpAny_point ?_ | refine wpAny_rule ?_ | refine wpAny_fresh' ?_ | refine wpAny_askSetting ?_ | refine wpAny_tryCatch ?_ | refine wpAny_attempt ?_ | refine wpAny_throw ?_) | ((with_reducible refine allocM (by assumption) ?_ ?_); (focus rfl); intro _ _ _) | ((with_reducible show wpAny _ _ (typeLookup (Value.ref _) _) _ _ _); (first | refine tlW (Mem.at (by assumption) 0 _ _ rfl) rfl (by assumption) ?_ | refine tlW (Mem.at (by assumption) 1 _ _ rfl) rfl (by assumption) ?_ | refine tlW (Mem.at (by assumption) 2 _ _ rfl) rfl (by assumption) ?_ | refine tlW (Mem.at (by assumption) 3 _ _ rfl) rfl (by assumption) ?_); intro _ _) | ((with_reducible show wpAny _ _ (setSlotAt _ _ _) _ _ _); (first | refine setSlotM (by assumption) 0 rfl (by rw [sizeLine_eq]; rfl) rfl ?_ | refine setSlotM (by assumption) 1 rfl (by rw [sizeLine_eq]; rfl) rfl ?_ | refine setSlotM (by assumption) 2 rfl (by rw [sizeLine_eq]; rfl) rfl ?_ | refine setSlotM (by assumption) 3 rfl (by rw [sizeLine_eq]; rfl) rfl ?_); intro hZ DZ; (try simp only [List.set_cons_zero, List.set_cons_succ, putS] at DZ); (try dsimp only at DZ); (revert hZ; intro _ _)) | ((with_reducible show wpAny _ _ (load _) _ _ _); first | refine loadO (by assumption) (by assumption) rfl ?_ | refine loadN (by assumption) 0 rfl ?_ | refine loadN (by assumption) 1 rfl ?_ | refine loadN (by assumption) 2 rfl ?_ | refine loadN (by assumption) 3 rfl ?_ | refine loadN (by assumption) 4 rfl ?_ | refine loadN (by assumption) 5 rfl ?_ | refine loadN (by assumption) 6 rfl ?_) | ((with_reducible show wpAny _ _ (loadPart _ _) _ _ _); first | refine loadPO (by assumption) (by assumption) rfl ?_ | refine loadPN (by assumption) 0 rfl ?_ | refine loadPN (by assumption) 1 rfl ?_ | refine loadPN (by assumption) 2 rfl ?_ | refine loadPN (by assumption) 3 rfl ?_ | refine loadPN (by assumption) 4 rfl ?_ | refine loadPN (by assumption) 5 rfl ?_ | refine loadPN (by assumption) 6 rfl ?_) | ((with_reducible show wpAny _ _ (update _ _) _ _ _); (first | refine updM (by assumption) 0 rfl rfl ?_ | refine updM (by assumption) 1 rfl rfl ?_ | refine updM (by assumption) 2 rfl rfl ?_ | refine updM (by assumption) 3 rfl rfl ?_ | refine updM (by assumption) 4 rfl rfl ?_); intro hZ DZ; (try simp only [List.set_cons_zero, List.set_cons_succ] at DZ); (try dsimp only [Obj.mapCls, Obj.mapDict, Obj.mapDictKeys, Obj.mapFields, Obj.mapSeq] at DZ); (revert hZ; intro _ _)) | ((with_reducible show wpAny _ _ (updatePart _ _ _) _ _ _); (first | refine updPM (by assumption) 0 rfl rfl ?_ | refine updPM (by assumption) 1 rfl rfl ?_ | refine updPM (by assumption) 2 rfl rfl ?_ | refine updPM (by assumption) 3 rfl rfl ?_ | refine updPM (by assumption) 4 rfl rfl ?_); intro hZ DZ; (try simp only [List.set_cons_zero, List.set_cons_succ] at DZ); (try dsimp only [Obj.mapCls, Obj.mapDict, Obj.mapDictKeys, Obj.mapFields, Obj.mapSeq] at DZ); (revert hZ; intro _ _)) | (with_reducible refine iteF (by assumption) ?_) | (with_reducible refine iteT (by assumption) ?_) | ((with_reducible refine iteF ?_ ?_); (focus (as_aux_lemma => kernel_rfl))) | ((with_reducible refine iteT ?_ ?_); (focus (as_aux_lemma => kernel_rfl))) | ((with_reducible refine wpAny_ite_false ?_ ?_); (focus (as_aux_lemma => kernel_rfl))) | ((with_reducible refine wpAny_ite_true ?_ ?_); (focus (as_aux_lemma => kernel_rfl))) | wp_delta | (with_reducible_and_instances refine wpAny_pure ?_) | (with_reducible dsimp only))) | ((with_reducible_and_instances refine bindV ?_); intro _ _))))
  refine wpAny_call (codeAny_call_builtin (by decide +kernel) entry_tn (wpAny_of_eq (e4 _ _ _) (weaker (A' := WA) rfl (by decide) (by decide) rfl rfl (type_new hb hn hs1 hsL hf1 hf2 hf3 hf4 hf5 hf6 hsT h2 fun mm C ns h' k0 k1 k2 k3 k4 k5 k6 => ?_))))
  have hq := hQ _ _ _ _ k0 k1 k2 k3 k4 k5 k6
  clear hQ
  have D := Mem.start h'
  unfold clsObj at k5
  have e5 := st_yy
  have e6 := slot_ti.bind (.ref C)
  (repeat (((fail_if_success (with_reducible show wpAny _ _ (collect _) _ _ _)); (fail_if_success (with_reducible show wpAny _ _ (forIn (_ : Array DictEntry) _ _) _ _ _)); (fail_if_success (with_reducible show wpAny _ _ (Sem.tryCatch _ _) _ _ _)); (fail_if_success (with_reducible show wpAny _ _ (tryCatch _ _) _ _ _)); (fail_if_success (with_reducible show wpAny _ _ (Builtin.Slots.read _ _ _) _ _ _)); (fail_if_success (with_reducible show wpAny _ _ (call _ _ _) _ _ _)); (fail_if_success (with_reducible show wpAny _ _ (runValue _) _ _ _)); first | ((fail_if_success (with_reducible show wpAny _ _ _ _ _ _)); with_reducible apply_assumption) | ((with_reducible refine bindV ?_); intro _ _) | ((first | with_reducible (first | refine wpAny_of_eq (by assumption) ?_ | refine wpAny_pure ?_ | refine wpAny_holding ?_ | refine wpAny_standAt ?_ | refine wpAny_point ?_ | refine wpAny_rule ?_ | refine wpAny_fresh' ?_ | refine wpAny_askSetting ?_ | refine wpAny_tryCatch ?_ | refine wpAny_attempt ?_ | refine wpAny_throw ?_) | ((with_reducible refine allocM (by assumption) ?_ ?_); (focus rfl); intro _ _ _) | ((with_reducible show wpAny _ _ (typeLookup (Value.ref _) _) _ _ _); (first | refine tlW (Mem.at (by assumption) 0 _ _ rfl) rfl (by assumption) ?_ | refine tlW (Mem.at (by assumption) 1 _ _ rfl) rfl (by assumption) ?_ | refine tlW (Mem.at (by assumption) 2 _ _ rfl) rfl (by assumption) ?_ | refine tlW (Mem.at (by assumption) 3 _ _ rfl) rfl (by assumption) ?_); intro _ _) | ((with_reducible show wpAny _ _ (setSlotAt _ _ _) _ _ _); (first | refine setSlotM (by assumption) 0 rfl (by rw [sizeLine_eq]; rfl) rfl ?_ | refine setSlotM (by assumption) 1 rfl (by rw [sizeLine_eq]; rfl) rfl ?_ | refine setSlotM (by assumption) 2 rfl (by rw [sizeLine_eq]; rfl) rfl ?_ | refine setSlotM (by assumption) 3 rfl (by rw [sizeLine_eq]; rfl) rfl ?_); intro hZ DZ; (try simp only [List.set_cons_zero, List.set_cons_succ, putS] at DZ); (try dsimp only at DZ); (revert hZ; intro _ _)) | ((with_reducible show wpAny _ _ (load _) _ _ _); first | refine loadO (by assumption) (by assumption) rfl ?_ | refine loadN (by assumption) 0 rfl ?_ | refine loadN (by assumption) 1 rfl ?_ | refine loadN (by assumption) 2 rfl ?_ | refine loadN (by assumption) 3 rfl ?_ | refine loadN (by assumption) 4 rfl ?_ | refine loadN (by assumption) 5 rfl ?_ | refine loadN (by assumption) 6 rfl ?_) | ((with_reducible show wpAny _ _ (loadPart _ _) _ _ _); first | refine loadPO (by assumption) (by assumption) rfl ?_ | refine loadPN (by assumption) 0 rfl ?_ | refine loadPN (by assumption) 1 rfl ?_ | refine loadPN (by assumption) 2 rfl ?_ | refine loadPN (by assumption) 3 rfl ?_ | refine loadPN (by assumption) 4 rfl ?_ | refine loadPN (by assumption) 5 rfl ?_ | refine loadPN (by assumption) 6 rfl ?_) | ((with_reducible show wpAny _ _ (update _ _) _ _ _); (first | refine updM (by assumption) 0 rfl rfl ?_ | refine updM (by assumption) 1 rfl rfl ?_ | refine updM (by assumption) 2 rfl rfl ?_ | refine updM (by assumption) 3 rfl rfl ?_ | refine updM (by assumption) 4 rfl rfl ?_); intro hZ DZ; (try simp only [List.set_cons_zero, List.set_cons_succ] at DZ); (try dsimp only [Obj.mapCls, Obj.mapDict, Obj.mapDictKeys, Obj.mapFields, Obj.mapSeq] at DZ); (revert hZ; intro _ _)) | ((with_reducible show wpAny _ _ (updatePart _ _ _) _ _ _); (first | refine updPM (by assumption) 0 rfl rfl ?_ | refine updPM (by assumption) 1 rfl rfl ?_ | refine updPM (by assumption) 2 rfl rfl ?_ | refine updPM (by assumption) 3 rfl rfl ?_ | refine updPM (by assumption) 4 rfl rfl ?_); intro hZ DZ; (try simp only [List.set_cons_zero, List.set_cons_succ] at DZ); (try dsimp only [Obj.mapCls, Obj.mapDict, Obj.mapDictKeys, Obj.mapFields, Obj.mapSeq] at DZ); (revert hZ; intro _ _)) | (with_reducible refine iteF (by assumption) ?_) | (with_reducible refine iteT (by assumption) ?_) | ((with_reducible refine iteF ?_ ?_); (focus (as_aux_lemma => kernel_rfl))) | ((with_reducible refine iteT ?_ ?_); (focus (as_aux_lemma => kernel_rfl))) | ((with_reducible refine wpAny_ite_false ?_ ?_); (focus (as_aux_lemma => kernel_rfl))) | ((with_reducible refine wpAny_ite_true ?_ ?_); (focus (as_aux_lemma => kernel_rfl))) | wp_delta | (with_reducible_and_instances refine wpAny_pure ?_) | (with_reducible dsimp only))) | ((with_reducible_and_instances refine bindV ?_); intro _ _))))
  refine wpAny_call_entry slot_ti ⟨_, k5, rfl⟩ entry_ti ?_
  (repeat (((fail_if_success (with_reducible show wpAny _ _ (collect _) _ _ _)); (fail_if_success (with_reducible show wpAny _ _ (forIn (_ : Array DictEntry) _ _) _ _ _)); (fail_if_success (with_reducible show wpAny _ _ (Sem.tryCatch _ _) _ _ _)); (fail_if_success (with_reducible show wpAny _ _ (tryCatch _ _) _ _ _)); (fail_if_success (with_reducible show wpAny _ _ (Builtin.Slots.read _ _ _) _ _ _)); (fail_if_success (with_reducible show wpAny _ _ (call _ _ _) _ _ _)); (fail_if_success (with_reducible show wpAny _ _ (runValue _) _ _ _)); first | ((fail_if_success (with_reducible show wpAny _ _ _ _ _ _)); with_reducible apply_assumption) | ((with_reducible refine bindV ?_); intro _ _) | ((first | with_reducible (first | refine wpAny_of_eq (by assumption) ?_ | refine wpAny_pure ?_ | refine wpAny_holding ?_ | refine wpAny_standAt ?_ | refine wpAny_point ?_ | refine wpAny_rule ?_ | refine wpAny_fresh' ?_ | refine wpAny_askSetting ?_ | refine wpAny_tryCatch ?_ | refine wpAny_attempt ?_ | refine wpAny_throw ?_) | ((with_reducible refine allocM (by assumption) ?_ ?_); (focus rfl); intro _ _ _) | ((with_reducible show wpAny _ _ (typeLookup (Value.ref _) _) _ _ _); (first | refine tlW (Mem.at (by assumption) 0 _ _ rfl) rfl (by assumption) ?_ | refine tlW (Mem.at (by assumption) 1 _ _ rfl) rfl (by assumption) ?_ | refine tlW (Mem.at (by assumption) 2 _ _ rfl) rfl (by assumption) ?_ | refine tlW (Mem.at (by assumption) 3 _ _ rfl) rfl (by assumption) ?_); intro _ _) | ((with_reducible show wpAny _ _ (setSlotAt _ _ _) _ _ _); (first | refine setSlotM (by assumption) 0 rfl (by rw [sizeLine_eq]; rfl) rfl ?_ | refine setSlotM (by assumption) 1 rfl (by rw [sizeLine_eq]; rfl) rfl ?_ | refine setSlotM (by assumption) 2 rfl (by rw [sizeLine_eq]; rfl) rfl ?_ | refine setSlotM (by assumption) 3 rfl (by rw [sizeLine_eq]; rfl) rfl ?_); intro hZ DZ; (try simp only [List.set_cons_zero, List.set_cons_succ, putS] at DZ); (try dsimp only at DZ); (revert hZ; intro _ _)) | ((with_reducible show wpAny _ _ (load _) _ _ _); first | refine loadO (by assumption) (by assumption) rfl ?_ | refine loadN (by assumption) 0 rfl ?_ | refine loadN (by assumption) 1 rfl ?_ | refine loadN (by assumption) 2 rfl ?_ | refine loadN (by assumption) 3 rfl ?_ | refine loadN (by assumption) 4 rfl ?_ | refine loadN (by assumption) 5 rfl ?_ | refine loadN (by assumption) 6 rfl ?_) | ((with_reducible show wpAny _ _ (loadPart _ _) _ _ _); first | refine loadPO (by assumption) (by assumption) rfl ?_ | refine loadPN (by assumption) 0 rfl ?_ | refine loadPN (by assumption) 1 rfl ?_ | refine loadPN (by assumption) 2 rfl ?_ | refine loadPN (by assumption) 3 rfl ?_ | refine loadPN (by assumption) 4 rfl ?_ | refine loadPN (by assumption) 5 rfl ?_ | refine loadPN (by assumption) 6 rfl ?_) | ((with_reducible show wpAny _ _ (update _ _) _ _ _); (first | refine updM (by assumption) 0 rfl rfl ?_ | refine updM (by assumption) 1 rfl rfl ?_ | refine updM (by assumption) 2 rfl rfl ?_ | refine updM (by assumption) 3 rfl rfl ?_ | refine updM (by assumption) 4 rfl rfl ?_); intro hZ DZ; (try simp only [List.set_cons_zero, List.set_cons_succ] at DZ); (try dsimp only [Obj.mapCls, Obj.mapDict, Obj.mapDictKeys, Obj.mapFields, Obj.mapSeq] at DZ); (revert hZ; intro _ _)) | ((with_reducible show wpAny _ _ (updatePart _ _ _) _ _ _); (first | refine updPM (by assumption) 0 rfl rfl ?_ | refine updPM (by assumption) 1 rfl rfl ?_ | refine updPM (by assumption) 2 rfl rfl ?_ | refine updPM (by assumption) 3 rfl rfl ?_ | refine updPM (by assumption) 4 rfl rfl ?_); intro hZ DZ; (try simp only [List.set_cons_zero, List.set_cons_succ] at DZ); (try dsimp only [Obj.mapCls, Obj.mapDict, Obj.mapDictKeys, Obj.mapFields, Obj.mapSeq] at DZ); (revert hZ; intro _ _)) | (with_reducible refine iteF (by assumption) ?_) | (with_reducible refine iteT (by assumption) ?_) | ((with_reducible refine iteF ?_ ?_); (focus (as_aux_lemma => kernel_rfl))) | ((with_reducible refine iteT ?_ ?_); (focus (as_aux_lemma => kernel_rfl))) | ((with_reducible refine wpAny_ite_false ?_ ?_); (focus (as_aux_lemma => kernel_rfl))) | ((with_reducible refine wpAny_ite_true ?_ ?_); (focus (as_aux_lemma => kernel_rfl))) | wp_delta | (with_reducible_and_instances refine wpAny_pure ?_) | (with_reducible dsimp only))) | ((with_reducible_and_instances refine bindV ?_); intro _ _))))
  refine ⟨_, rfl, ?_⟩
  (repeat (((fail_if_success (with_reducible show wpAny _ _ (collect _) _ _ _)); (fail_if_success (with_reducible show wpAny _ _ (forIn (_ : Array DictEntry) _ _) _ _ _)); (fail_if_success (with_reducible show wpAny _ _ (Sem.tryCatch _ _) _ _ _)); (fail_if_success (with_reducible show wpAny _ _ (tryCatch _ _) _ _ _)); (fail_if_success (with_reducible show wpAny _ _ (Builtin.Slots.read _ _ _) _ _ _)); (fail_if_success (with_reducible show wpAny _ _ (call _ _ _) _ _ _)); (fail_if_success (with_reducible show wpAny _ _ (runValue _) _ _ _)); first | ((fail_if_success (with_reducible show wpAny _ _ _ _ _ _)); with_reducible apply_assumption) | ((with_reducible refine bindV ?_); intro _ _) | ((first | with_reducible (first | refine wpAny_of_eq (by assumption) ?_ | refine wpAny_pure ?_ | refine wpAny_holding ?_ | refine wpAny_standAt ?_ | refine wpAny_point ?_ | refine wpAny_rule ?_ | refine wpAny_fresh' ?_ | refine wpAny_askSetting ?_ | refine wpAny_tryCatch ?_ | refine wpAny_attempt ?_ | refine wpAny_throw ?_) | ((with_reducible refine allocM (by assumption) ?_ ?_); (focus rfl); intro _ _ _) | ((with_reducible show wpAny _ _ (typeLookup (Value.ref _) _) _ _ _); (first | refine tlW (Mem.at (by assumption) 0 _ _ rfl) rfl (by assumption) ?_ | refine tlW (Mem.at (by assumption) 1 _ _ rfl) rfl (by assumption) ?_ | refine tlW (Mem.at (by assumption) 2 _ _ rfl) rfl (by assumption) ?_ | refine tlW (Mem.at (by assumption) 3 _ _ rfl) rfl (by assumption) ?_); intro _ _) | ((with_reducible show wpAny _ _ (setSlotAt _ _ _) _ _ _); (first | refine setSlotM (by assumption) 0 rfl (by rw [sizeLine_eq]; rfl) rfl ?_ | refine setSlotM (by assumption) 1 rfl (by rw [sizeLine_eq]; rfl) rfl ?_ | refine setSlotM (by assumption) 2 rfl (by rw [sizeLine_eq]; rfl) rfl ?_ | refine setSlotM (by assumption) 3 rfl (by rw [sizeLine_eq]; rfl) rfl ?_); intro hZ DZ; (try simp only [List.set_cons_zero, List.set_cons_succ, putS] at DZ); (try dsimp only at DZ); (revert hZ; intro _ _)) | ((with_reducible show wpAny _ _ (load _) _ _ _); first | refine loadO (by assumption) (by assumption) rfl ?_ | refine loadN (by assumption) 0 rfl ?_ | refine loadN (by assumption) 1 rfl ?_ | refine loadN (by assumption) 2 rfl ?_ | refine loadN (by assumption) 3 rfl ?_ | refine loadN (by assumption) 4 rfl ?_ | refine loadN (by assumption) 5 rfl ?_ | refine loadN (by assumption) 6 rfl ?_) | ((with_reducible show wpAny _ _ (loadPart _ _) _ _ _); first | refine loadPO (by assumption) (by assumption) rfl ?_ | refine loadPN (by assumption) 0 rfl ?_ | refine loadPN (by assumption) 1 rfl ?_ | refine loadPN (by assumption) 2 rfl ?_ | refine loadPN (by assumption) 3 rfl ?_ | refine loadPN (by assumption) 4 rfl ?_ | refine loadPN (by assumption) 5 rfl ?_ | refine loadPN (by assumption) 6 rfl ?_) | ((with_reducible show wpAny _ _ (update _ _) _ _ _); (first | refine updM (by assumption) 0 rfl rfl ?_ | refine updM (by assumption) 1 rfl rfl ?_ | refine updM (by assumption) 2 rfl rfl ?_ | refine updM (by assumption) 3 rfl rfl ?_ | refine updM (by assumption) 4 rfl rfl ?_); intro hZ DZ; (try simp only [List.set_cons_zero, List.set_cons_succ] at DZ); (try dsimp only [Obj.mapCls, Obj.mapDict, Obj.mapDictKeys, Obj.mapFields, Obj.mapSeq] at DZ); (revert hZ; intro _ _)) | ((with_reducible show wpAny _ _ (updatePart _ _ _) _ _ _); (first | refine updPM (by assumption) 0 rfl rfl ?_ | refine updPM (by assumption) 1 rfl rfl ?_ | refine updPM (by assumption) 2 rfl rfl ?_ | refine updPM (by assumption) 3 rfl rfl ?_ | refine updPM (by assumption) 4 rfl rfl ?_); intro hZ DZ; (try simp only [List.set_cons_zero, List.set_cons_succ] at DZ); (try dsimp only [Obj.mapCls, Obj.mapDict, Obj.mapDictKeys, Obj.mapFields, Obj.mapSeq] at DZ); (revert hZ; intro _ _)) | (with_reducible refine iteF (by assumption) ?_) | (with_reducible refine iteT (by assumption) ?_) | ((with_reducible refine iteF ?_ ?_); (focus (as_aux_lemma => kernel_rfl))) | ((with_reducible refine iteT ?_ ?_); (focus (as_aux_lemma => kernel_rfl))) | ((with_reducible refine wpAny_ite_false ?_ ?_); (focus (as_aux_lemma => kernel_rfl))) | ((with_reducible refine wpAny_ite_true ?_ ?_); (focus (as_aux_lemma => kernel_rfl))) | wp_delta | (with_reducible_and_instances refine wpAny_pure ?_) | (with_reducible dsimp only))) | ((with_reducible_and_instances refine bindV ?_); intro _ _))))
end Mine
end
theorem Mine.freshKX : True := by k_with_none; w_top off; first | walk1 | trivial
-- KX
section
open PySem PySem.W PySem.W.X PyProof.Rows PySem.Calls
set_option Elab.async false
set_option maxRecDepth 100000
namespace Mine
open Hd (KK)
noncomputable def ckS : Scope := by
  refine (?f : Hd.dfn PySem.Challenge.pw_mr0202_01 29 = .FunctionDef ?n ?a [?c, ?r] ?d ?rr ?t ?s ?u ?v ?p → Scope) ?h
  case h => exact rfl
  case f => exact fun _ => ?s
noncomputable def ckC : Stmt := by
  refine (?f : Hd.dfn PySem.Challenge.pw_mr0202_01 29 = .FunctionDef ?n ?a [?c, ?r] ?d ?rr ?t ?s ?u ?v ?p → Stmt) ?h
  case h => exact rfl
  case f => exact fun _ => ?c
noncomputable def ckR : Stmt := by
  refine (?f : Hd.dfn PySem.Challenge.pw_mr0202_01 29 = .FunctionDef ?n ?a [?c, ?r] ?d ?rr ?t ?s ?u ?v ?p → Stmt) ?h
  case h => exact rfl
  case f => exact fun _ => ?r
noncomputable abbrev ckE (L : Addr) : Env := envOfC (Str.ofString "cmp_to_key") ckS L 140 (.ref 139)
theorem ck_enter {prog : Program} {w : World} {A : Around} {h : Heap} {g : Array GenState} {d : Drawn} {t : Nat} {os : OsState} {lam : Addr} {Q E : Value → Shared → Prop} (hroom : A.depth < recursionLimit)
    (X : (KK w.params).In h) (hNL : h.NoLimit)
    (hb : ∀ h₁ tk o, h₁.Ns h.objs.size (fun _ => none) → h₁.get? (h.objs.size + 1) = some o → o.data = .cell (some (.ref lam)) → (∀ b o, h.get? b = some o → h₁.get? b = some o) →
      ∀ E' : Value → Shared → Prop, wpAny (model prog w) (A.deeper (ckE h.objs.size)) (execs [ckC, ckR] (ckE h.objs.size)) (fun f s' => Q (match f with | .ret v => v | _ => .none) s') E' ⟨h₁, g, d, tk, os⟩) :
    wpAny (model prog w) A (call (.ref 140) [.ref lam]) Q E ⟨h, g, d, t, os⟩ := by
  refine wpAny_call ?_
  refine codeAny_call_function hroom (X 140 _ rfl) rfl rfl rfl rfl (codeRec_of X (by kernel_rfl)) ?_
  refine wpAny_of_eq (show _ = pure [(Str.ofString "mycmp", Value.ref lam)] from rfl) ?_
  refine wpAny_newFunctionEnv_cells (by rfl) (kindsX (by rfl) _) fun env' he s' x => ?_
  subst he
  refine ⟨hNL.keeps x.toInCall.keep, codeAny_func ?_⟩
  obtain ⟨h₁, tk, rfl, _⟩ := x.done
  have hk₁ := x.toInCall.keep
  obtain ⟨o, ho, hd⟩ := x.cell (Str.ofString "mycmp") (h.objs.size + 1) (by rfl)
  refine wpAny_mono (hb h₁ tk o x.toInCall.ns ho hd hk₁ _) (fun f s' hq => ?_) fun _ _ y => y
  cases f <;> exact hq
end Mine
end
theorem Mine.freshKN : True := by k_with_none; w_top off; first | walk1 | trivial
-- KN
section
open PySem PySem.W PySem.W.X PyProof.Rows PySem.Calls
set_option Elab.async false
namespace Mine
/-- a memory: what was, what of it has changed, what is new -/
structure Mm (h₀ h : Heap) (chg news : List (Addr × Obj)) : Prop where
  keep : ∀ b o, h₀.get? b = some o → (∀ p ∈ chg, p.1 ≠ b) → h.get? b = some o
  ch : ∀ p ∈ chg, h.get? p.1 = some p.2 ∧ ∃ o, h₀.get? p.1 = some o
  cd : (chg.map (·.1)).Nodup
  nw : ∀ p ∈ news, h.get? p.1 = some p.2 ∧ h₀.get? p.1 = none
  ap : (news.map (·.1)).Nodup
theorem Mm.start (h : Heap) : Mm h h [] [] := ⟨fun _ _ e _ => e, fun _ hp => (nomatch hp), List.nodup_nil, fun _ hp => (nomatch hp), List.nodup_nil⟩
section
variable {h₀ h h' : Heap} {chg news : List (Addr × Obj)} {a : Addr} {o : Obj}
theorem Mm.there (D : Mm h₀ h chg news) {b : Addr} {o : Obj} (e : h₀.get? b = some o) : ∃ o', h.get? b = some o' := by
  by_cases q : ∃ p ∈ chg, p.1 = b
  · obtain ⟨p, hp, rfl⟩ := q
    exact ⟨_, (D.ch p hp).1⟩
  · exact ⟨o, D.keep b o e fun p hp e' => q ⟨p, hp, e'⟩⟩
theorem Mm.new0 (D : Mm h₀ h chg news) {b : Addr} (e : h.get? b = none) : h₀.get? b = none := by
  cases q : h₀.get? b with
  | none => rfl
  | some o => obtain ⟨o', e'⟩ := D.there q; rw [e] at e'; cases e'
theorem Mm.at (D : Mm h₀ h chg news) (i : Nat) (hi : news[i]? = some (a, o)) : h.get? a = some o := (D.nw _ (List.mem_of_getElem? hi)).1
theorem Mm.atC (D : Mm h₀ h chg news) (i : Nat) (hi : chg[i]? = some (a, o)) : h.get? a = some o := (D.ch _ (List.mem_of_getElem? hi)).1
theorem Mm.push (D : Mm h₀ h chg news) (hf : o.isFreed = false) : Mm h₀ (h.push o) chg ((h.objs.size, o) :: news) := by
  have hz : h.get? h.objs.size = none := Heap.get?_none_of_le (Nat.le_refl _)
  refine ⟨fun b o' e q => Heap.get?_push_of_some _ (D.keep b o' e q), fun p hp => ⟨Heap.get?_push_of_some _ (D.ch p hp).1, (D.ch p hp).2⟩, D.cd, fun p hp => ?_, ?_⟩
  · rcases List.mem_cons.mp hp with rfl | hp
    · exact ⟨Heap.get?_push_size _ hf, D.new0 hz⟩
    · exact ⟨Heap.get?_push_of_some _ (D.nw p hp).1, (D.nw p hp).2⟩
  · rw [List.map_cons, List.nodup_cons]
    refine ⟨fun hm => ?_, D.ap⟩
    obtain ⟨p, hp, e⟩ := List.mem_map.mp hm
    have := (D.nw p hp).1
    rw [e, hz] at this
    cases this
theorem key_one {l : List (Addr × Obj)} (hn : (l.map (·.1)).Nodup) {i : Nat} (hi : l[i]? = some (a, o)) {p : Addr × Obj} {o' : Obj} (hp : p ∈ l.set i (a, o')) : (p = (a, o')) ∨ (p ∈ l ∧ p.1 ≠ a) := by
  by_cases hpa : p.1 = a
  · left
    obtain ⟨hl, hgi⟩ := List.getElem?_eq_some_iff.mp hi
    have hx : (a, o') ∈ l.set i (a, o') := List.mem_set hl _
    have em : (l.set i (a, o')).map (·.1) = l.map (·.1) := by
      rw [List.map_set]
      exact set_same (by rw [List.getElem?_map, hi]; rfl)
    exact key_unique (by rw [em]; exact hn) hp hx hpa
  · rcases List.mem_or_eq_of_mem_set hp with hp | rfl
    · exact .inr ⟨hp, hpa⟩
    · exact absurd rfl hpa
theorem map_set_keys {l : List (Addr × Obj)} {i : Nat} {o' : Obj} (hi : l[i]? = some (a, o)) : (l.set i (a, o')).map (·.1) = l.map (·.1) := by
  rw [List.map_set]
  exact set_same (by rw [List.getElem?_map, hi]; rfl)
theorem Mm.update (D : Mm h₀ h chg news) {i : Nat} {f : Obj → Obj} (hi : news[i]? = some (a, o)) (hf : (f o).isFreed = false) : Mm h₀ (h.update a f) chg (news.set i (a, f o)) := by
  have z := D.nw (a, o) (List.mem_of_getElem? hi)
  have hs : Heap.SameBut a h (h.update a f) := Heap.SameBut.update ..
  have ge : (h.update a f).get? a = some (f o) := by first | exact Heap.get?_update_self f z.1 hf | exact Heap.get?_update_self _ z.1 hf
  have ne : ∀ b o', h₀.get? b = some o' → b ≠ a := fun b o' e' z' => by subst z'; rw [e'] at z; cases z.2
  refine ⟨fun b o' e q => (hs.2 b (ne b o' e)).trans (D.keep b o' e q), fun p hp => ?_, D.cd, fun p hp => ?_, by rw [map_set_keys hi]; exact D.ap⟩
  · obtain ⟨o', e'⟩ := (D.ch p hp).2
    exact ⟨(hs.2 p.1 (ne p.1 _ e')).trans (D.ch p hp).1, o', e'⟩
  · rcases key_one D.ap hi hp with rfl | ⟨hp, hpa⟩
    · exact ⟨ge, z.2⟩
    · exact ⟨(hs.2 _ hpa).trans (D.nw p hp).1, (D.nw p hp).2⟩
theorem Mm.change (D : Mm h₀ h chg news) {f : Obj → Obj} (ho : h₀.get? a = some o) (hw : ∀ p ∈ chg, p.1 ≠ a) (hf : (f o).isFreed = false) : Mm h₀ (h.update a f) ((a, f o) :: chg) news := by
  have hh := D.keep a o ho hw
  have hs : Heap.SameBut a h (h.update a f) := Heap.SameBut.update ..
  have ge : (h.update a f).get? a = some (f o) := by first | exact Heap.get?_update_self f hh hf | exact Heap.get?_update_self _ hh hf
  refine ⟨fun b o' e q => (hs.2 b (Ne.symm (q (a, f o) (.head _)))).trans (D.keep b o' e fun p hp => q p (.tail _ hp)), fun p hp => ?_, ?_, fun p hp => ?_, D.ap⟩
  · rcases List.mem_cons.mp hp with rfl | hp
    · exact ⟨ge, o, ho⟩
    · exact ⟨(hs.2 _ (hw p hp)).trans (D.ch p hp).1, (D.ch p hp).2⟩
  · rw [List.map_cons, List.nodup_cons]
    refine ⟨fun hm => ?_, D.cd⟩
    obtain ⟨p, hp, e⟩ := List.mem_map.mp hm
    exact hw p hp e
  · have : p.1 ≠ a := fun e => by have := (D.nw p hp).2; rw [e, ho] at this; cases this
    exact ⟨(hs.2 _ this).trans (D.nw p hp).1, (D.nw p hp).2⟩
theorem Mm.keeps (D : Mm h₀ h chg news) (hk : ∀ b o', h.get? b = some o' → h'.get? b = some o') : Mm h₀ h' chg news :=
  ⟨fun b o e q => hk _ _ (D.keep b o e q), fun p hp => ⟨hk _ _ (D.ch p hp).1, (D.ch p hp).2⟩, D.cd, fun p hp => ⟨hk _ _ (D.nw p hp).1, (D.nw p hp).2⟩, D.ap⟩
theorem Mm.join (D : Mm h₀ h chg news) (D1 : Mem h h' [] [(a, o)]) : Mm h₀ h' chg ((a, o) :: news) := by
  have hk : ∀ b o', h.get? b = some o' → h'.get? b = some o' := fun b o' e => D1.keep b o' e (by simp [away])
  have z := D1.nw (a, o) (by simp)
  have D2 := D.keeps hk
  refine ⟨D2.keep, D2.ch, D2.cd, fun p hp => ?_, ?_⟩
  · rcases List.mem_cons.mp hp with rfl | hp
    · exact ⟨z.1, D.new0 z.2⟩
    · exact D2.nw p hp
  · rw [List.map_cons, List.nodup_cons]
    refine ⟨fun hm => ?_, D.ap⟩
    obtain ⟨p, hp, e⟩ := List.mem_map.mp hm
    have := (D.nw p hp).1
    rw [e, z.2] at this
    cases this
end
section
variable {M : Model} {A : Around} {E : Value → Shared → Prop} {h₀ h : Heap} {g : Array GenState} {d : Drawn} {t : Nat} {os : OsState} {chg news : List (Addr × Obj)} {a : Addr} {o : Obj} {part : Option Value} {f : Obj → Obj}
theorem allocN {Q : Addr → Shared → Prop} (D : Mm h₀ h chg news) (hf : o.isFreed = false) (hq : ∀ a h', Mm h₀ h' chg ((a, o) :: news) → Q a ⟨h', g, d, t, os⟩) : wpAny M A (alloc o) Q E ⟨h, g, d, t, os⟩ :=
  wpAny_alloc (hq _ _ (D.push hf))
theorem updN {Q : Unit → Shared → Prop} (D : Mm h₀ h chg news) (i : Nat) (hi : news[i]? = some (a, o)) (hf : (f o).isFreed = false) (hq : ∀ h', Mm h₀ h' chg (news.set i (a, f o)) → Q () ⟨h', g, d, t, os⟩) : wpAny M A (update a f) Q E ⟨h, g, d, t, os⟩ :=
  wpAny_update (D.at i hi) (hq _ (D.update hi hf))
theorem updPN {Q : Unit → Shared → Prop} (D : Mm h₀ h chg news) (i : Nat) (hi : news[i]? = some (a, o)) (hf : (f o).isFreed = false) (hq : ∀ h', Mm h₀ h' chg (news.set i (a, f o)) → Q () ⟨h', g, d, t, os⟩) : wpAny M A (updatePart a part f) Q E ⟨h, g, d, t, os⟩ :=
  wpAny_updatePart (D.at i hi) (hq _ (D.update hi hf))
theorem updPO {Q : Unit → Shared → Prop} (D : Mm h₀ h chg news) (ho : h₀.get? a = some o) (hw : ∀ p ∈ chg, p.1 ≠ a) (hf : (f o).isFreed = false) (hq : ∀ h', Mm h₀ h' ((a, f o) :: chg) news → Q () ⟨h', g, d, t, os⟩) : wpAny M A (updatePart a part f) Q E ⟨h, g, d, t, os⟩ :=
  wpAny_updatePart (D.keep a o ho hw) (hq _ (D.change ho hw hf))
theorem updOO {Q : Unit → Shared → Prop} (D : Mm h₀ h chg news) (ho : h₀.get? a = some o) (hw : ∀ p ∈ chg, p.1 ≠ a) (hf : (f o).isFreed = false) (hq : ∀ h', Mm h₀ h' ((a, f o) :: chg) news → Q () ⟨h', g, d, t, os⟩) : wpAny M A (update a f) Q E ⟨h, g, d, t, os⟩ :=
  wpAny_update (D.keep a o ho hw) (hq _ (D.change ho hw hf))
theorem noLimit2 {h : Heap} (e : h.get? 2 = some ⟨.none, none, .dict #[] 0, #[]⟩) : h.NoLimit := by
  refine ⟨fun _ => none, ⟨_, _, _, e, rfl, ?_, fun name => ?_⟩, rfl⟩
  · intro e he; simp at he
  · rfl
theorem loadNN {Q : Obj → Shared → Prop} (D : Mm h₀ h chg news) (i : Nat) (hi : news[i]? = some (a, o)) (hq : Q o ⟨h, g, d, t, os⟩) : wpAny M A (load a) Q E ⟨h, g, d, t, os⟩ := wpAny_load (D.at i hi) hq
theorem loadNO {Q : Obj → Shared → Prop} (D : Mm h₀ h chg news) (e : h₀.get? a = some o) (k : ∀ p ∈ chg, p.1 ≠ a) (hq : Q o ⟨h, g, d, t, os⟩) : wpAny M A (load a) Q E ⟨h, g, d, t, os⟩ := wpAny_load (D.keep a o e k) hq
theorem loadNC {Q : Obj → Shared → Prop} (D : Mm h₀ h chg news) (i : Nat) (hi : chg[i]? = some (a, o)) (hq : Q o ⟨h, g, d, t, os⟩) : wpAny M A (load a) Q E ⟨h, g, d, t, os⟩ := wpAny_load (D.atC i hi) hq
theorem loadPNN {Q : Obj → Shared → Prop} (D : Mm h₀ h chg news) (i : Nat) (hi : news[i]? = some (a, o)) (hq : Q o ⟨h, g, d, t, os⟩) : wpAny M A (loadPart a part) Q E ⟨h, g, d, t, os⟩ := wpAny_loadPart (D.at i hi) hq
theorem loadPNO {Q : Obj → Shared → Prop} (D : Mm h₀ h chg news) (e : h₀.get? a = some o) (k : ∀ p ∈ chg, p.1 ≠ a) (hq : Q o ⟨h, g, d, t, os⟩) : wpAny M A (loadPart a part) Q E ⟨h, g, d, t, os⟩ := wpAny_loadPart (D.keep a o e k) hq
theorem loadPNC {Q : Obj → Shared → Prop} (D : Mm h₀ h chg news) (i : Nat) (hi : chg[i]? = some (a, o)) (hq : Q o ⟨h, g, d, t, os⟩) : wpAny M A (loadPart a part) Q E ⟨h, g, d, t, os⟩ := wpAny_loadPart (D.atC i hi) hq
end
end Mine
end
theorem Mine.freshKZ : True := by k_with_none; w_top off; first | walk1 | trivial
-- KZ
section
open PySem PySem.W PySem.W.X PyProof.Rows PySem.Calls
set_option Elab.async false
set_option maxRecDepth 100000
namespace Mine
def WB : Around := { WA with depth := 580, units := 280 }
def prepObj : Obj := ⟨.type "builtin_function_or_method", none, .fields #[.builtin "type.__prepare__", .type "type"], #[]⟩
local macro_rules | `(tactic| x_close) => `(tactic| (apply_assumption; assumption))
set_option maxHeartbeats 0 in
theorem prep_attr {prog : Program} {w : World} {h : Heap} {g : Array GenState} {d : Drawn} {t : Nat} {os : OsState} {Q E : Value → Shared → Prop} {u : Tok}
   (x2 : h.get? 2 = some ⟨.none, none, .dict #[] 0, #[]⟩)
   (hQ : ∀ a h', Mem h h' [] [(a, ⟨.type "builtin_function_or_method", none, .fields #[.builtin "type.__prepare__", .type "type"], #[]⟩)] → Q (.ref a) ⟨h', g, d, t, os⟩) :
   wpAny (model prog w) WB (call (.builtin "type.__getattribute__") [.type "type", .str (Str.ofString "__prepare__") u]) Q E ⟨h, g, d, t, os⟩ := by
  x_run
set_option maxHeartbeats 0 in
theorem prep_call {prog : Program} {w : World} {h : Heap} {g : Array GenState} {d : Drawn} {t : Nat} {os : OsState} {Q E : Value → Shared → Prop} {u : Tok} {a bT : Addr}
   (x2 : h.get? 2 = some ⟨.none, none, .dict #[] 0, #[]⟩) (ha : h.get? a = some ⟨.type "builtin_function_or_method", none, .fields #[.builtin "type.__prepare__", .type "type"], #[]⟩)
   (hQ : ∀ a h', Mem h h' [] [(a, ⟨.type "dict", none, .dict #[] 0, #[]⟩)] → Q (.ref a) ⟨h', g, d, t, os⟩) :
   wpAny (model prog w) WB (call (.ref a) [.str (Str.ofString "K") u, .ref bT]) Q E ⟨h, g, d, t, os⟩ := by
  x_run
end Mine
end
theorem Mine.freshKBa : True := by k_with_none; w_top off; first | walk1 | trivial
-- KBa
section
open PySem PySem.W PySem.W.X PyProof.Rows PySem.Calls
set_option Elab.async false
set_option maxRecDepth 100000
namespace Mine
open Hd (KK)
noncomputable def kB1 : Stmt := by
  refine (?f : ckC = .ClassDef ?n ?bs ?kw [?b1, ?b2, ?b3, ?b4, ?b5, ?b6, ?b7, ?b8, ?b9] ?ds ?tp ?sc ?ts ?bd ?st ?ps → Stmt) ?h
  case h => exact rfl
  case f => exact fun _ => ?b1
noncomputable def kB2 : Stmt := by
  refine (?f : ckC = .ClassDef ?n ?bs ?kw [?b1, ?b2, ?b3, ?b4, ?b5, ?b6, ?b7, ?b8, ?b9] ?ds ?tp ?sc ?ts ?bd ?st ?ps → Stmt) ?h
  case h => exact rfl
  case f => exact fun _ => ?b2
noncomputable def kB3 : Stmt := by
  refine (?f : ckC = .ClassDef ?n ?bs ?kw [?b1, ?b2, ?b3, ?b4, ?b5, ?b6, ?b7, ?b8, ?b9] ?ds ?tp ?sc ?ts ?bd ?st ?ps → Stmt) ?h
  case h => exact rfl
  case f => exact fun _ => ?b3
noncomputable def kB4 : Stmt := by
  refine (?f : ckC = .ClassDef ?n ?bs ?kw [?b1, ?b2, ?b3, ?b4, ?b5, ?b6, ?b7, ?b8, ?b9] ?ds ?tp ?sc ?ts ?bd ?st ?ps → Stmt) ?h
  case h => exact rfl
  case f => exact fun _ => ?b4
noncomputable def kB5 : Stmt := by
  refine (?f : ckC = .ClassDef ?n ?bs ?kw [?b1, ?b2, ?b3, ?b4, ?b5, ?b6, ?b7, ?b8, ?b9] ?ds ?tp ?sc ?ts ?bd ?st ?ps → Stmt) ?h
  case h => exact rfl
  case f => exact fun _ => ?b5
noncomputable def kB6 : Stmt := by
  refine (?f : ckC = .ClassDef ?n ?bs ?kw [?b1, ?b2, ?b3, ?b4, ?b5, ?b6, ?b7, ?b8, ?b9] ?ds ?tp ?sc ?ts ?bd ?st ?ps → Stmt) ?h
  case h => exact rfl
  case f => exact fun _ => ?b6
noncomputable def kB7 : Stmt := by
  refine (?f : ckC = .ClassDef ?n ?bs ?kw [?b1, ?b2, ?b3, ?b4, ?b5, ?b6, ?b7, ?b8, ?b9] ?ds ?tp ?sc ?ts ?bd ?st ?ps → Stmt) ?h
  case h => exact rfl
  case f => exact fun _ => ?b7
noncomputable def kB8 : Stmt := by
  refine (?f : ckC = .ClassDef ?n ?bs ?kw [?b1, ?b2, ?b3, ?b4, ?b5, ?b6, ?b7, ?b8, ?b9] ?ds ?tp ?sc ?ts ?bd ?st ?ps → Stmt) ?h
  case h => exact rfl
  case f => exact fun _ => ?b8
noncomputable def kB9 : Stmt := by
  refine (?f : ckC = .ClassDef ?n ?bs ?kw [?b1, ?b2, ?b3, ?b4, ?b5, ?b6, ?b7, ?b8, ?b9] ?ds ?tp ?sc ?ts ?bd ?st ?ps → Stmt) ?h
  case h => exact rfl
  case f => exact fun _ => ?b9
noncomputable def kP3 : Pos := by
  refine (?f : kB3 = .FunctionDef ?n ?a ?b ?ds ?rt ?tp ?sc ?ts ?bd ?ps → Pos) ?h
  case h => exact rfl
  case f => exact fun _ => ?ps
noncomputable def kF3 (L : Addr) (mg : Str → Option Value) (doc : Value) (c' : Addr) (ctv : Value) : Obj := by
  refine (?f : kB3 = .FunctionDef ?n ?a ?b ?ds ?rt ?tp ?sc ?ts ?bd ?ps → Obj) ?h
  case h => exact rfl
  case f => exact fun _ => fnMade ?n (Str.ofString "cmp_to_key.<locals>.K.__init__") ?a ?b ?sc [] doc ((mg "__name__").getD .none) c' ctv
noncomputable def kP4 : Pos := by
  refine (?f : kB4 = .FunctionDef ?n ?a ?b ?ds ?rt ?tp ?sc ?ts ?bd ?ps → Pos) ?h
  case h => exact rfl
  case f => exact fun _ => ?ps
noncomputable def kF4 (L : Addr) (mg : Str → Option Value) (doc : Value) (c' : Addr) (ctv : Value) : Obj := by
  refine (?f : kB4 = .FunctionDef ?n ?a ?b ?ds ?rt ?tp ?sc ?ts ?bd ?ps → Obj) ?h
  case h => exact rfl
  case f => exact fun _ => fnMade ?n (Str.ofString "cmp_to_key.<locals>.K.__lt__") ?a ?b ?sc [(Str.ofString "mycmp", L + 1)] doc ((mg "__name__").getD .none) c' ctv
noncomputable def kP5 : Pos := by
  refine (?f : kB5 = .FunctionDef ?n ?a ?b ?ds ?rt ?tp ?sc ?ts ?bd ?ps → Pos) ?h
  case h => exact rfl
  case f => exact fun _ => ?ps
noncomputable def kF5 (L : Addr) (mg : Str → Option Value) (doc : Value) (c' : Addr) (ctv : Value) : Obj := by
  refine (?f : kB5 = .FunctionDef ?n ?a ?b ?ds ?rt ?tp ?sc ?ts ?bd ?ps → Obj) ?h
  case h => exact rfl
  case f => exact fun _ => fnMade ?n (Str.ofString "cmp_to_key.<locals>.K.__gt__") ?a ?b ?sc [(Str.ofString "mycmp", L + 1)] doc ((mg "__name__").getD .none) c' ctv
noncomputable def kP6 : Pos := by
  refine (?f : kB6 = .FunctionDef ?n ?a ?b ?ds ?rt ?tp ?sc ?ts ?bd ?ps → Pos) ?h
  case h => exact rfl
  case f => exact fun _ => ?ps
noncomputable def kF6 (L : Addr) (mg : Str → Option Value) (doc : Value) (c' : Addr) (ctv : Value) : Obj := by
  refine (?f : kB6 = .FunctionDef ?n ?a ?b ?ds ?rt ?tp ?sc ?ts ?bd ?ps → Obj) ?h
  case h => exact rfl
  case f => exact fun _ => fnMade ?n (Str.ofString "cmp_to_key.<locals>.K.__eq__") ?a ?b ?sc [(Str.ofString "mycmp", L + 1)] doc ((mg "__name__").getD .none) c' ctv
noncomputable def kP7 : Pos := by
  refine (?f : kB7 = .FunctionDef ?n ?a ?b ?ds ?rt ?tp ?sc ?ts ?bd ?ps → Pos) ?h
  case h => exact rfl
  case f => exact fun _ => ?ps
noncomputable def kF7 (L : Addr) (mg : Str → Option Value) (doc : Value) (c' : Addr) (ctv : Value) : Obj := by
  refine (?f : kB7 = .FunctionDef ?n ?a ?b ?ds ?rt ?tp ?sc ?ts ?bd ?ps → Obj) ?h
  case h => exact rfl
  case f => exact fun _ => fnMade ?n (Str.ofString "cmp_to_key.<locals>.K.__le__") ?a ?b ?sc [(Str.ofString "mycmp", L + 1)] doc ((mg "__name__").getD .none) c' ctv
noncomputable def kP8 : Pos := by
  refine (?f : kB8 = .FunctionDef ?n ?a ?b ?ds ?rt ?tp ?sc ?ts ?bd ?ps → Pos) ?h
  case h => exact rfl
  case f => exact fun _ => ?ps
noncomputable def kF8 (L : Addr) (mg : Str → Option Value) (doc : Value) (c' : Addr) (ctv : Value) : Obj := by
  refine (?f : kB8 = .FunctionDef ?n ?a ?b ?ds ?rt ?tp ?sc ?ts ?bd ?ps → Obj) ?h
  case h => exact rfl
  case f => exact fun _ => fnMade ?n (Str.ofString "cmp_to_key.<locals>.K.__ge__") ?a ?b ?sc [(Str.ofString "mycmp", L + 1)] doc ((mg "__name__").getD .none) c' ctv
noncomputable def kS : Scope := by
  refine (?f : ckC = .ClassDef ?n ?bs ?kw [?b1, ?b2, ?b3, ?b4, ?b5, ?b6, ?b7, ?b8, ?b9] ?ds ?tp ?sc ?ts ?bd ?st ?ps → Scope) ?h
  case h => exact rfl
  case f => exact fun _ => ?sc
noncomputable def kE (a2 fr c1 L : Addr) : Env := { scope := kS, locals := a2, globals := mainGlobals, cells := [(Str.ofString "mycmp", L + 1)], qual := Str.ofString "cmp_to_key.<locals>.K.", code := .ref c1, frame := some fr }
def WC : Around := { WA with depth := 585, units := 285 }
theorem mk_def {M : Model} {A : Around} {E : Value → Shared → Prop} {h : Heap} {g : Array GenState} {d : Drawn} {t : Nat} {os : OsState} {name qual : Str} {params : Arguments} {body : List Stmt} {scope : Scope} {env : Env} {c P a2 : Addr} {ps : Array Value} {pos : Pos} {firstLine : Nat} {mg : Str → Option Value}
    {clos : List (Str × Addr)} {Q : Value → Shared → Prop} {o2 : Obj} (ha : h.get? a2 = some o2) (n1 : a2 ≠ P)
    (hcl : closureFor scope env = pure clos) (hge0 : env.globals = mainGlobals) (hg : h.Ns mainGlobals mg) (hcode : env.code = .ref c) (C : CodeHd h c P) (hP : h.get? P = some (tabObj ps)) (ht : TriplesOk ps.toList)
    (hnf : codeAmong pos ps.toList = none) (hgP : mainGlobals ≠ P) (hb : h.BuiltinsAt mg P)
    (hh : ∀ c' ctv doc h2 f tk, h2.get? f = some (fnMade name qual params body scope clos doc ((mg "__name__").getD .none) c' ctv) → h2.CodeRec (.ref c') qual → h2.get? P = some (tabObj (ps ++ #[rawInt pos.line, rawInt pos.col, .ref c'])) →
      (∀ b x, b ≠ P → h.get? b = some x → h2.get? b = some x) → h.get? f = none → h.get? c' = none → f ≠ a2 → c' ≠ a2 → h2.get? a2 = some o2 → Q (.ref f) ⟨h2, g, d, tk, os⟩) :
    wpAny M A (makeFunction name qual params (.stmts body) scope env [] [] [] pos firstLine) Q E ⟨h, g, d, t, os⟩ := by
  refine makeFunction_K (P := P) (c := c) (mg := mg) (clos := clos) hcl hge0 hg hcode C hP ht hnf hgP hb fun c' ctv doc h1 tk1 hx hge hlt hrec htb => ?_
  dsimp only at hx hge
  have hlt1 : a2 < h.objs.size := Heap.lt_size ha
  exact hh c' ctv doc _ _ tk1 (Heap.get?_push_size _ rfl) (hrec.keeps fun b o e => Heap.get?_push_of_some _ e) (Heap.get?_push_of_some _ htb) (fun b x n e => Heap.get?_push_of_some _ (hx b x n e))
    (Heap.get?_none_of_le (Nat.le_of_lt (Nat.lt_of_le_of_lt hge hlt))) (Heap.get?_none_of_le hge) (Nat.ne_of_gt (Nat.lt_trans (Nat.lt_of_lt_of_le hlt1 hge) hlt)) (Nat.ne_of_gt (Nat.lt_of_lt_of_le hlt1 hge))
    (Heap.get?_push_of_some _ (hx a2 _ n1 ha))
end Mine
end
open PySem PySem.W PySem.W.X PyProof.Rows PySem.Calls Mine in
theorem Mine.freshKB : True := by
  k_with_none
  k_with "off" => (first | (intro _ hp; cases hp; done) | (intro p hp; simp only [List.mem_cons, List.not_mem_nil, or_false] at hp; subst hp; first | exact (by decide) | exact (show (135 : Nat) ≠ 3 from by decide) | exact (show (135 : Nat) ≠ 0 from by decide) | exact (show (135 : Nat) ≠ 139 from by decide) | assumption | (show @Ne Nat _ _; omega)))
  k_with "s" => ((first | with_reducible (first | refine wpAny_of_eq (by assumption) ?_ | refine wpAny_pure ?_ | refine wpAny_holding ?_ | refine wpAny_standAt ?_ | refine wpAny_point ?_ | refine wpAny_rule ?_ | refine wpAny_fresh' ?_ | refine wpAny_askSetting ?_ | refine wpAny_onRaise ?_ | refine wpAny_tryCatch ?_ | refine wpAny_attempt ?_ | refine wpAny_throw ?_) | ((with_reducible refine allocN (by assumption) ?_ ?_); (focus rfl); intro _ _ _) | ((with_reducible show wpAny _ _ (load _) _ _ _); first | refine loadNO (by assumption) (by assumption) (by k_extra "off") ?_ | refine loadNC (by assumption) 0 rfl ?_ | refine loadNN (by assumption) 0 rfl ?_ | refine loadNN (by assumption) 1 rfl ?_ | refine loadNN (by assumption) 2 rfl ?_ | refine loadNN (by assumption) 3 rfl ?_ | refine loadNN (by assumption) 4 rfl ?_ | refine loadNN (by assumption) 5 rfl ?_ | refine loadNN (by assumption) 6 rfl ?_ | refine loadNN (by assumption) 7 rfl ?_ | refine loadNN (by assumption) 8 rfl ?_ | refine loadNN (by assumption) 9 rfl ?_ | refine loadNN (by assumption) 10 rfl ?_ | refine loadNN (by assumption) 11 rfl ?_ | refine loadNN (by assumption) 12 rfl ?_ | refine loadNN (by assumption) 13 rfl ?_ | refine loadNN (by assumption) 14 rfl ?_ | refine loadNN (by assumption) 15 rfl ?_ | refine loadNN (by assumption) 16 rfl ?_ | refine loadNN (by assumption) 17 rfl ?_ | refine loadNN (by assumption) 18 rfl ?_ | refine loadNN (by assumption) 19 rfl ?_ | refine loadNN (by assumption) 20 rfl ?_ | refine loadNN (by assumption) 21 rfl ?_ | refine loadNN (by assumption) 22 rfl ?_ | refine loadNN (by assumption) 23 rfl ?_ | refine loadNN (by assumption) 24 rfl ?_ | refine loadNN (by assumption) 25 rfl ?_ | refine loadNN (by assumption) 26 rfl ?_ | refine loadNN (by assumption) 27 rfl ?_ | refine loadNN (by assumption) 28 rfl ?_ | refine loadNN (by assumption) 29 rfl ?_) | ((with_reducible show wpAny _ _ (loadPart _ _) _ _ _); first | refine loadPNO (by assumption) (by assumption) (by k_extra "off") ?_ | refine loadPNC (by assumption) 0 rfl ?_ | refine loadPNN (by assumption) 0 rfl ?_ | refine loadPNN (by assumption) 1 rfl ?_ | refine loadPNN (by assumption) 2 rfl ?_ | refine loadPNN (by assumption) 3 rfl ?_ | refine loadPNN (by assumption) 4 rfl ?_ | refine loadPNN (by assumption) 5 rfl ?_ | refine loadPNN (by assumption) 6 rfl ?_ | refine loadPNN (by assumption) 7 rfl ?_ | refine loadPNN (by assumption) 8 rfl ?_ | refine loadPNN (by assumption) 9 rfl ?_ | refine loadPNN (by assumption) 10 rfl ?_ | refine loadPNN (by assumption) 11 rfl ?_ | refine loadPNN (by assumption) 12 rfl ?_ | refine loadPNN (by assumption) 13 rfl ?_ | refine loadPNN (by assumption) 14 rfl ?_ | refine loadPNN (by assumption) 15 rfl ?_ | refine loadPNN (by assumption) 16 rfl ?_ | refine loadPNN (by assumption) 17 rfl ?_ | refine loadPNN (by assumption) 18 rfl ?_ | refine loadPNN (by assumption) 19 rfl ?_ | refine loadPNN (by assumption) 20 rfl ?_ | refine loadPNN (by assumption) 21 rfl ?_ | refine loadPNN (by assumption) 22 rfl ?_ | refine loadPNN (by assumption) 23 rfl ?_ | refine loadPNN (by assumption) 24 rfl ?_ | refine loadPNN (by assumption) 25 rfl ?_ | refine loadPNN (by assumption) 26 rfl ?_ | refine loadPNN (by assumption) 27 rfl ?_ | refine loadPNN (by assumption) 28 rfl ?_ | refine loadPNN (by assumption) 29 rfl ?_) | ((with_reducible show wpAny _ _ (update _ _) _ _ _); (first | refine updOO (by assumption) (by assumption) (by k_extra "off") (by as_aux_lemma => kernel_rfl) ?_ | refine updN (by assumption) 0 rfl (by as_aux_lemma => kernel_rfl) ?_ | refine updN (by assumption) 1 rfl (by as_aux_lemma => kernel_rfl) ?_ | refine updN (by assumption) 2 rfl (by as_aux_lemma => kernel_rfl) ?_ | refine updN (by assumption) 3 rfl (by as_aux_lemma => kernel_rfl) ?_ | refine updN (by assumption) 4 rfl (by as_aux_lemma => kernel_rfl) ?_ | refine updN (by assumption) 5 rfl (by as_aux_lemma => kernel_rfl) ?_ | refine updN (by assumption) 6 rfl (by as_aux_lemma => kernel_rfl) ?_ | refine updN (by assumption) 7 rfl (by as_aux_lemma => kernel_rfl) ?_ | refine updN (by assumption) 8 rfl (by as_aux_lemma => kernel_rfl) ?_ | refine updN (by assumption) 9 rfl (by as_aux_lemma => kernel_rfl) ?_ | refine updN (by assumption) 10 rfl (by as_aux_lemma => kernel_rfl) ?_ | refine updN (by assumption) 11 rfl (by as_aux_lemma => kernel_rfl) ?_ | refine updN (by assumption) 12 rfl (by as_aux_lemma => kernel_rfl) ?_ | refine updN (by assumption) 13 rfl (by as_aux_lemma => kernel_rfl) ?_ | refine updN (by assumption) 14 rfl (by as_aux_lemma => kernel_rfl) ?_ | refine updN (by assumption) 15 rfl (by as_aux_lemma => kernel_rfl) ?_ | refine updN (by assumption) 16 rfl (by as_aux_lemma => kernel_rfl) ?_ | refine updN (by assumption) 17 rfl (by as_aux_lemma => kernel_rfl) ?_ | refine updN (by assumption) 18 rfl (by as_aux_lemma => kernel_rfl) ?_ | refine updN (by assumption) 19 rfl (by as_aux_lemma => kernel_rfl) ?_ | refine updN (by assumption) 20 rfl (by as_aux_lemma => kernel_rfl) ?_ | refine updN (by assumption) 21 rfl (by as_aux_lemma => kernel_rfl) ?_ | refine updN (by assumption) 22 rfl (by as_aux_lemma => kernel_rfl) ?_ | refine updN (by assumption) 23 rfl (by as_aux_lemma => kernel_rfl) ?_ | refine updN (by assumption) 24 rfl (by as_aux_lemma => kernel_rfl) ?_ | refine updN (by assumption) 25 rfl (by as_aux_lemma => kernel_rfl) ?_ | refine updN (by assumption) 26 rfl (by as_aux_lemma => kernel_rfl) ?_ | refine updN (by assumption) 27 rfl (by as_aux_lemma => kernel_rfl) ?_ | refine updN (by assumption) 28 rfl (by as_aux_lemma => kernel_rfl) ?_ | refine updN (by assumption) 29 rfl (by as_aux_lemma => kernel_rfl) ?_); intro hZ DZ; (try simp only [List.set_cons_zero, List.set_cons_succ] at DZ); (try dsimp only [Obj.mapCls, Obj.mapDict, Obj.mapDictKeys, Obj.mapFields, Obj.mapSeq] at DZ); (revert hZ; intro _ _)) | ((with_reducible show wpAny _ _ (updatePart _ _ _) _ _ _); (first | refine updPO (by assumption) (by assumption) (by k_extra "off") (by as_aux_lemma => kernel_rfl) ?_ | refine updPN (by assumption) 0 rfl (by as_aux_lemma => kernel_rfl) ?_ | refine updPN (by assumption) 1 rfl (by as_aux_lemma => kernel_rfl) ?_ | refine updPN (by assumption) 2 rfl (by as_aux_lemma => kernel_rfl) ?_ | refine updPN (by assumption) 3 rfl (by as_aux_lemma => kernel_rfl) ?_ | refine updPN (by assumption) 4 rfl (by as_aux_lemma => kernel_rfl) ?_ | refine updPN (by assumption) 5 rfl (by as_aux_lemma => kernel_rfl) ?_ | refine updPN (by assumption) 6 rfl (by as_aux_lemma => kernel_rfl) ?_ | refine updPN (by assumption) 7 rfl (by as_aux_lemma => kernel_rfl) ?_ | refine updPN (by assumption) 8 rfl (by as_aux_lemma => kernel_rfl) ?_ | refine updPN (by assumption) 9 rfl (by as_aux_lemma => kernel_rfl) ?_ | refine updPN (by assumption) 10 rfl (by as_aux_lemma => kernel_rfl) ?_ | refine updPN (by assumption) 11 rfl (by as_aux_lemma => kernel_rfl) ?_ | refine updPN (by assumption) 12 rfl (by as_aux_lemma => kernel_rfl) ?_ | refine updPN (by assumption) 13 rfl (by as_aux_lemma => kernel_rfl) ?_ | refine updPN (by assumption) 14 rfl (by as_aux_lemma => kernel_rfl) ?_ | refine updPN (by assumption) 15 rfl (by as_aux_lemma => kernel_rfl) ?_ | refine updPN (by assumption) 16 rfl (by as_aux_lemma => kernel_rfl) ?_ | refine updPN (by assumption) 17 rfl (by as_aux_lemma => kernel_rfl) ?_ | refine updPN (by assumption) 18 rfl (by as_aux_lemma => kernel_rfl) ?_ | refine updPN (by assumption) 19 rfl (by as_aux_lemma => kernel_rfl) ?_ | refine updPN (by assumption) 20 rfl (by as_aux_lemma => kernel_rfl) ?_ | refine updPN (by assumption) 21 rfl (by as_aux_lemma => kernel_rfl) ?_ | refine updPN (by assumption) 22 rfl (by as_aux_lemma => kernel_rfl) ?_ | refine updPN (by assumption) 23 rfl (by as_aux_lemma => kernel_rfl) ?_ | refine updPN (by assumption) 24 rfl (by as_aux_lemma => kernel_rfl) ?_ | refine updPN (by assumption) 25 rfl (by as_aux_lemma => kernel_rfl) ?_ | refine updPN (by assumption) 26 rfl (by as_aux_lemma => kernel_rfl) ?_ | refine updPN (by assumption) 27 rfl (by as_aux_lemma => kernel_rfl) ?_ | refine updPN (by assumption) 28 rfl (by as_aux_lemma => kernel_rfl) ?_ | refine updPN (by assumption) 29 rfl (by as_aux_lemma => kernel_rfl) ?_); intro hZ DZ; (try simp only [List.set_cons_zero, List.set_cons_succ] at DZ); (try dsimp only [Obj.mapCls, Obj.mapDict, Obj.mapDictKeys, Obj.mapFields, Obj.mapSeq] at DZ); (revert hZ; intro _ _)) | (with_reducible refine iteF (by assumption) ?_) | (with_reducible refine iteT (by assumption) ?_) | ((with_reducible refine iteF ?_ ?_); (focus (as_aux_lemma => kernel_rfl))) | ((with_reducible refine iteT ?_ ?_); (focus (as_aux_lemma => kernel_rfl))) | ((with_reducible refine wpAny_ite_false ?_ ?_); (focus (as_aux_lemma => kernel_rfl))) | ((with_reducible refine wpAny_ite_true ?_ ?_); (focus (as_aux_lemma => kernel_rfl))) | wp_delta | (with_reducible_and_instances refine wpAny_pure ?_) | (with_reducible dsimp only)))
  k_with "w1" => (((fail_if_success (with_reducible show wpAny _ _ (makeFunction _ _ _ _ _ _ _ _ _ _ _) _ _ _)); (fail_if_success (with_reducible show wpAny _ _ (run _ _) _ _ _)); (fail_if_success (with_reducible show wpAny _ _ (enterFrame _) _ _ _)); (fail_if_success (with_reducible show wpAny _ _ (collect _) _ _ _)); (fail_if_success (with_reducible show wpAny _ _ (Sem.tryCatch _ _) _ _ _)); (fail_if_success (with_reducible show wpAny _ _ (tryCatch _ _) _ _ _)); (fail_if_success (with_reducible show wpAny _ _ (call _ _ _) _ _ _)); (fail_if_success (with_reducible show wpAny _ _ (runValue _) _ _ _)); first | ((fail_if_success (with_reducible show wpAny _ _ _ _ _ _)); with_reducible apply_assumption) | ((with_reducible refine bindV ?_); intro _ _) | k_extra "s" | ((with_reducible_and_instances refine bindV ?_); intro _ _)))
  k_with "w" => ((repeat k_extra "w1"))
  w_top off
  first | walk1 | trivial
-- KB
section
open PySem PySem.W PySem.W.X PyProof.Rows PySem.Calls
set_option Elab.async false
set_option maxRecDepth 100000
namespace Mine
open Hd (KK)
theorem step_new {h h' : Heap} {a2 b : Addr} {o q q' : Obj} (D : Mm h h' [(a2, o)] [(b, q)]) (e : q = q') : h'.get? b = some q' ∧ h.get? b = none := e ▸ D.nw _ (.head _)
theorem step_rec {h h' : Heap} {a2 c : Addr} {o : Obj} {news : List (Addr × Obj)} {q : Str} (D : Mm h h' [(a2, o)] news) (n : c ≠ a2) (r : h.CodeRec (.ref c) q) : h'.CodeRec (.ref c) q := by
  obtain ⟨c₂, oc, vs, t, e, ho, hd, hv⟩ := r
  cases e
  exact ⟨c, oc, vs, t, rfl, D.keep c oc ho (fun p hp e' => n (by rw [List.mem_singleton.mp hp] at e'; exact e'.symm)), hd, hv⟩
theorem step_keep {h h' : Heap} {a2 : Addr} {o : Obj} {news : List (Addr × Obj)} (D : Mm h h' [(a2, o)] news) : ∀ b x, b ≠ a2 → h.get? b = some x → h'.get? b = some x :=
  fun b x n e => D.keep b x e fun p hp e' => n (by rw [List.mem_singleton.mp hp] at e'; exact e'.symm)
theorem step_at {h h' : Heap} {a2 : Addr} {o o' : Obj} {news : List (Addr × Obj)} (D : Mm h h' [(a2, o)] news) (e : o = o') : h'.get? a2 = some o' := e ▸ (D.ch _ (.head _)).1
set_option maxHeartbeats 2500000 in
theorem kb_1 {prog : Program} {w : World} {h : Heap} {g : Array GenState} {d : Drawn} {t : Nat} {os : OsState} {a2 fr c1 L : Addr} {n : Nat} {Q : Flow → Shared → Prop} {E : Value → Shared → Prop} {t0 t2 t3 t4 t5 : Tok}
   (ha : h.get? a2 = some ⟨.type "dict", none, .dict #[ent w.params "__module__" t0 (.str (Str.ofString "law_mr0202_01") 1878), ent w.params "__qualname__" t2 (.str (Str.ofString "cmp_to_key.<locals>.K") t3), ent w.params "__firstlineno__" t4 (.int 85 t5)] n, #[]⟩)
   (hQ : ∀ h' tk t1, (∀ b x, b ≠ a2 → h.get? b = some x → h'.get? b = some x) → h'.get? a2 = some ⟨.type "dict", none, .dict #[ent w.params "__module__" t0 (.str (Str.ofString "cpy313.functools") t1), ent w.params "__qualname__" t2 (.str (Str.ofString "cmp_to_key.<locals>.K") t3), ent w.params "__firstlineno__" t4 (.int 85 t5)] n, #[]⟩ → Q .next ⟨h', g, d, tk, os⟩) :
   wpAny (model prog w) WC (exec kB1 (kE a2 fr c1 L)) Q E ⟨h, g, d, t, os⟩ := by
  have D := Mm.start h
  have hq : KIN.Hid (∀ h' tk t1, (∀ b x, b ≠ a2 → h.get? b = some x → h'.get? b = some x) → h'.get? a2 = some ⟨.type "dict", none, .dict #[ent w.params "__module__" t0 (.str (Str.ofString "cpy313.functools") t1), ent w.params "__qualname__" t2 (.str (Str.ofString "cmp_to_key.<locals>.K") t3), ent w.params "__firstlineno__" t4 (.int 85 t5)] n, #[]⟩ → Q .next ⟨h', g, d, tk, os⟩) := ⟨hQ⟩
  clear hQ
  delta kB1
  rw [arm_exec_Assign]
  k_extra "w"
  exact hq.out _ _ t (step_keep (by assumption)) (step_at (by assumption) (by as_aux_lemma => kernel_rfl))

set_option maxHeartbeats 2500000 in
theorem kb_2 {prog : Program} {w : World} {h : Heap} {g : Array GenState} {d : Drawn} {t : Nat} {os : OsState} {a2 fr c1 L : Addr} {n : Nat} {Q : Flow → Shared → Prop} {E : Value → Shared → Prop} {t0 t1 t2 t3 t4 t5 : Tok}
   (ha : h.get? a2 = some ⟨.type "dict", none, .dict #[ent w.params "__module__" t0 (.str (Str.ofString "cpy313.functools") t1), ent w.params "__qualname__" t2 (.str (Str.ofString "cmp_to_key.<locals>.K") t3), ent w.params "__firstlineno__" t4 (.int 85 t5)] n, #[]⟩)
   (hQ : ∀ h' tk t6 tf sL, (∀ b x, b ≠ a2 → h.get? b = some x → h'.get? b = some x) → h'.get? a2 = some ⟨.type "dict", none, .dict #[ent w.params "__module__" t0 (.str (Str.ofString "cpy313.functools") t1), ent w.params "__qualname__" t2 (.str (Str.ofString "cmp_to_key.<locals>.K") t3), ent w.params "__firstlineno__" t4 (.int 85 t5), ent w.params "__slots__" t6 (.ref sL)] (n + 1), #[]⟩ → h'.get? sL = some ⟨.type "list", none, .seq #[.str (Str.ofString "obj") tf] 0, #[]⟩ → h.get? sL = none → Q .next ⟨h', g, d, tk, os⟩) :
   wpAny (model prog w) WC (exec kB2 (kE a2 fr c1 L)) Q E ⟨h, g, d, t, os⟩ := by
  have D := Mm.start h
  have hq : KIN.Hid (∀ h' tk t6 tf sL, (∀ b x, b ≠ a2 → h.get? b = some x → h'.get? b = some x) → h'.get? a2 = some ⟨.type "dict", none, .dict #[ent w.params "__module__" t0 (.str (Str.ofString "cpy313.functools") t1), ent w.params "__qualname__" t2 (.str (Str.ofString "cmp_to_key.<locals>.K") t3), ent w.params "__firstlineno__" t4 (.int 85 t5), ent w.params "__slots__" t6 (.ref sL)] (n + 1), #[]⟩ → h'.get? sL = some ⟨.type "list", none, .seq #[.str (Str.ofString "obj") tf] 0, #[]⟩ → h.get? sL = none → Q .next ⟨h', g, d, tk, os⟩) := ⟨hQ⟩
  clear hQ
  delta kB2
  rw [arm_exec_Assign]
  k_extra "w"
  have fin : KIN.Hid (∀ h' tk sL o q, Mm h h' [(a2, o)] [(sL, q)] → o = ⟨.type "dict", none, .dict #[ent w.params "__module__" t0 (.str (Str.ofString "cpy313.functools") t1), ent w.params "__qualname__" t2 (.str (Str.ofString "cmp_to_key.<locals>.K") t3), ent w.params "__firstlineno__" t4 (.int 85 t5), ent w.params "__slots__" (t + 1) (.ref sL)] (n + 1), #[]⟩ → q = ⟨.type "list", none, .seq #[.str (Str.ofString "obj") t] 0, #[]⟩ → Q .next ⟨h', g, d, tk, os⟩) :=
    ⟨fun h' tk sL o q D e e' => hq.out h' tk (t + 1) t sL (step_keep D) (step_at D e) (step_new D e').1 (step_new D e').2⟩
  exact fin.out _ _ _ _ _ (by assumption) (by as_aux_lemma => kernel_rfl) (by as_aux_lemma => kernel_rfl)

set_option maxHeartbeats 2500000 in
theorem kb_3 {prog : Program} {w : World} {h : Heap} {g : Array GenState} {d : Drawn} {t : Nat} {os : OsState} {a2 fr c1 L : Addr} {n : Nat} {Q : Flow → Shared → Prop} {E : Value → Shared → Prop} {t0 t1 t2 t3 t4 t5 t6 : Tok} {sL : Addr} {P1 : Addr} {ps : Array Value} {mg : Str → Option Value}
   (ha : h.get? a2 = some ⟨.type "dict", none, .dict #[ent w.params "__module__" t0 (.str (Str.ofString "cpy313.functools") t1), ent w.params "__qualname__" t2 (.str (Str.ofString "cmp_to_key.<locals>.K") t3), ent w.params "__firstlineno__" t4 (.int 85 t5), ent w.params "__slots__" t6 (.ref sL)] n, #[]⟩) (hg : h.Ns mainGlobals mg) (hb : h.BuiltinsAt mg P1) (C : CodeHd h c1 P1) (hP : h.get? P1 = some (tabObj ps)) (ht : TriplesOk ps.toList) (hnf : codeAmong kP3 ps.toList = none) (n1 : a2 ≠ P1) (n2 : mainGlobals ≠ P1)
   (hQ : ∀ h' tk f1 c' ctv doc t7, (∀ b x, b ≠ a2 → b ≠ P1 → h.get? b = some x → h'.get? b = some x) → h'.get? a2 = some ⟨.type "dict", none, .dict #[ent w.params "__module__" t0 (.str (Str.ofString "cpy313.functools") t1), ent w.params "__qualname__" t2 (.str (Str.ofString "cmp_to_key.<locals>.K") t3), ent w.params "__firstlineno__" t4 (.int 85 t5), ent w.params "__slots__" t6 (.ref sL), ent w.params "__init__" t7 (.ref f1)] (n + 1), #[]⟩ → h'.get? P1 = some (tabObj (ps ++ #[rawInt kP3.line, rawInt kP3.col, .ref c'])) →
      h'.get? f1 = some (kF3 L mg doc c' ctv) → h'.CodeRec (.ref c') (Str.ofString "cmp_to_key.<locals>.K.__init__") → h.get? f1 = none → h.get? c' = none → Q .next ⟨h', g, d, tk, os⟩) :
   wpAny (model prog w) WC (exec kB3 (kE a2 fr c1 L)) Q E ⟨h, g, d, t, os⟩ := by
  have hq : KIN.Hid (∀ h' tk f1 c' ctv doc t7, (∀ b x, b ≠ a2 → b ≠ P1 → h.get? b = some x → h'.get? b = some x) → h'.get? a2 = some ⟨.type "dict", none, .dict #[ent w.params "__module__" t0 (.str (Str.ofString "cpy313.functools") t1), ent w.params "__qualname__" t2 (.str (Str.ofString "cmp_to_key.<locals>.K") t3), ent w.params "__firstlineno__" t4 (.int 85 t5), ent w.params "__slots__" t6 (.ref sL), ent w.params "__init__" t7 (.ref f1)] (n + 1), #[]⟩ → h'.get? P1 = some (tabObj (ps ++ #[rawInt kP3.line, rawInt kP3.col, .ref c'])) →
      h'.get? f1 = some (kF3 L mg doc c' ctv) → h'.CodeRec (.ref c') (Str.ofString "cmp_to_key.<locals>.K.__init__") → h.get? f1 = none → h.get? c' = none → Q .next ⟨h', g, d, tk, os⟩) := ⟨hQ⟩
  clear hQ
  delta kB3
  rw [arm_exec_FunctionDef]
  have D := Mm.start h
  k_extra "w"
  rw [show qualnameIn (kE a2 fr c1 L) (Str.ofString "__init__") (Str.ofString "__init__") = Str.ofString "cmp_to_key.<locals>.K.__init__" from by kernel_rfl]
  refine mk_def (P := P1) (c := c1) (mg := mg) (clos := []) ha n1 (by with_unfolding_all rfl) rfl hg rfl C hP ht hnf n2 hb ?_
  clear D
  intro c' ctv doc h2 f1 tk1 e1 e2 e3 e4 e5 e6 e7 e8 ha2
  clear ha hb hg C hP
  have fin : KIN.Hid (∀ h' tk t7 o, Mm h2 h' [(a2, o)] [] → o = ⟨.type "dict", none, .dict #[ent w.params "__module__" t0 (.str (Str.ofString "cpy313.functools") t1), ent w.params "__qualname__" t2 (.str (Str.ofString "cmp_to_key.<locals>.K") t3), ent w.params "__firstlineno__" t4 (.int 85 t5), ent w.params "__slots__" t6 (.ref sL), ent w.params "__init__" t7 (.ref f1)] (n + 1), #[]⟩ → Q .next ⟨h', g, d, tk, os⟩) :=
    ⟨fun h' tk t7 o D e => hq.out h' tk f1 c' ctv doc t7 (fun b x n n' e => step_keep D b x n (e4 b x n' e)) (step_at D e) (step_keep D _ _ (Ne.symm n1) e3) (step_keep D _ _ e7 e1) (step_rec D e8 e2) e5 e6⟩
  clear hq e1 e2 e3 e4 e5 e6 e7 e8 n1 n2 ht hnf
  have D := Mm.start h2
  k_extra "w"
  exact fin.out _ _ tk1 _ (by assumption) (by as_aux_lemma => kernel_rfl)

set_option maxHeartbeats 2500000 in
theorem kb_4 {prog : Program} {w : World} {h : Heap} {g : Array GenState} {d : Drawn} {t : Nat} {os : OsState} {a2 fr c1 L : Addr} {n : Nat} {Q : Flow → Shared → Prop} {E : Value → Shared → Prop} {t0 t1 t2 t3 t4 t5 t6 t7 : Tok} {sL f1 : Addr} {P1 : Addr} {ps : Array Value} {mg : Str → Option Value}
   (ha : h.get? a2 = some ⟨.type "dict", none, .dict #[ent w.params "__module__" t0 (.str (Str.ofString "cpy313.functools") t1), ent w.params "__qualname__" t2 (.str (Str.ofString "cmp_to_key.<locals>.K") t3), ent w.params "__firstlineno__" t4 (.int 85 t5), ent w.params "__slots__" t6 (.ref sL), ent w.params "__init__" t7 (.ref f1)] n, #[]⟩) (hg : h.Ns mainGlobals mg) (hb : h.BuiltinsAt mg P1) (C : CodeHd h c1 P1) (hP : h.get? P1 = some (tabObj ps)) (ht : TriplesOk ps.toList) (hnf : codeAmong kP4 ps.toList = none) (n1 : a2 ≠ P1) (n2 : mainGlobals ≠ P1)
   (hQ : ∀ h' tk f2 c' ctv doc t8, (∀ b x, b ≠ a2 → b ≠ P1 → h.get? b = some x → h'.get? b = some x) → h'.get? a2 = some ⟨.type "dict", none, .dict #[ent w.params "__module__" t0 (.str (Str.ofString "cpy313.functools") t1), ent w.params "__qualname__" t2 (.str (Str.ofString "cmp_to_key.<locals>.K") t3), ent w.params "__firstlineno__" t4 (.int 85 t5), ent w.params "__slots__" t6 (.ref sL), ent w.params "__init__" t7 (.ref f1), ent w.params "__lt__" t8 (.ref f2)] (n + 1), #[]⟩ → h'.get? P1 = some (tabObj (ps ++ #[rawInt kP4.line, rawInt kP4.col, .ref c'])) →
      h'.get? f2 = some (kF4 L mg doc c' ctv) → h'.CodeRec (.ref c') (Str.ofString "cmp_to_key.<locals>.K.__lt__") → h.get? f2 = none → h.get? c' = none → Q .next ⟨h', g, d, tk, os⟩) :
   wpAny (model prog w) WC (exec kB4 (kE a2 fr c1 L)) Q E ⟨h, g, d, t, os⟩ := by
  have hq : KIN.Hid (∀ h' tk f2 c' ctv doc t8, (∀ b x, b ≠ a2 → b ≠ P1 → h.get? b = some x → h'.get? b = some x) → h'.get? a2 = some ⟨.type "dict", none, .dict #[ent w.params "__module__" t0 (.str (Str.ofString "cpy313.functools") t1), ent w.params "__qualname__" t2 (.str (Str.ofString "cmp_to_key.<locals>.K") t3), ent w.params "__firstlineno__" t4 (.int 85 t5), ent w.params "__slots__" t6 (.ref sL), ent w.params "__init__" t7 (.ref f1), ent w.params "__lt__" t8 (.ref f2)] (n + 1), #[]⟩ → h'.get? P1 = some (tabObj (ps ++ #[rawInt kP4.line, rawInt kP4.col, .ref c'])) →
      h'.get? f2 = some (kF4 L mg doc c' ctv) → h'.CodeRec (.ref c') (Str.ofString "cmp_to_key.<locals>.K.__lt__") → h.get? f2 = none → h.get? c' = none → Q .next ⟨h', g, d, tk, os⟩) := ⟨hQ⟩
  clear hQ
  delta kB4
  rw [arm_exec_FunctionDef]
  have D := Mm.start h
  k_extra "w"
  rw [show qualnameIn (kE a2 fr c1 L) (Str.ofString "__lt__") (Str.ofString "__lt__") = Str.ofString "cmp_to_key.<locals>.K.__lt__" from by kernel_rfl]
  refine mk_def (P := P1) (c := c1) (mg := mg) (clos := [(Str.ofString "mycmp", L + 1)]) ha n1 (by with_unfolding_all rfl) rfl hg rfl C hP ht hnf n2 hb ?_
  clear D
  intro c' ctv doc h2 f2 tk1 e1 e2 e3 e4 e5 e6 e7 e8 ha2
  clear ha hb hg C hP
  have fin : KIN.Hid (∀ h' tk t8 o, Mm h2 h' [(a2, o)] [] → o = ⟨.type "dict", none, .dict #[ent w.params "__module__" t0 (.str (Str.ofString "cpy313.functools") t1), ent w.params "__qualname__" t2 (.str (Str.ofString "cmp_to_key.<locals>.K") t3), ent w.params "__firstlineno__" t4 (.int 85 t5), ent w.params "__slots__" t6 (.ref sL), ent w.params "__init__" t7 (.ref f1), ent w.params "__lt__" t8 (.ref f2)] (n + 1), #[]⟩ → Q .next ⟨h', g, d, tk, os⟩) :=
    ⟨fun h' tk t8 o D e => hq.out h' tk f2 c' ctv doc t8 (fun b x n n' e => step_keep D b x n (e4 b x n' e)) (step_at D e) (step_keep D _ _ (Ne.symm n1) e3) (step_keep D _ _ e7 e1) (step_rec D e8 e2) e5 e6⟩
  clear hq e1 e2 e3 e4 e5 e6 e7 e8 n1 n2 ht hnf
  have D := Mm.start h2
  k_extra "w"
  exact fin.out _ _ tk1 _ (by assumption) (by as_aux_lemma => kernel_rfl)

set_option maxHeartbeats 2500000 in
theorem kb_5 {prog : Program} {w : World} {h : Heap} {g : Array GenState} {d : Drawn} {t : Nat} {os : OsState} {a2 fr c1 L : Addr} {n : Nat} {Q : Flow → Shared → Prop} {E : Value → Shared → Prop} {t0 t1 t2 t3 t4 t5 t6 t7 t8 : Tok} {sL f1 f2 : Addr} {P1 : Addr} {ps : Array Value} {mg : Str → Option Value}
   (ha : h.get? a2 = some ⟨.type "dict", none, .dict #[ent w.params "__module__" t0 (.str (Str.ofString "cpy313.functools") t1), ent w.params "__qualname__" t2 (.str (Str.ofString "cmp_to_key.<locals>.K") t3), ent w.params "__firstlineno__" t4 (.int 85 t5), ent w.params "__slots__" t6 (.ref sL), ent w.params "__init__" t7 (.ref f1), ent w.params "__lt__" t8 (.ref f2)] n, #[]⟩) (hg : h.Ns mainGlobals mg) (hb : h.BuiltinsAt mg P1) (C : CodeHd h c1 P1) (hP : h.get? P1 = some (tabObj ps)) (ht : TriplesOk ps.toList) (hnf : codeAmong kP5 ps.toList = none) (n1 : a2 ≠ P1) (n2 : mainGlobals ≠ P1)
   (hQ : ∀ h' tk f3 c' ctv doc t9, (∀ b x, b ≠ a2 → b ≠ P1 → h.get? b = some x → h'.get? b = some x) → h'.get? a2 = some ⟨.type "dict", none, .dict #[ent w.params "__module__" t0 (.str (Str.ofString "cpy313.functools") t1), ent w.params "__qualname__" t2 (.str (Str.ofString "cmp_to_key.<locals>.K") t3), ent w.params "__firstlineno__" t4 (.int 85 t5), ent w.params "__slots__" t6 (.ref sL), ent w.params "__init__" t7 (.ref f1), ent w.params "__lt__" t8 (.ref f2), ent w.params "__gt__" t9 (.ref f3)] (n + 1), #[]⟩ → h'.get? P1 = some (tabObj (ps ++ #[rawInt kP5.line, rawInt kP5.col, .ref c'])) →
      h'.get? f3 = some (kF5 L mg doc c' ctv) → h'.CodeRec (.ref c') (Str.ofString "cmp_to_key.<locals>.K.__gt__") → h.get? f3 = none → h.get? c' = none → Q .next ⟨h', g, d, tk, os⟩) :
   wpAny (model prog w) WC (exec kB5 (kE a2 fr c1 L)) Q E ⟨h, g, d, t, os⟩ := by
  have hq : KIN.Hid (∀ h' tk f3 c' ctv doc t9, (∀ b x, b ≠ a2 → b ≠ P1 → h.get? b = some x → h'.get? b = some x) → h'.get? a2 = some ⟨.type "dict", none, .dict #[ent w.params "__module__" t0 (.str (Str.ofString "cpy313.functools") t1), ent w.params "__qualname__" t2 (.str (Str.ofString "cmp_to_key.<locals>.K") t3), ent w.params "__firstlineno__" t4 (.int 85 t5), ent w.params "__slots__" t6 (.ref sL), ent w.params "__init__" t7 (.ref f1), ent w.params "__lt__" t8 (.ref f2), ent w.params "__gt__" t9 (.ref f3)] (n + 1), #[]⟩ → h'.get? P1 = some (tabObj (ps ++ #[rawInt kP5.line, rawInt kP5.col, .ref c'])) →
      h'.get? f3 = some (kF5 L mg doc c' ctv) → h'.CodeRec (.ref c') (Str.ofString "cmp_to_key.<locals>.K.__gt__") → h.get? f3 = none → h.get? c' = none → Q .next ⟨h', g, d, tk, os⟩) := ⟨hQ⟩
  clear hQ
  delta kB5
  rw [arm_exec_FunctionDef]
  have D := Mm.start h
  k_extra "w"
  rw [show qualnameIn (kE a2 fr c1 L) (Str.ofString "__gt__") (Str.ofString "__gt__") = Str.ofString "cmp_to_key.<locals>.K.__gt__" from by kernel_rfl]
  refine mk_def (P := P1) (c := c1) (mg := mg) (clos := [(Str.ofString "mycmp", L + 1)]) ha n1 (by with_unfolding_all rfl) rfl hg rfl C hP ht hnf n2 hb ?_
  clear D
  intro c' ctv doc h2 f3 tk1 e1 e2 e3 e4 e5 e6 e7 e8 ha2
  clear ha hb hg C hP
  have fin : KIN.Hid (∀ h' tk t9 o, Mm h2 h' [(a2, o)] [] → o = ⟨.type "dict", none, .dict #[ent w.params "__module__" t0 (.str (Str.ofString "cpy313.functools") t1), ent w.params "__qualname__" t2 (.str (Str.ofString "cmp_to_key.<locals>.K") t3), ent w.params "__firstlineno__" t4 (.int 85 t5), ent w.params "__slots__" t6 (.ref sL), ent w.params "__init__" t7 (.ref f1), ent w.params "__lt__" t8 (.ref f2), ent w.params "__gt__" t9 (.ref f3)] (n + 1), #[]⟩ → Q .next ⟨h', g, d, tk, os⟩) :=
    ⟨fun h' tk t9 o D e => hq.out h' tk f3 c' ctv doc t9 (fun b x n n' e => step_keep D b x n (e4 b x n' e)) (step_at D e) (step_keep D _ _ (Ne.symm n1) e3) (step_keep D _ _ e7 e1) (step_rec D e8 e2) e5 e6⟩
  clear hq e1 e2 e3 e4 e5 e6 e7 e8 n1 n2 ht hnf
  have D := Mm.start h2
  k_extra "w"
  exact fin.out _ _ tk1 _ (by assumption) (by as_aux_lemma => kernel_rfl)

set_option maxHeartbeats 2500000 in
theorem kb_6 {prog : Program} {w : World} {h : Heap} {g : Array GenState} {d : Drawn} {t : Nat} {os : OsState} {a2 fr c1 L : Addr} {n : Nat} {Q : Flow → Shared → Prop} {E : Value → Shared → Prop} {t0 t1 t2 t3 t4 t5 t6 t7 t8 t9 : Tok} {sL f1 f2 f3 : Addr} {P1 : Addr} {ps : Array Value} {mg : Str → Option Value}
   (ha : h.get? a2 = some ⟨.type "dict", none, .dict #[ent w.params "__module__" t0 (.str (Str.ofString "cpy313.functools") t1), ent w.params "__qualname__" t2 (.str (Str.ofString "cmp_to_key.<locals>.K") t3), ent w.params "__firstlineno__" t4 (.int 85 t5), ent w.params "__slots__" t6 (.ref sL), ent w.params "__init__" t7 (.ref f1), ent w.params "__lt__" t8 (.ref f2), ent w.params "__gt__" t9 (.ref f3)] n, #[]⟩) (hg : h.Ns mainGlobals mg) (hb : h.BuiltinsAt mg P1) (C : CodeHd h c1 P1) (hP : h.get? P1 = some (tabObj ps)) (ht : TriplesOk ps.toList) (hnf : codeAmong kP6 ps.toList = none) (n1 : a2 ≠ P1) (n2 : mainGlobals ≠ P1)
   (hQ : ∀ h' tk f4 c' ctv doc ta, (∀ b x, b ≠ a2 → b ≠ P1 → h.get? b = some x → h'.get? b = some x) → h'.get? a2 = some ⟨.type "dict", none, .dict #[ent w.params "__module__" t0 (.str (Str.ofString "cpy313.functools") t1), ent w.params "__qualname__" t2 (.str (Str.ofString "cmp_to_key.<locals>.K") t3), ent w.params "__firstlineno__" t4 (.int 85 t5), ent w.params "__slots__" t6 (.ref sL), ent w.params "__init__" t7 (.ref f1), ent w.params "__lt__" t8 (.ref f2), ent w.params "__gt__" t9 (.ref f3), ent w.params "__eq__" ta (.ref f4)] (n + 1), #[]⟩ → h'.get? P1 = some (tabObj (ps ++ #[rawInt kP6.line, rawInt kP6.col, .ref c'])) →
      h'.get? f4 = some (kF6 L mg doc c' ctv) → h'.CodeRec (.ref c') (Str.ofString "cmp_to_key.<locals>.K.__eq__") → h.get? f4 = none → h.get? c' = none → Q .next ⟨h', g, d, tk, os⟩) :
   wpAny (model prog w) WC (exec kB6 (kE a2 fr c1 L)) Q E ⟨h, g, d, t, os⟩ := by
  have hq : KIN.Hid (∀ h' tk f4 c' ctv doc ta, (∀ b x, b ≠ a2 → b ≠ P1 → h.get? b = some x → h'.get? b = some x) → h'.get? a2 = some ⟨.type "dict", none, .dict #[ent w.params "__module__" t0 (.str (Str.ofString "cpy313.functools") t1), ent w.params "__qualname__" t2 (.str (Str.ofString "cmp_to_key.<locals>.K") t3), ent w.params "__firstlineno__" t4 (.int 85 t5), ent w.params "__slots__" t6 (.ref sL), ent w.params "__init__" t7 (.ref f1), ent w.params "__lt__" t8 (.ref f2), ent w.params "__gt__" t9 (.ref f3), ent w.params "__eq__" ta (.ref f4)] (n + 1), #[]⟩ → h'.get? P1 = some (tabObj (ps ++ #[rawInt kP6.line, rawInt kP6.col, .ref c'])) →
      h'.get? f4 = some (kF6 L mg doc c' ctv) → h'.CodeRec (.ref c') (Str.ofString "cmp_to_key.<locals>.K.__eq__") → h.get? f4 = none → h.get? c' = none → Q .next ⟨h', g, d, tk, os⟩) := ⟨hQ⟩
  clear hQ
  delta kB6
  rw [arm_exec_FunctionDef]
  have D := Mm.start h
  k_extra "w"
  rw [show qualnameIn (kE a2 fr c1 L) (Str.ofString "__eq__") (Str.ofString "__eq__") = Str.ofString "cmp_to_key.<locals>.K.__eq__" from by kernel_rfl]
  refine mk_def (P := P1) (c := c1) (mg := mg) (clos := [(Str.ofString "mycmp", L + 1)]) ha n1 (by with_unfolding_all rfl) rfl hg rfl C hP ht hnf n2 hb ?_
  clear D
  intro c' ctv doc h2 f4 tk1 e1 e2 e3 e4 e5 e6 e7 e8 ha2
  clear ha hb hg C hP
  have fin : KIN.Hid (∀ h' tk ta o, Mm h2 h' [(a2, o)] [] → o = ⟨.type "dict", none, .dict #[ent w.params "__module__" t0 (.str (Str.ofString "cpy313.functools") t1), ent w.params "__qualname__" t2 (.str (Str.ofString "cmp_to_key.<locals>.K") t3), ent w.params "__firstlineno__" t4 (.int 85 t5), ent w.params "__slots__" t6 (.ref sL), ent w.params "__init__" t7 (.ref f1), ent w.params "__lt__" t8 (.ref f2), ent w.params "__gt__" t9 (.ref f3), ent w.params "__eq__" ta (.ref f4)] (n + 1), #[]⟩ → Q .next ⟨h', g, d, tk, os⟩) :=
    ⟨fun h' tk ta o D e => hq.out h' tk f4 c' ctv doc ta (fun b x n n' e => step_keep D b x n (e4 b x n' e)) (step_at D e) (step_keep D _ _ (Ne.symm n1) e3) (step_keep D _ _ e7 e1) (step_rec D e8 e2) e5 e6⟩
  clear hq e1 e2 e3 e4 e5 e6 e7 e8 n1 n2 ht hnf
  have D := Mm.start h2
  k_extra "w"
  exact fin.out _ _ tk1 _ (by assumption) (by as_aux_lemma => kernel_rfl)

set_option maxHeartbeats 2500000 in
theorem kb_7 {prog : Program} {w : World} {h : Heap} {g : Array GenState} {d : Drawn} {t : Nat} {os : OsState} {a2 fr c1 L : Addr} {n : Nat} {Q : Flow → Shared → Prop} {E : Value → Shared → Prop} {t0 t1 t2 t3 t4 t5 t6 t7 t8 t9 ta : Tok} {sL f1 f2 f3 f4 : Addr} {P1 : Addr} {ps : Array Value} {mg : Str → Option Value}
   (ha : h.get? a2 = some ⟨.type "dict", none, .dict #[ent w.params "__module__" t0 (.str (Str.ofString "cpy313.functools") t1), ent w.params "__qualname__" t2 (.str (Str.ofString "cmp_to_key.<locals>.K") t3), ent w.params "__firstlineno__" t4 (.int 85 t5), ent w.params "__slots__" t6 (.ref sL), ent w.params "__init__" t7 (.ref f1), ent w.params "__lt__" t8 (.ref f2), ent w.params "__gt__" t9 (.ref f3), ent w.params "__eq__" ta (.ref f4)] n, #[]⟩) (hg : h.Ns mainGlobals mg) (hb : h.BuiltinsAt mg P1) (C : CodeHd h c1 P1) (hP : h.get? P1 = some (tabObj ps)) (ht : TriplesOk ps.toList) (hnf : codeAmong kP7 ps.toList = none) (n1 : a2 ≠ P1) (n2 : mainGlobals ≠ P1)
   (hQ : ∀ h' tk f5 c' ctv doc tb, (∀ b x, b ≠ a2 → b ≠ P1 → h.get? b = some x → h'.get? b = some x) → h'.get? a2 = some ⟨.type "dict", none, .dict #[ent w.params "__module__" t0 (.str (Str.ofString "cpy313.functools") t1), ent w.params "__qualname__" t2 (.str (Str.ofString "cmp_to_key.<locals>.K") t3), ent w.params "__firstlineno__" t4 (.int 85 t5), ent w.params "__slots__" t6 (.ref sL), ent w.params "__init__" t7 (.ref f1), ent w.params "__lt__" t8 (.ref f2), ent w.params "__gt__" t9 (.ref f3), ent w.params "__eq__" ta (.ref f4), ent w.params "__le__" tb (.ref f5)] (n + 1), #[]⟩ → h'.get? P1 = some (tabObj (ps ++ #[rawInt kP7.line, rawInt kP7.col, .ref c'])) →
      h'.get? f5 = some (kF7 L mg doc c' ctv) → h'.CodeRec (.ref c') (Str.ofString "cmp_to_key.<locals>.K.__le__") → h.get? f5 = none → h.get? c' = none → Q .next ⟨h', g, d, tk, os⟩) :
   wpAny (model prog w) WC (exec kB7 (kE a2 fr c1 L)) Q E ⟨h, g, d, t, os⟩ := by
  have hq : KIN.Hid (∀ h' tk f5 c' ctv doc tb, (∀ b x, b ≠ a2 → b ≠ P1 → h.get? b = some x → h'.get? b = some x) → h'.get? a2 = some ⟨.type "dict", none, .dict #[ent w.params "__module__" t0 (.str (Str.ofString "cpy313.functools") t1), ent w.params "__qualname__" t2 (.str (Str.ofString "cmp_to_key.<locals>.K") t3), ent w.params "__firstlineno__" t4 (.int 85 t5), ent w.params "__slots__" t6 (.ref sL), ent w.params "__init__" t7 (.ref f1), ent w.params "__lt__" t8 (.ref f2), ent w.params "__gt__" t9 (.ref f3), ent w.params "__eq__" ta (.ref f4), ent w.params "__le__" tb (.ref f5)] (n + 1), #[]⟩ → h'.get? P1 = some (tabObj (ps ++ #[rawInt kP7.line, rawInt kP7.col, .ref c'])) →
      h'.get? f5 = some (kF7 L mg doc c' ctv) → h'.CodeRec (.ref c') (Str.ofString "cmp_to_key.<locals>.K.__le__") → h.get? f5 = none → h.get? c' = none → Q .next ⟨h', g, d, tk, os⟩) := ⟨hQ⟩
  clear hQ
  delta kB7
  rw [arm_exec_FunctionDef]
  have D := Mm.start h
  k_extra "w"
  rw [show qualnameIn (kE a2 fr c1 L) (Str.ofString "__le__") (Str.ofString "__le__") = Str.ofString "cmp_to_key.<locals>.K.__le__" from by kernel_rfl]
  refine mk_def (P := P1) (c := c1) (mg := mg) (clos := [(Str.ofString "mycmp", L + 1)]) ha n1 (by with_unfolding_all rfl) rfl hg rfl C hP ht hnf n2 hb ?_
  clear D
  intro c' ctv doc h2 f5 tk1 e1 e2 e3 e4 e5 e6 e7 e8 ha2
  clear ha hb hg C hP
  have fin : KIN.Hid (∀ h' tk tb o, Mm h2 h' [(a2, o)] [] → o = ⟨.type "dict", none, .dict #[ent w.params "__module__" t0 (.str (Str.ofString "cpy313.functools") t1), ent w.params "__qualname__" t2 (.str (Str.ofString "cmp_to_key.<locals>.K") t3), ent w.params "__firstlineno__" t4 (.int 85 t5), ent w.params "__slots__" t6 (.ref sL), ent w.params "__init__" t7 (.ref f1), ent w.params "__lt__" t8 (.ref f2), ent w.params "__gt__" t9 (.ref f3), ent w.params "__eq__" ta (.ref f4), ent w.params "__le__" tb (.ref f5)] (n + 1), #[]⟩ → Q .next ⟨h', g, d, tk, os⟩) :=
    ⟨fun h' tk tb o D e => hq.out h' tk f5 c' ctv doc tb (fun b x n n' e => step_keep D b x n (e4 b x n' e)) (step_at D e) (step_keep D _ _ (Ne.symm n1) e3) (step_keep D _ _ e7 e1) (step_rec D e8 e2) e5 e6⟩
  clear hq e1 e2 e3 e4 e5 e6 e7 e8 n1 n2 ht hnf
  have D := Mm.start h2
  k_extra "w"
  exact fin.out _ _ tk1 _ (by assumption) (by as_aux_lemma => kernel_rfl)

set_option maxHeartbeats 2500000 in
theorem kb_8 {prog : Program} {w : World} {h : Heap} {g : Array GenState} {d : Drawn} {t : Nat} {os : OsState} {a2 fr c1 L : Addr} {n : Nat} {Q : Flow → Shared → Prop} {E : Value → Shared → Prop} {t0 t1 t2 t3 t4 t5 t6 t7 t8 t9 ta tb : Tok} {sL f1 f2 f3 f4 f5 : Addr} {P1 : Addr} {ps : Array Value} {mg : Str → Option Value}
   (ha : h.get? a2 = some ⟨.type "dict", none, .dict #[ent w.params "__module__" t0 (.str (Str.ofString "cpy313.functools") t1), ent w.params "__qualname__" t2 (.str (Str.ofString "cmp_to_key.<locals>.K") t3), ent w.params "__firstlineno__" t4 (.int 85 t5), ent w.params "__slots__" t6 (.ref sL), ent w.params "__init__" t7 (.ref f1), ent w.params "__lt__" t8 (.ref f2), ent w.params "__gt__" t9 (.ref f3), ent w.params "__eq__" ta (.ref f4), ent w.params "__le__" tb (.ref f5)] n, #[]⟩) (hg : h.Ns mainGlobals mg) (hb : h.BuiltinsAt mg P1) (C : CodeHd h c1 P1) (hP : h.get? P1 = some (tabObj ps)) (ht : TriplesOk ps.toList) (hnf : codeAmong kP8 ps.toList = none) (n1 : a2 ≠ P1) (n2 : mainGlobals ≠ P1)
   (hQ : ∀ h' tk f6 c' ctv doc tc, (∀ b x, b ≠ a2 → b ≠ P1 → h.get? b = some x → h'.get? b = some x) → h'.get? a2 = some ⟨.type "dict", none, .dict #[ent w.params "__module__" t0 (.str (Str.ofString "cpy313.functools") t1), ent w.params "__qualname__" t2 (.str (Str.ofString "cmp_to_key.<locals>.K") t3), ent w.params "__firstlineno__" t4 (.int 85 t5), ent w.params "__slots__" t6 (.ref sL), ent w.params "__init__" t7 (.ref f1), ent w.params "__lt__" t8 (.ref f2), ent w.params "__gt__" t9 (.ref f3), ent w.params "__eq__" ta (.ref f4), ent w.params "__le__" tb (.ref f5), ent w.params "__ge__" tc (.ref f6)] (n + 1), #[]⟩ → h'.get? P1 = some (tabObj (ps ++ #[rawInt kP8.line, rawInt kP8.col, .ref c'])) →
      h'.get? f6 = some (kF8 L mg doc c' ctv) → h'.CodeRec (.ref c') (Str.ofString "cmp_to_key.<locals>.K.__ge__") → h.get? f6 = none → h.get? c' = none → Q .next ⟨h', g, d, tk, os⟩) :
   wpAny (model prog w) WC (exec kB8 (kE a2 fr c1 L)) Q E ⟨h, g, d, t, os⟩ := by
  have hq : KIN.Hid (∀ h' tk f6 c' ctv doc tc, (∀ b x, b ≠ a2 → b ≠ P1 → h.get? b = some x → h'.get? b = some x) → h'.get? a2 = some ⟨.type "dict", none, .dict #[ent w.params "__module__" t0 (.str (Str.ofString "cpy313.functools") t1), ent w.params "__qualname__" t2 (.str (Str.ofString "cmp_to_key.<locals>.K") t3), ent w.params "__firstlineno__" t4 (.int 85 t5), ent w.params "__slots__" t6 (.ref sL), ent w.params "__init__" t7 (.ref f1), ent w.params "__lt__" t8 (.ref f2), ent w.params "__gt__" t9 (.ref f3), ent w.params "__eq__" ta (.ref f4), ent w.params "__le__" tb (.ref f5), ent w.params "__ge__" tc (.ref f6)] (n + 1), #[]⟩ → h'.get? P1 = some (tabObj (ps ++ #[rawInt kP8.line, rawInt kP8.col, .ref c'])) →
      h'.get? f6 = some (kF8 L mg doc c' ctv) → h'.CodeRec (.ref c') (Str.ofString "cmp_to_key.<locals>.K.__ge__") → h.get? f6 = none → h.get? c' = none → Q .next ⟨h', g, d, tk, os⟩) := ⟨hQ⟩
  clear hQ
  delta kB8
  rw [arm_exec_FunctionDef]
  have D := Mm.start h
  k_extra "w"
  rw [show qualnameIn (kE a2 fr c1 L) (Str.ofString "__ge__") (Str.ofString "__ge__") = Str.ofString "cmp_to_key.<locals>.K.__ge__" from by kernel_rfl]
  refine mk_def (P := P1) (c := c1) (mg := mg) (clos := [(Str.ofString "mycmp", L + 1)]) ha n1 (by with_unfolding_all rfl) rfl hg rfl C hP ht hnf n2 hb ?_
  clear D
  intro c' ctv doc h2 f6 tk1 e1 e2 e3 e4 e5 e6 e7 e8 ha2
  clear ha hb hg C hP
  have fin : KIN.Hid (∀ h' tk tc o, Mm h2 h' [(a2, o)] [] → o = ⟨.type "dict", none, .dict #[ent w.params "__module__" t0 (.str (Str.ofString "cpy313.functools") t1), ent w.params "__qualname__" t2 (.str (Str.ofString "cmp_to_key.<locals>.K") t3), ent w.params "__firstlineno__" t4 (.int 85 t5), ent w.params "__slots__" t6 (.ref sL), ent w.params "__init__" t7 (.ref f1), ent w.params "__lt__" t8 (.ref f2), ent w.params "__gt__" t9 (.ref f3), ent w.params "__eq__" ta (.ref f4), ent w.params "__le__" tb (.ref f5), ent w.params "__ge__" tc (.ref f6)] (n + 1), #[]⟩ → Q .next ⟨h', g, d, tk, os⟩) :=
    ⟨fun h' tk tc o D e => hq.out h' tk f6 c' ctv doc tc (fun b x n n' e => step_keep D b x n (e4 b x n' e)) (step_at D e) (step_keep D _ _ (Ne.symm n1) e3) (step_keep D _ _ e7 e1) (step_rec D e8 e2) e5 e6⟩
  clear hq e1 e2 e3 e4 e5 e6 e7 e8 n1 n2 ht hnf
  have D := Mm.start h2
  k_extra "w"
  exact fin.out _ _ tk1 _ (by assumption) (by as_aux_lemma => kernel_rfl)

set_option maxHeartbeats 2500000 in
theorem kb_9 {prog : Program} {w : World} {h : Heap} {g : Array GenState} {d : Drawn} {t : Nat} {os : OsState} {a2 fr c1 L : Addr} {n : Nat} {Q : Flow → Shared → Prop} {E : Value → Shared → Prop} {t0 t1 t2 t3 t4 t5 t6 t7 t8 t9 ta tb tc : Tok} {sL f1 f2 f3 f4 f5 f6 : Addr}
   (ha : h.get? a2 = some ⟨.type "dict", none, .dict #[ent w.params "__module__" t0 (.str (Str.ofString "cpy313.functools") t1), ent w.params "__qualname__" t2 (.str (Str.ofString "cmp_to_key.<locals>.K") t3), ent w.params "__firstlineno__" t4 (.int 85 t5), ent w.params "__slots__" t6 (.ref sL), ent w.params "__init__" t7 (.ref f1), ent w.params "__lt__" t8 (.ref f2), ent w.params "__gt__" t9 (.ref f3), ent w.params "__eq__" ta (.ref f4), ent w.params "__le__" tb (.ref f5), ent w.params "__ge__" tc (.ref f6)] n, #[]⟩)
   (hQ : ∀ h' tk td, (∀ b x, b ≠ a2 → h.get? b = some x → h'.get? b = some x) → h'.get? a2 = some ⟨.type "dict", none, .dict #[ent w.params "__module__" t0 (.str (Str.ofString "cpy313.functools") t1), ent w.params "__qualname__" t2 (.str (Str.ofString "cmp_to_key.<locals>.K") t3), ent w.params "__firstlineno__" t4 (.int 85 t5), ent w.params "__slots__" t6 (.ref sL), ent w.params "__init__" t7 (.ref f1), ent w.params "__lt__" t8 (.ref f2), ent w.params "__gt__" t9 (.ref f3), ent w.params "__eq__" ta (.ref f4), ent w.params "__le__" tb (.ref f5), ent w.params "__ge__" tc (.ref f6), ent w.params "__hash__" td .none] (n + 1), #[]⟩ → Q .next ⟨h', g, d, tk, os⟩) :
   wpAny (model prog w) WC (exec kB9 (kE a2 fr c1 L)) Q E ⟨h, g, d, t, os⟩ := by
  have D := Mm.start h
  have hq : KIN.Hid (∀ h' tk td, (∀ b x, b ≠ a2 → h.get? b = some x → h'.get? b = some x) → h'.get? a2 = some ⟨.type "dict", none, .dict #[ent w.params "__module__" t0 (.str (Str.ofString "cpy313.functools") t1), ent w.params "__qualname__" t2 (.str (Str.ofString "cmp_to_key.<locals>.K") t3), ent w.params "__firstlineno__" t4 (.int 85 t5), ent w.params "__slots__" t6 (.ref sL), ent w.params "__init__" t7 (.ref f1), ent w.params "__lt__" t8 (.ref f2), ent w.params "__gt__" t9 (.ref f3), ent w.params "__eq__" ta (.ref f4), ent w.params "__le__" tb (.ref f5), ent w.params "__ge__" tc (.ref f6), ent w.params "__hash__" td .none] (n + 1), #[]⟩ → Q .next ⟨h', g, d, tk, os⟩) := ⟨hQ⟩
  clear hQ
  delta kB9
  rw [arm_exec_Assign]
  k_extra "w"
  exact hq.out _ _ t (step_keep (by assumption)) (step_at (by assumption) (by as_aux_lemma => kernel_rfl))
end Mine
end
theorem Mine.freshKD : True := by k_with_none; w_top off; first | walk1 | trivial
-- KD
section
open PySem PySem.W PySem.W.X PyProof.Rows PySem.Calls
set_option Elab.async false
set_option maxRecDepth 100000
namespace Mine
open Hd (KK)
/-- all stands but two objects -/
def But2 (a b : Addr) (h h' : Heap) : Prop := ∀ c x, c ≠ a → c ≠ b → h.get? c = some x → h'.get? c = some x
theorem But2.trans {a b : Addr} {h h' h'' : Heap} (x : But2 a b h h') (y : But2 a b h' h'') : But2 a b h h'' := fun c o n1 n2 e => y c o n1 n2 (x c o n1 n2 e)
theorem But2.rec {a b c : Addr} {h h' : Heap} {q : Str} (x : But2 a b h h') (n1 : c ≠ a) (n2 : c ≠ b) (r : h.CodeRec (.ref c) q) : h'.CodeRec (.ref c) q := by
  obtain ⟨c₂, oc, vs, t, e, ho, hd, hv⟩ := r
  cases e
  exact ⟨c, oc, vs, t, rfl, x c oc n1 n2 ho, hd, hv⟩
theorem But2.hd {a b c P : Addr} {h h' : Heap} (x : But2 a b h h') (n1 : c ≠ a) (n2 : c ≠ b) (r : CodeHd h c P) : CodeHd h' c P := by
  obtain ⟨o, vs, f, tf, fl, tg, i, tx, tt, ho, r⟩ := r
  exact ⟨o, vs, f, tf, fl, tg, i, tx, tt, x c o n1 n2 ho, r⟩
theorem But2.ns {a b c : Addr} {h h' : Heap} {m : Str → Option Value} (x : But2 a b h h') (n1 : c ≠ a) (n2 : c ≠ b) (r : h.Ns c m) : h'.Ns c m := by
  obtain ⟨o, es, ep, ho, r⟩ := r
  exact ⟨o, es, ep, x c o n1 n2 ho, r⟩
theorem But2.blt {a P : Addr} {h h' : Heap} {mg : Str → Option Value} {oa : Obj} (x : But2 a P h h') (ha : h.get? a = some oa) (hc : oa.cls = .type "dict") (r : h.BuiltinsAt mg P) : h'.BuiltinsAt mg P := by
  obtain ⟨bm, o, e1, e2, e3, e4, e5, e6, e7⟩ := r
  refine ⟨bm, o, e1, e2, e3, e4, x bm o (fun q => ?_) e4 e5, e6, e7⟩
  rw [q, ha] at e5
  cases e5
  rw [hc] at e6
  exact absurd e6 (by decide)
theorem codeHd_apart {h : Heap} {c P : Addr} (C : CodeHd h c P) : c ≠ P := by
  obtain ⟨o, vs, f, tf, fl, tg, i, tx, tt, ho, _, _, _, _, _, _, _, _, n⟩ := C
  exact n
theorem seq_raw {M : Model} {A : Around} {E : Value → Shared → Prop} {s : Shared} {st : Stmt} {rest : List Stmt} {env : Env} {Q : Flow → Shared → Prop}
    (h : wpAny M A (exec st env) (fun fl s' => fl = .next ∧ wpAny M A (execs rest env) Q E s') E s) : wpAny M A (execs (st :: rest) env) Q E s := by
  rw [execs_cons]
  refine wpAny_bind (wpAny_mono h (fun fl s' hq => ?_) fun _ _ e => e)
  obtain ⟨rfl, hq⟩ := hq
  exact hq
theorem none_of {a b c : Addr} {h h' : Heap} {oa ob : Obj} (x : But2 a b h h') (_ : h.get? a = some oa) (_ : h.get? b = some ob) (e : h'.get? c = none) (n1 : c ≠ a) (n2 : c ≠ b) : h.get? c = none := by
  cases q : h.get? c with
  | none => rfl
  | some o => rw [x c o n1 n2 q] at e; cases e
set_option maxHeartbeats 2500000 in
theorem ck_body {prog : Program} {w : World} {h : Heap} {g : Array GenState} {d : Drawn} {t : Nat} {os : OsState} {a2 fr c1 L : Addr} {n : Nat} {Q : Flow → Shared → Prop} {E : Value → Shared → Prop} {t0 t2 t3 t4 t5 : Tok} {P1 : Addr} {mg : Str → Option Value}
   (ha : h.get? a2 = some ⟨.type "dict", none, .dict #[ent w.params "__module__" t0 (.str (Str.ofString "law_mr0202_01") 1878), ent w.params "__qualname__" t2 (.str (Str.ofString "cmp_to_key.<locals>.K") t3), ent w.params "__firstlineno__" t4 (.int 85 t5)] n, #[]⟩) (hg : h.Ns mainGlobals mg) (hb : h.BuiltinsAt mg P1) (C : CodeHd h c1 P1) (hP : h.get? P1 = some (tabObj #[])) (n1 : a2 ≠ P1) (n2 : mainGlobals ≠ P1) (n3 : mainGlobals ≠ a2) (n4 : c1 ≠ a2)
   (hQ : ∀ h' tk t0 t1 t2 t3 t4 t5 t6 t7 t8 t9 ta tb tc td tf sL f1 f2 f3 f4 f5 f6 k3 k4 k5 k6 k7 k8 u3 v3 u4 v4 u5 v5 u6 v6 u7 v7 u8 v8 ps, But2 a2 P1 h h' → h'.get? a2 = some ⟨.type "dict", none, .dict #[ent w.params "__module__" t0 (.str (Str.ofString "cpy313.functools") t1), ent w.params "__qualname__" t2 (.str (Str.ofString "cmp_to_key.<locals>.K") t3), ent w.params "__firstlineno__" t4 (.int 85 t5), ent w.params "__slots__" t6 (.ref sL), ent w.params "__init__" t7 (.ref f1), ent w.params "__lt__" t8 (.ref f2), ent w.params "__gt__" t9 (.ref f3), ent w.params "__eq__" ta (.ref f4), ent w.params "__le__" tb (.ref f5), ent w.params "__ge__" tc (.ref f6), ent w.params "__hash__" td .none] (n + 1 + 1 + 1 + 1 + 1 + 1 + 1 + 1), #[]⟩ → h'.get? P1 = some (tabObj ps) → h'.get? sL = some ⟨.type "list", none, .seq #[.str (Str.ofString "obj") tf] 0, #[]⟩ → h.get? sL = none →
      (h'.get? f1 = some (kF3 L mg u3 k3 v3) ∧ h'.CodeRec (.ref k3) (Str.ofString "cmp_to_key.<locals>.K.__init__") ∧ h.get? f1 = none ∧ h.get? k3 = none) → (h'.get? f2 = some (kF4 L mg u4 k4 v4) ∧ h'.CodeRec (.ref k4) (Str.ofString "cmp_to_key.<locals>.K.__lt__") ∧ h.get? f2 = none ∧ h.get? k4 = none) → (h'.get? f3 = some (kF5 L mg u5 k5 v5) ∧ h'.CodeRec (.ref k5) (Str.ofString "cmp_to_key.<locals>.K.__gt__") ∧ h.get? f3 = none ∧ h.get? k5 = none) → (h'.get? f4 = some (kF6 L mg u6 k6 v6) ∧ h'.CodeRec (.ref k6) (Str.ofString "cmp_to_key.<locals>.K.__eq__") ∧ h.get? f4 = none ∧ h.get? k6 = none) → (h'.get? f5 = some (kF7 L mg u7 k7 v7) ∧ h'.CodeRec (.ref k7) (Str.ofString "cmp_to_key.<locals>.K.__le__") ∧ h.get? f5 = none ∧ h.get? k7 = none) → (h'.get? f6 = some (kF8 L mg u8 k8 v8) ∧ h'.CodeRec (.ref k8) (Str.ofString "cmp_to_key.<locals>.K.__ge__") ∧ h.get? f6 = none ∧ h.get? k8 = none) → Q .next ⟨h', g, d, tk, os⟩) :
   wpAny (model prog w) WC (execs [kB1, kB2, kB3, kB4, kB5, kB6, kB7, kB8, kB9] (kE a2 fr c1 L)) Q E ⟨h, g, d, t, os⟩ := by
  have n5 := codeHd_apart C
  refine seq_raw (kb_1 ha fun h1 tk1 t1 p1 ha1 => ⟨rfl, ?_⟩)
  have b1 : But2 a2 P1 h h1 := fun c x n _ e => p1 c x n e
  have hP1 := p1 _ _ (Ne.symm n1) hP
  have hg1 := b1.ns n3 n2 hg
  have hb1 := b1.blt ha rfl hb
  have C1 := b1.hd n4 n5 C
  refine seq_raw (kb_2 ha1 fun h2 tk2 t6 tf sL p2 ha2 s2 s2n => ⟨rfl, ?_⟩)
  have q2 : But2 a2 P1 h1 h2 := fun c x n _ e => p2 c x n e
  have b2 := b1.trans q2
  have hP2 := p2 _ _ (Ne.symm n1) hP1
  have hg2 := q2.ns n3 n2 hg1
  have hb2 := q2.blt ha1 rfl hb1
  have C2 := q2.hd n4 n5 C1
  have s0n : h.get? sL = none := none_of b1 ha hP s2n (fun e => by rw [e, ha1] at s2n; cases s2n) (fun e => by rw [e, hP1] at s2n; cases s2n)
  refine seq_raw (kb_3 ha2 hg2 hb2 C2 hP2 (by exact True.intro) (by kernel_rfl) n1 n2 fun h3 tk3 f1 k3 v3 u3 t7 q3 ha3 hP3 e3 r3 m3 w3 => ⟨rfl, ?_⟩)
  have b3 := b2.trans q3
  have hg3 := But2.ns q3 n3 n2 hg2
  have hb3 := But2.blt q3 ha2 rfl hb2
  have C3 := But2.hd q3 n4 n5 C2
  have fa3 : f1 ≠ a2 := fun e => by rw [e, ha2] at m3; cases m3
  have fp3 : f1 ≠ P1 := fun e => by rw [e, hP2] at m3; cases m3
  have ka3 : k3 ≠ a2 := fun e => by rw [e, ha2] at w3; cases w3
  have kp3 : k3 ≠ P1 := fun e => by rw [e, hP2] at w3; cases w3
  refine seq_raw (kb_4 ha3 hg3 hb3 C3 hP3 (by exact True.intro) (by kernel_rfl) n1 n2 fun h4 tk4 f2 k4 v4 u4 t8 q4 ha4 hP4 e4 r4 m4 w4 => ⟨rfl, ?_⟩)
  have b4 := b3.trans q4
  have hg4 := But2.ns q4 n3 n2 hg3
  have hb4 := But2.blt q4 ha3 rfl hb3
  have C4 := But2.hd q4 n4 n5 C3
  have fa4 : f2 ≠ a2 := fun e => by rw [e, ha3] at m4; cases m4
  have fp4 : f2 ≠ P1 := fun e => by rw [e, hP3] at m4; cases m4
  have ka4 : k4 ≠ a2 := fun e => by rw [e, ha3] at w4; cases w4
  have kp4 : k4 ≠ P1 := fun e => by rw [e, hP3] at w4; cases w4
  refine seq_raw (kb_5 ha4 hg4 hb4 C4 hP4 (by exact True.intro) (by kernel_rfl) n1 n2 fun h5 tk5 f3 k5 v5 u5 t9 q5 ha5 hP5 e5 r5 m5 w5 => ⟨rfl, ?_⟩)
  have b5 := b4.trans q5
  have hg5 := But2.ns q5 n3 n2 hg4
  have hb5 := But2.blt q5 ha4 rfl hb4
  have C5 := But2.hd q5 n4 n5 C4
  have fa5 : f3 ≠ a2 := fun e => by rw [e, ha4] at m5; cases m5
  have fp5 : f3 ≠ P1 := fun e => by rw [e, hP4] at m5; cases m5
  have ka5 : k5 ≠ a2 := fun e => by rw [e, ha4] at w5; cases w5
  have kp5 : k5 ≠ P1 := fun e => by rw [e, hP4] at w5; cases w5
  refine seq_raw (kb_6 ha5 hg5 hb5 C5 hP5 (by exact True.intro) (by kernel_rfl) n1 n2 fun h6 tk6 f4 k6 v6 u6 ta q6 ha6 hP6 e6 r6 m6 w6 => ⟨rfl, ?_⟩)
  have b6 := b5.trans q6
  have hg6 := But2.ns q6 n3 n2 hg5
  have hb6 := But2.blt q6 ha5 rfl hb5
  have C6 := But2.hd q6 n4 n5 C5
  have fa6 : f4 ≠ a2 := fun e => by rw [e, ha5] at m6; cases m6
  have fp6 : f4 ≠ P1 := fun e => by rw [e, hP5] at m6; cases m6
  have ka6 : k6 ≠ a2 := fun e => by rw [e, ha5] at w6; cases w6
  have kp6 : k6 ≠ P1 := fun e => by rw [e, hP5] at w6; cases w6
  refine seq_raw (kb_7 ha6 hg6 hb6 C6 hP6 (by exact True.intro) (by kernel_rfl) n1 n2 fun h7 tk7 f5 k7 v7 u7 tb q7 ha7 hP7 e7 r7 m7 w7 => ⟨rfl, ?_⟩)
  have b7 := b6.trans q7
  have hg7 := But2.ns q7 n3 n2 hg6
  have hb7 := But2.blt q7 ha6 rfl hb6
  have C7 := But2.hd q7 n4 n5 C6
  have fa7 : f5 ≠ a2 := fun e => by rw [e, ha6] at m7; cases m7
  have fp7 : f5 ≠ P1 := fun e => by rw [e, hP6] at m7; cases m7
  have ka7 : k7 ≠ a2 := fun e => by rw [e, ha6] at w7; cases w7
  have kp7 : k7 ≠ P1 := fun e => by rw [e, hP6] at w7; cases w7
  refine seq_raw (kb_8 ha7 hg7 hb7 C7 hP7 (by exact True.intro) (by kernel_rfl) n1 n2 fun h8 tk8 f6 k8 v8 u8 tc q8 ha8 hP8 e8 r8 m8 w8 => ⟨rfl, ?_⟩)
  have b8 := b7.trans q8
  have hg8 := But2.ns q8 n3 n2 hg7
  have hb8 := But2.blt q8 ha7 rfl hb7
  have C8 := But2.hd q8 n4 n5 C7
  have fa8 : f6 ≠ a2 := fun e => by rw [e, ha7] at m8; cases m8
  have fp8 : f6 ≠ P1 := fun e => by rw [e, hP7] at m8; cases m8
  have ka8 : k8 ≠ a2 := fun e => by rw [e, ha7] at w8; cases w8
  have kp8 : k8 ≠ P1 := fun e => by rw [e, hP7] at w8; cases w8
  refine seq_raw (kb_9 ha8 fun h9 tk9 td p9 ha9 => ⟨rfl, ?_⟩)
  have q9 : But2 a2 P1 h8 h9 := fun c x n _ e => p9 c x n e
  have sa : sL ≠ a2 := fun e => by rw [e, ha1] at s2n; cases s2n
  have sp : sL ≠ P1 := fun e => by rw [e, hP1] at s2n; cases s2n
  have z3 : But2 a2 P1 h3 h9 := (But2.trans q4 (But2.trans q5 (But2.trans q6 (But2.trans q7 (But2.trans q8 (q9))))))
  have z4 : But2 a2 P1 h4 h9 := (But2.trans q5 (But2.trans q6 (But2.trans q7 (But2.trans q8 (q9)))))
  have z5 : But2 a2 P1 h5 h9 := (But2.trans q6 (But2.trans q7 (But2.trans q8 (q9))))
  have z6 : But2 a2 P1 h6 h9 := (But2.trans q7 (But2.trans q8 (q9)))
  have z7 : But2 a2 P1 h7 h9 := (But2.trans q8 (q9))
  have z8 : But2 a2 P1 h8 h9 := q9
  have z2 : But2 a2 P1 h2 h9 := But2.trans q3 z3
  refine wpAny_pure (hQ h9 tk9 t0 t1 t2 t3 t4 t5 t6 t7 t8 t9 ta tb tc td tf sL f1 f2 f3 f4 f5 f6 k3 k4 k5 k6 k7 k8 u3 v3 u4 v4 u5 v5 u6 v6 u7 v7 u8 v8 _ (b2.trans z2) ha9 (p9 _ _ (Ne.symm n1) hP8) (z2 _ _ sa sp s2) s0n 
    ⟨z3 _ _ fa3 fp3 e3, But2.rec z3 ka3 kp3 r3, none_of b2 ha hP m3 fa3 fp3, none_of b2 ha hP w3 ka3 kp3⟩
    ⟨z4 _ _ fa4 fp4 e4, But2.rec z4 ka4 kp4 r4, none_of b3 ha hP m4 fa4 fp4, none_of b3 ha hP w4 ka4 kp4⟩
    ⟨z5 _ _ fa5 fp5 e5, But2.rec z5 ka5 kp5 r5, none_of b4 ha hP m5 fa5 fp5, none_of b4 ha hP w5 ka5 kp5⟩
    ⟨z6 _ _ fa6 fp6 e6, But2.rec z6 ka6 kp6 r6, none_of b5 ha hP m6 fa6 fp6, none_of b5 ha hP w6 ka6 kp6⟩
    ⟨z7 _ _ fa7 fp7 e7, But2.rec z7 ka7 kp7 r7, none_of b6 ha hP m7 fa7 fp7, none_of b6 ha hP w7 ka7 kp7⟩
    ⟨z8 _ _ fa8 fp8 e8, But2.rec z8 ka8 kp8 r8, none_of b7 ha hP m8 fa8 fp8, none_of b7 ha hP w8 ka8 kp8⟩)
end Mine
end
theorem Mine.freshKG : True := by k_with_none; w_top off; first | walk1 | trivial
-- KG
section
open PySem PySem.W PySem.W.X PyProof.Rows PySem.Calls
set_option Elab.async false
set_option maxRecDepth 100000
namespace Mine
open Hd (KK)
theorem mm_get {h h' : Heap} {chg news : List (Addr × Obj)} (D : Mm h h' chg news) {a : Addr} {o o' : Obj} (hm : (a, o) ∈ news) (e : o = o') : h'.get? a = some o' := e ▸ (D.nw _ hm).1
theorem mm_apart {h h' : Heap} {chg news : List (Addr × Obj)} (D : Mm h h' chg news) {a b : Addr} {o q : Obj} {i j : Nat} (hi : news[i]? = some (a, o)) (hj : news[j]? = some (b, q)) (n : i ≠ j) : a ≠ b := by
  intro e
  subst e
  have z := D.ap
  obtain ⟨li, ei⟩ := List.getElem?_eq_some_iff.mp hi
  obtain ⟨lj, ej⟩ := List.getElem?_eq_some_iff.mp hj
  have key := List.pairwise_iff_getElem.mp z
  rcases Nat.lt_or_gt_of_ne n with h1 | h1
  · have q := key i j (by rw [List.length_map]; exact li) (by rw [List.length_map]; exact lj) h1
    rw [List.getElem_map, List.getElem_map, ei, ej] at q
    exact q rfl
  · have q := key j i (by rw [List.length_map]; exact lj) (by rw [List.length_map]; exact li) h1
    rw [List.getElem_map, List.getElem_map, ei, ej] at q
    exact q rfl
def codeK (t tv P1 : Nat) : Obj := ⟨.type "code", none, .fields #[.str (Str.ofString "K") (t + 2), .str (Str.ofString "cmp_to_key.<locals>.K") (t + 3), .str (Str.ofString "/claim/cut.py") (t + 4), .int 85 0, .int 0 0, .int 0 0, .int 0 0, .int 0 0, .ref tv, .bool true, .int 181 0, .ref P1, .none, .none, .none, .none, .int (t + 6) 0, .int 85 0, .str (Str.ofString "/claim/cut.py") (t + 7)], #[]⟩
set_option maxHeartbeats 2500000 in
theorem body_go {prog : Program} {w : World} {h h0 : Heap} {g : Array GenState} {d : Drawn} {t tt : Nat} {os : OsState} {L fr c1 P1 tv a2 a1 bT : Addr} {o1 o2 o3 o4 o5 o6 o7 : Obj} {chg : List (Addr × Obj)} {c : Code} {mg : Str → Option Value} {Q : Flow → Shared → Prop} {E : Value → Shared → Prop} {t0 t2 t3 t4 t5 : Tok}
   (D : Mm h h0 chg [(fr, o1), (c1, o2), (P1, o3), (tv, o4), (a2, o5), (a1, o6), (bT, o7)]) (hc : c = Code.body [kB1, kB2, kB3, kB4, kB5, kB6, kB7, kB8, kB9] (kE a2 fr c1 L)) (e135 : chg = [(135, tabObj #[rawInt 85, rawInt 4, .ref c1])])
   (e2 : o2 = codeK t tv P1) (e3 : o3 = tabObj #[]) (e5 : o5 = ⟨.type "dict", none, .dict #[ent w.params "__module__" t0 (.str (Str.ofString "law_mr0202_01") 1878), ent w.params "__qualname__" t2 (.str (Str.ofString "cmp_to_key.<locals>.K") t3), ent w.params "__firstlineno__" t4 (.int 85 t5)] 3, #[]⟩) (e7 : o7 = ⟨.type "tuple", none, .seq #[.type "object"] 0, #[]⟩)
   (hg : h.Ns mainGlobals mg) (hb : ∃ bm ob, mg "__builtins__" = some (.ref bm) ∧ bm ≠ builtinsNs ∧ h.get? bm = some ob ∧ ob.cls = .type "module" ∧ ob.dict = some builtinsNs ∧ ob.data = .plain) (h135 : h.get? 135 = some (tabObj #[]))
   (hQ : ∀ h' tk nn t0 t1 t2 t3 t4 t5 t6 t7 t8 t9 ta tb tc td tf sL f1 f2 f3 f4 f5 f6 k3 k4 k5 k6 k7 k8 u3 v3 u4 v4 u5 v5 u6 v6 u7 v7 u8 v8, (∀ c x, c ≠ 135 → h.get? c = some x → h'.get? c = some x) → h'.get? 135 = some (tabObj #[rawInt 85, rawInt 4, .ref c1]) → h'.get? bT = some ⟨.type "tuple", none, .seq #[.type "object"] 0, #[]⟩ → h.get? bT = none → bT ≠ a2 → h'.get? a2 = some ⟨.type "dict", none, .dict #[ent w.params "__module__" t0 (.str (Str.ofString "cpy313.functools") t1), ent w.params "__qualname__" t2 (.str (Str.ofString "cmp_to_key.<locals>.K") t3), ent w.params "__firstlineno__" t4 (.int 85 t5), ent w.params "__slots__" t6 (.ref sL), ent w.params "__init__" t7 (.ref f1), ent w.params "__lt__" t8 (.ref f2), ent w.params "__gt__" t9 (.ref f3), ent w.params "__eq__" ta (.ref f4), ent w.params "__le__" tb (.ref f5), ent w.params "__ge__" tc (.ref f6), ent w.params "__hash__" td .none] nn, #[]⟩ → h.get? a2 = none → h'.get? sL = some ⟨.type "list", none, .seq #[.str (Str.ofString "obj") tf] 0, #[]⟩ → h.get? sL = none → sL ≠ a2 →
      (h'.get? f1 = some (kF3 L mg u3 k3 v3) ∧ h'.CodeRec (.ref k3) (Str.ofString "cmp_to_key.<locals>.K.__init__") ∧ h.get? f1 = none ∧ h.get? k3 = none) → (h'.get? f2 = some (kF4 L mg u4 k4 v4) ∧ h'.CodeRec (.ref k4) (Str.ofString "cmp_to_key.<locals>.K.__lt__") ∧ h.get? f2 = none ∧ h.get? k4 = none) → (h'.get? f3 = some (kF5 L mg u5 k5 v5) ∧ h'.CodeRec (.ref k5) (Str.ofString "cmp_to_key.<locals>.K.__gt__") ∧ h.get? f3 = none ∧ h.get? k5 = none) → (h'.get? f4 = some (kF6 L mg u6 k6 v6) ∧ h'.CodeRec (.ref k6) (Str.ofString "cmp_to_key.<locals>.K.__eq__") ∧ h.get? f4 = none ∧ h.get? k6 = none) → (h'.get? f5 = some (kF7 L mg u7 k7 v7) ∧ h'.CodeRec (.ref k7) (Str.ofString "cmp_to_key.<locals>.K.__le__") ∧ h.get? f5 = none ∧ h.get? k7 = none) → (h'.get? f6 = some (kF8 L mg u8 k8 v8) ∧ h'.CodeRec (.ref k8) (Str.ofString "cmp_to_key.<locals>.K.__ge__") ∧ h.get? f6 = none ∧ h.get? k8 = none) → Q .next ⟨h', g, d, tk, os⟩) :
   wpAny (model prog w) WB (run c none) Q E ⟨h0, g, d, tt, os⟩ := by
  subst hc e135 e2 e3 e5 e7
  obtain ⟨bm, ob, b1, b2, b4, b5, b6, b7⟩ := hb
  have k1 : ∀ b x, b ≠ 135 → h.get? b = some x → h0.get? b = some x := fun b x n e => D.keep b x e fun p hp e' => n (by rw [List.mem_singleton.mp hp] at e'; exact e'.symm)
  obtain ⟨og, esg, epg, eg, hdg, -⟩ := id hg
  have xfr := D.nw _ (List.mem_of_getElem? (i := 0) rfl)
  have xc := D.nw _ (List.mem_of_getElem? (i := 1) rfl)
  have xP := D.nw _ (List.mem_of_getElem? (i := 2) rfl)
  have xa := D.nw _ (List.mem_of_getElem? (i := 4) rfl)
  have xb := D.nw _ (List.mem_of_getElem? (i := 6) rfl)
  have n1 : a2 ≠ P1 := mm_apart D (i := 4) (j := 2) rfl rfl (by decide)
  have n4 : c1 ≠ a2 := mm_apart D (i := 1) (j := 4) rfl rfl (by decide)
  have n5 : c1 ≠ P1 := mm_apart D (i := 1) (j := 2) rfl rfl (by decide)
  have n6 : bT ≠ a2 := mm_apart D (i := 6) (j := 4) rfl rfl (by decide)
  have n7 : bT ≠ P1 := mm_apart D (i := 6) (j := 2) rfl rfl (by decide)
  have n2 : mainGlobals ≠ P1 := fun e => by rw [e, xP.2] at eg; cases eg
  have n3 : mainGlobals ≠ a2 := fun e => by rw [e, xa.2] at eg; cases eg
  have n8 : bm ≠ mainGlobals := fun e => by rw [e, eg] at b4; cases b4; rw [hdg] at b7; cases b7
  have n9 : bm ≠ P1 := fun e => by rw [e, xP.2] at b4; cases b4
  have m135 : mainGlobals ≠ 135 := by decide
  have bm135 : bm ≠ 135 := fun e => by rw [e, h135] at b4; cases b4; cases b5
  have hg0 : h0.Ns mainGlobals mg := hg.at' fun o e => k1 _ o m135 e
  have hb0 : h0.BuiltinsAt mg P1 := ⟨bm, ob, b1, b2, n8, n9, k1 _ _ bm135 b4, b5, b6, b7⟩
  have C0 : CodeHd h0 c1 P1 := ⟨_, _, _, _, _, _, _, _, _, xc.1, rfl, rfl, rfl, rfl, rfl, rfl, rfl, rfl, n5⟩
  have p2 : a2 ≠ 135 := fun e => by have z := xa.2; rw [e, h135] at z; cases z
  have p1 : P1 ≠ 135 := fun e => by have z := xP.2; rw [e, h135] at z; cases z
  refine wpAny_run (codeAny_body rfl rfl (weaker (A' := WC) rfl (Nat.le_of_ble_eq_true rfl) (Nat.le_of_ble_eq_true rfl) rfl rfl (ck_body xa.1 hg0 hb0 C0 xP.1 n1 n2 n3 n4 ?_)))
  intro h' tk t0 t1 t2 t3 t4 t5 t6 t7 t8 t9 ta tb tc td tf sL f1 f2 f3 f4 f5 f6 k3 k4 k5 k6 k7 k8 u3 v3 u4 v4 u5 v5 u6 v6 u7 v7 u8 v8 ps B2 da dP ds dsn z3 z4 z5 z6 z7 z8
  have none0 : ∀ b, h0.get? b = none → h.get? b = none := fun b e => D.new0 e
  have sa : sL ≠ a2 := fun e => by rw [e, xa.1] at dsn; cases dsn
  exact hQ h' tk _ t0 t1 t2 t3 t4 t5 t6 t7 t8 t9 ta tb tc td tf sL f1 f2 f3 f4 f5 f6 k3 k4 k5 k6 k7 k8 u3 v3 u4 v4 u5 v5 u6 v6 u7 v7 u8 v8 (fun c x n e => B2 c x (fun e' => by rw [e', xa.2] at e; cases e) (fun e' => by rw [e', xP.2] at e; cases e) (k1 c x n e)) (B2 _ _ (Ne.symm p2) (Ne.symm p1) (D.ch _ (.head _)).1) (B2 _ _ n6 n7 xb.1) xb.2 n6 da xa.2 ds (none0 _ dsn) sa
    ⟨z3.1, z3.2.1, none0 _ z3.2.2.1, none0 _ z3.2.2.2⟩ ⟨z4.1, z4.2.1, none0 _ z4.2.2.1, none0 _ z4.2.2.2⟩ ⟨z5.1, z5.2.1, none0 _ z5.2.2.1, none0 _ z5.2.2.2⟩ ⟨z6.1, z6.2.1, none0 _ z6.2.2.1, none0 _ z6.2.2.2⟩ ⟨z7.1, z7.2.1, none0 _ z7.2.2.1, none0 _ z7.2.2.2⟩ ⟨z8.1, z8.2.1, none0 _ z8.2.2.1, none0 _ z8.2.2.2⟩
end Mine
end
open PySem PySem.W PySem.W.X PyProof.Rows PySem.Calls Mine in
theorem Mine.freshKY : True := by
  k_with_none
  k_with "off" => (first | (intro _ hp; cases hp; done) | (intro p hp; simp only [List.mem_cons, List.not_mem_nil, or_false] at hp; subst hp; first | exact (by decide) | exact (show (135 : Nat) ≠ 3 from by decide) | exact (show (135 : Nat) ≠ 0 from by decide) | exact (show (135 : Nat) ≠ 139 from by decide) | assumption | (show @Ne Nat _ _; omega)))
  k_with "s" => ((first | with_reducible (first | refine wpAny_of_eq (by assumption) ?_ | refine wpAny_pure ?_ | refine wpAny_holding ?_ | refine wpAny_standAt ?_ | refine wpAny_point ?_ | refine wpAny_rule ?_ | refine wpAny_fresh' ?_ | refine wpAny_askSetting ?_ | refine wpAny_onRaise ?_ | refine wpAny_tryCatch ?_ | refine wpAny_attempt ?_ | refine wpAny_throw ?_) | ((with_reducible refine allocN (by assumption) ?_ ?_); (focus rfl); intro _ _ _) | ((with_reducible show wpAny _ _ (load _) _ _ _); first | refine loadNO (by assumption) (by assumption) (by k_extra "off") ?_ | refine loadNC (by assumption) 0 rfl ?_ | refine loadNN (by assumption) 0 rfl ?_ | refine loadNN (by assumption) 1 rfl ?_ | refine loadNN (by assumption) 2 rfl ?_ | refine loadNN (by assumption) 3 rfl ?_ | refine loadNN (by assumption) 4 rfl ?_ | refine loadNN (by assumption) 5 rfl ?_ | refine loadNN (by assumption) 6 rfl ?_ | refine loadNN (by assumption) 7 rfl ?_ | refine loadNN (by assumption) 8 rfl ?_ | refine loadNN (by assumption) 9 rfl ?_ | refine loadNN (by assumption) 10 rfl ?_ | refine loadNN (by assumption) 11 rfl ?_ | refine loadNN (by assumption) 12 rfl ?_ | refine loadNN (by assumption) 13 rfl ?_ | refine loadNN (by assumption) 14 rfl ?_ | refine loadNN (by assumption) 15 rfl ?_ | refine loadNN (by assumption) 16 rfl ?_ | refine loadNN (by assumption) 17 rfl ?_ | refine loadNN (by assumption) 18 rfl ?_ | refine loadNN (by assumption) 19 rfl ?_ | refine loadNN (by assumption) 20 rfl ?_ | refine loadNN (by assumption) 21 rfl ?_ | refine loadNN (by assumption) 22 rfl ?_ | refine loadNN (by assumption) 23 rfl ?_ | refine loadNN (by assumption) 24 rfl ?_ | refine loadNN (by assumption) 25 rfl ?_ | refine loadNN (by assumption) 26 rfl ?_ | refine loadNN (by assumption) 27 rfl ?_ | refine loadNN (by assumption) 28 rfl ?_ | refine loadNN (by assumption) 29 rfl ?_) | ((with_reducible show wpAny _ _ (loadPart _ _) _ _ _); first | refine loadPNO (by assumption) (by assumption) (by k_extra "off") ?_ | refine loadPNC (by assumption) 0 rfl ?_ | refine loadPNN (by assumption) 0 rfl ?_ | refine loadPNN (by assumption) 1 rfl ?_ | refine loadPNN (by assumption) 2 rfl ?_ | refine loadPNN (by assumption) 3 rfl ?_ | refine loadPNN (by assumption) 4 rfl ?_ | refine loadPNN (by assumption) 5 rfl ?_ | refine loadPNN (by assumption) 6 rfl ?_ | refine loadPNN (by assumption) 7 rfl ?_ | refine loadPNN (by assumption) 8 rfl ?_ | refine loadPNN (by assumption) 9 rfl ?_ | refine loadPNN (by assumption) 10 rfl ?_ | refine loadPNN (by assumption) 11 rfl ?_ | refine loadPNN (by assumption) 12 rfl ?_ | refine loadPNN (by assumption) 13 rfl ?_ | refine loadPNN (by assumption) 14 rfl ?_ | refine loadPNN (by assumption) 15 rfl ?_ | refine loadPNN (by assumption) 16 rfl ?_ | refine loadPNN (by assumption) 17 rfl ?_ | refine loadPNN (by assumption) 18 rfl ?_ | refine loadPNN (by assumption) 19 rfl ?_ | refine loadPNN (by assumption) 20 rfl ?_ | refine loadPNN (by assumption) 21 rfl ?_ | refine loadPNN (by assumption) 22 rfl ?_ | refine loadPNN (by assumption) 23 rfl ?_ | refine loadPNN (by assumption) 24 rfl ?_ | refine loadPNN (by assumption) 25 rfl ?_ | refine loadPNN (by assumption) 26 rfl ?_ | refine loadPNN (by assumption) 27 rfl ?_ | refine loadPNN (by assumption) 28 rfl ?_ | refine loadPNN (by assumption) 29 rfl ?_) | ((with_reducible show wpAny _ _ (update _ _) _ _ _); (first | refine updOO (by assumption) (by assumption) (by k_extra "off") (by as_aux_lemma => kernel_rfl) ?_ | refine updN (by assumption) 0 rfl (by as_aux_lemma => kernel_rfl) ?_ | refine updN (by assumption) 1 rfl (by as_aux_lemma => kernel_rfl) ?_ | refine updN (by assumption) 2 rfl (by as_aux_lemma => kernel_rfl) ?_ | refine updN (by assumption) 3 rfl (by as_aux_lemma => kernel_rfl) ?_ | refine updN (by assumption) 4 rfl (by as_aux_lemma => kernel_rfl) ?_ | refine updN (by assumption) 5 rfl (by as_aux_lemma => kernel_rfl) ?_ | refine updN (by assumption) 6 rfl (by as_aux_lemma => kernel_rfl) ?_ | refine updN (by assumption) 7 rfl (by as_aux_lemma => kernel_rfl) ?_ | refine updN (by assumption) 8 rfl (by as_aux_lemma => kernel_rfl) ?_ | refine updN (by assumption) 9 rfl (by as_aux_lemma => kernel_rfl) ?_ | refine updN (by assumption) 10 rfl (by as_aux_lemma => kernel_rfl) ?_ | refine updN (by assumption) 11 rfl (by as_aux_lemma => kernel_rfl) ?_ | refine updN (by assumption) 12 rfl (by as_aux_lemma => kernel_rfl) ?_ | refine updN (by assumption) 13 rfl (by as_aux_lemma => kernel_rfl) ?_ | refine updN (by assumption) 14 rfl (by as_aux_lemma => kernel_rfl) ?_ | refine updN (by assumption) 15 rfl (by as_aux_lemma => kernel_rfl) ?_ | refine updN (by assumption) 16 rfl (by as_aux_lemma => kernel_rfl) ?_ | refine updN (by assumption) 17 rfl (by as_aux_lemma => kernel_rfl) ?_ | refine updN (by assumption) 18 rfl (by as_aux_lemma => kernel_rfl) ?_ | refine updN (by assumption) 19 rfl (by as_aux_lemma => kernel_rfl) ?_ | refine updN (by assumption) 20 rfl (by as_aux_lemma => kernel_rfl) ?_ | refine updN (by assumption) 21 rfl (by as_aux_lemma => kernel_rfl) ?_ | refine updN (by assumption) 22 rfl (by as_aux_lemma => kernel_rfl) ?_ | refine updN (by assumption) 23 rfl (by as_aux_lemma => kernel_rfl) ?_ | refine updN (by assumption) 24 rfl (by as_aux_lemma => kernel_rfl) ?_ | refine updN (by assumption) 25 rfl (by as_aux_lemma => kernel_rfl) ?_ | refine updN (by assumption) 26 rfl (by as_aux_lemma => kernel_rfl) ?_ | refine updN (by assumption) 27 rfl (by as_aux_lemma => kernel_rfl) ?_ | refine updN (by assumption) 28 rfl (by as_aux_lemma => kernel_rfl) ?_ | refine updN (by assumption) 29 rfl (by as_aux_lemma => kernel_rfl) ?_); intro hZ DZ; (try simp only [List.set_cons_zero, List.set_cons_succ] at DZ); (try dsimp only [Obj.mapCls, Obj.mapDict, Obj.mapDictKeys, Obj.mapFields, Obj.mapSeq] at DZ); (revert hZ; intro _ _)) | ((with_reducible show wpAny _ _ (updatePart _ _ _) _ _ _); (first | refine updPO (by assumption) (by assumption) (by k_extra "off") (by as_aux_lemma => kernel_rfl) ?_ | refine updPN (by assumption) 0 rfl (by as_aux_lemma => kernel_rfl) ?_ | refine updPN (by assumption) 1 rfl (by as_aux_lemma => kernel_rfl) ?_ | refine updPN (by assumption) 2 rfl (by as_aux_lemma => kernel_rfl) ?_ | refine updPN (by assumption) 3 rfl (by as_aux_lemma => kernel_rfl) ?_ | refine updPN (by assumption) 4 rfl (by as_aux_lemma => kernel_rfl) ?_ | refine updPN (by assumption) 5 rfl (by as_aux_lemma => kernel_rfl) ?_ | refine updPN (by assumption) 6 rfl (by as_aux_lemma => kernel_rfl) ?_ | refine updPN (by assumption) 7 rfl (by as_aux_lemma => kernel_rfl) ?_ | refine updPN (by assumption) 8 rfl (by as_aux_lemma => kernel_rfl) ?_ | refine updPN (by assumption) 9 rfl (by as_aux_lemma => kernel_rfl) ?_ | refine updPN (by assumption) 10 rfl (by as_aux_lemma => kernel_rfl) ?_ | refine updPN (by assumption) 11 rfl (by as_aux_lemma => kernel_rfl) ?_ | refine updPN (by assumption) 12 rfl (by as_aux_lemma => kernel_rfl) ?_ | refine updPN (by assumption) 13 rfl (by as_aux_lemma => kernel_rfl) ?_ | refine updPN (by assumption) 14 rfl (by as_aux_lemma => kernel_rfl) ?_ | refine updPN (by assumption) 15 rfl (by as_aux_lemma => kernel_rfl) ?_ | refine updPN (by assumption) 16 rfl (by as_aux_lemma => kernel_rfl) ?_ | refine updPN (by assumption) 17 rfl (by as_aux_lemma => kernel_rfl) ?_ | refine updPN (by assumption) 18 rfl (by as_aux_lemma => kernel_rfl) ?_ | refine updPN (by assumption) 19 rfl (by as_aux_lemma => kernel_rfl) ?_ | refine updPN (by assumption) 20 rfl (by as_aux_lemma => kernel_rfl) ?_ | refine updPN (by assumption) 21 rfl (by as_aux_lemma => kernel_rfl) ?_ | refine updPN (by assumption) 22 rfl (by as_aux_lemma => kernel_rfl) ?_ | refine updPN (by assumption) 23 rfl (by as_aux_lemma => kernel_rfl) ?_ | refine updPN (by assumption) 24 rfl (by as_aux_lemma => kernel_rfl) ?_ | refine updPN (by assumption) 25 rfl (by as_aux_lemma => kernel_rfl) ?_ | refine updPN (by assumption) 26 rfl (by as_aux_lemma => kernel_rfl) ?_ | refine updPN (by assumption) 27 rfl (by as_aux_lemma => kernel_rfl) ?_ | refine updPN (by assumption) 28 rfl (by as_aux_lemma => kernel_rfl) ?_ | refine updPN (by assumption) 29 rfl (by as_aux_lemma => kernel_rfl) ?_); intro hZ DZ; (try simp only [List.set_cons_zero, List.set_cons_succ] at DZ); (try dsimp only [Obj.mapCls, Obj.mapDict, Obj.mapDictKeys, Obj.mapFields, Obj.mapSeq] at DZ); (revert hZ; intro _ _)) | (with_reducible refine iteF (by assumption) ?_) | (with_reducible refine iteT (by assumption) ?_) | ((with_reducible refine iteF ?_ ?_); (focus (as_aux_lemma => kernel_rfl))) | ((with_reducible refine iteT ?_ ?_); (focus (as_aux_lemma => kernel_rfl))) | ((with_reducible refine wpAny_ite_false ?_ ?_); (focus (as_aux_lemma => kernel_rfl))) | ((with_reducible refine wpAny_ite_true ?_ ?_); (focus (as_aux_lemma => kernel_rfl))) | wp_delta | (with_reducible_and_instances refine wpAny_pure ?_) | (with_reducible dsimp only)))
  k_with "w1" => (((fail_if_success (with_reducible show wpAny _ _ (run _ _) _ _ _)); (fail_if_success (with_reducible show wpAny _ _ (enterFrame _) _ _ _)); (fail_if_success (with_reducible show wpAny _ _ (collect _) _ _ _)); (fail_if_success (with_reducible show wpAny _ _ (Sem.tryCatch _ _) _ _ _)); (fail_if_success (with_reducible show wpAny _ _ (tryCatch _ _) _ _ _)); (fail_if_success (with_reducible show wpAny _ _ (call _ _ _) _ _ _)); (fail_if_success (with_reducible show wpAny _ _ (runValue _) _ _ _)); first | ((fail_if_success (with_reducible show wpAny _ _ _ _ _ _)); with_reducible apply_assumption) | ((with_reducible refine bindV ?_); intro _ _) | k_extra "s" | ((with_reducible_and_instances refine bindV ?_); intro _ _)))
  k_with "w" => ((repeat k_extra "w1"))
  k_with "w2" => ((repeat ((fail_if_success (with_reducible show wpAny _ _ (storeName _ _ _) _ _ _)); k_extra "w1")))
  w_top off
  first | walk1 | trivial
-- KY
section
open PySem PySem.W PySem.W.X PyProof.Rows PySem.Calls
set_option Elab.async false
set_option maxRecDepth 100000
namespace Mine
open Hd (KK)
theorem metaO : ((Manifest.find? "object").elim "type" fun x => x.metatype) = "type" := by kernel_rfl
theorem metaT : ((Manifest.find? "type").elim "type" fun x => x.metatype) = "type" := by kernel_rfl
theorem tl_yg : typeLookup (.type "type") (Str.ofString "__getattribute__") = pure (some (.builtin "type.__getattribute__")) := by rw [typeLookup_type, builtinLookup_eq_fast]; kernel_rfl
theorem tl_dg : typeLookup (.type "dict") (Str.ofString "__getitem__") = pure (some (.builtin "dict.__getitem__")) := by rw [typeLookup_type, builtinLookup_eq_fast]; kernel_rfl
theorem slot_yg : Slot "type" (Str.ofString "__getattribute__") "type.__getattribute__" :=
  .of tl_yg (owner := "type") (n := "__getattribute__") (by decide +kernel) (by decide +kernel) (by decide +kernel) (.inl (by decide +kernel)) (by rw [isSubtype_type]; kernel_rfl)
theorem cls_go {prog : Program} {w : World} {h h6 : Heap} {g : Array GenState} {d : Drawn} {t : Nat} {os : OsState} {bT a2 f1 f2 f3 f4 f5 f6 sL sT : Addr} {tn t0 t1 t2 t3 t4 t5 t6 t7 t8 t9 ta tb tc td te tf ts : Tok} {nn : Nat} {o1 o2 : Obj} {Q E : Value → Shared → Prop} {kw : List (Str × Value)}
   {e1 e2 e3 e4 e5 e6 : Option Addr} {x1 x2 x3 x4 x5 x6 : Data} {y1 y2 y3 y4 y5 y6 : Array (Option Value)}
   (D : Mm h h6 [(a2, o1)] [(sT, o2)]) (q1 : o1 = ⟨.type "dict", none, .dict (clsEs w.params t0 t1 t2 t3 t4 t5 t6 t7 t8 t9 ta tb tc td te sL f1 f2 f3 f4 f5 f6 sT) (nn + 1), #[]⟩)
   (q2 : o2 = ⟨.type "tuple", none, .seq #[.str (Str.ofString "obj") ts] 0, #[]⟩) (qk : kw = [])
   (b3 : h.get? bT = some ⟨.type "tuple", none, .seq #[.type "object"] 0, #[]⟩) (b5 : bT ≠ a2) (hs1 : (a2 == sysModules) = false)
   (b8 : h.get? sL = some ⟨.type "list", none, .seq #[.str (Str.ofString "obj") tf] 0, #[]⟩) (b10 : sL ≠ a2) (b6 : ∃ es n, h.get? a2 = some ⟨.type "dict", none, .dict es n, #[]⟩)
   (hf1 : h.get? f1 = some ⟨.type "function", e1, x1, y1⟩) (hf2 : h.get? f2 = some ⟨.type "function", e2, x2, y2⟩) (hf3 : h.get? f3 = some ⟨.type "function", e3, x3, y3⟩)
   (hf4 : h.get? f4 = some ⟨.type "function", e4, x4, y4⟩) (hf5 : h.get? f5 = some ⟨.type "function", e5, x5, y5⟩) (hf6 : h.get? f6 = some ⟨.type "function", e6, x6, y6⟩)
   (h2 : h.get? cStatics = some ⟨.none, none, .dict #[] 0, #[]⟩)
   (hQ : ∀ mm C ns h', (∀ b o, b ≠ a2 → h.get? b = some o → h'.get? b = some o) → h.get? C = none → h.get? ns = none → h.get? mm = none → h'.get? mm = some (memObj C t) → h'.get? C = some (clsObj bT C ns tn t3) →
     h'.get? ns = some ⟨.type "dict", none, .dict (madeEs w.params t0 t1 t4 t5 t6 t7 t8 t9 ta tb tc td te (t + 1) (t + 1 + 1) sL f1 f2 f3 f4 f5 f6 sT mm) 3, #[]⟩ → Q (.ref C) ⟨h', g, d, t + 1 + 1 + 1 + 1, os⟩) :
   wpAny (model prog w) WB (call (.type "type") [.str (Str.ofString "K") tn, .ref bT, .ref a2] kw) Q E ⟨h6, g, d, t, os⟩ := by
  subst q1 q2 qk
  obtain ⟨es, n, b6⟩ := b6
  have k : ∀ b o, b ≠ a2 → h.get? b = some o → h6.get? b = some o := fun b o n e => D.keep b o e fun p hp e' => n (by rw [List.mem_singleton.mp hp] at e'; exact e'.symm)
  have nf : ∀ b d x y, h.get? b = some ⟨.type "function", d, x, y⟩ → b ≠ a2 := fun b d x y e e' => by rw [e', b6] at e; exact absurd (congrArg Obj.cls (Option.some.inj e)) (by simp)
  have n2 : cStatics ≠ a2 := fun e' => by rw [e', b6] at h2; exact absurd (congrArg Obj.cls (Option.some.inj h2)) (by simp)
  have nw := D.nw _ (.head _)
  refine weaker (A' := { WA with depth := 590, units := 290 }) rfl (Nat.le_of_ble_eq_true rfl) (Nat.le_of_ble_eq_true rfl) rfl rfl (type_call (k _ _ b5 b3) (D.ch _ (.head _)).1 hs1 (k _ _ b10 b8) (k _ _ (nf _ _ _ _ hf1) hf1) (k _ _ (nf _ _ _ _ hf2) hf2) (k _ _ (nf _ _ _ _ hf3) hf3) (k _ _ (nf _ _ _ _ hf4) hf4) (k _ _ (nf _ _ _ _ hf5) hf5) (k _ _ (nf _ _ _ _ hf6) hf6) nw.1 (k _ _ n2 h2) ?_)
  intro mm C ns h' k0 k1 k2 k3 k4 k5 k6
  exact hQ mm C ns h' (fun b o n e => k0 _ _ (k b o n e)) (D.new0 k2) (D.new0 k3) (D.new0 k1) k4 k5 k6
set_option maxHeartbeats 2500000 in
theorem ck_class {prog : Program} {w : World} {h : Heap} {g : Array GenState} {d : Drawn} {t : Nat} {os : OsState} {L : Addr} {Q : Flow → Shared → Prop} {E : Value → Shared → Prop} {mg : Str → Option Value}
   (X : (KK w.params).In h) (hT : h.get? 135 = some (tabObj #[])) (hL : h.Ns L (fun _ => none))
   (hg : h.Ns mainGlobals mg) (hb : ∃ bm ob, mg "__builtins__" = some (.ref bm) ∧ bm ≠ builtinsNs ∧ h.get? bm = some ob ∧ ob.cls = .type "module" ∧ ob.dict = some builtinsNs ∧ ob.data = .plain)
   (hQ : ∀ h' tk c1 C ns mm f1 f2 k3 k4 u3 v3 u4 v4 bT tn t3 tm t0 t1 t4 t5 t6 t7 t8 t9 ta tb tc td te tf tg sL f3 f4 f5 f6 sT, (∀ b o, b ≠ 135 → b ≠ L → h.get? b = some o → h'.get? b = some o) → h'.get? 135 = some (tabObj #[rawInt 85, rawInt 4, .ref c1]) →
     h'.Ns L (fun x => if x = Str.ofString "K" then some (.ref C) else none) → h'.get? C = some (clsObj bT C ns tn t3) →
     h'.get? ns = some ⟨.type "dict", none, .dict (madeEs w.params t0 t1 t4 t5 t6 t7 t8 t9 ta tb tc td te tf tg sL f1 f2 f3 f4 f5 f6 sT mm) 3, #[]⟩ → h'.get? mm = some (memObj C tm) →
     h'.get? f1 = some (kF3 L mg u3 k3 v3) → h'.CodeRec (.ref k3) (Str.ofString "cmp_to_key.<locals>.K.__init__") → h'.get? f2 = some (kF4 L mg u4 k4 v4) → h'.CodeRec (.ref k4) (Str.ofString "cmp_to_key.<locals>.K.__lt__") →
     (h.get? C = none ∧ h.get? ns = none ∧ h.get? mm = none ∧ h.get? f1 = none ∧ h.get? k3 = none ∧ h.get? f2 = none ∧ h.get? k4 = none) → Q .next ⟨h', g, d, tk, os⟩) :
   wpAny (model prog w) WB (exec ckC (ckE L)) Q E ⟨h, g, d, t, os⟩ := by
  have D := Mm.start h
  have x3 := X 3 _ rfl
  have x0 := X 0 _ rfl
  have x2 := X 2 _ rfl
  have x4 := X 4 _ rfl
  have x139 := X 139 _ rfl
  obtain ⟨o1, x1⟩ : ∃ o, h.get? 1 = some o := ⟨_, X 1 _ rfl⟩
  delta ckC
  rw [arm_exec_ClassDef]
  have e3 := st_yy
  have e4 := it_o
  have e5 := ty_o
  k_extra "w"
  rw [metaT]
  have e6 := tl_yg
  have e7 := slot_yg.bind (.type "type")
  k_extra "w"
  show wpAny _ _ (call (.builtin "type.__getattribute__") [.type "type", .str _ _]) _ _ _
  refine prep_attr (Mm.keep (by assumption) _ _ x2 (by k_extra "off")) fun a1 h1 M1 => ?_
  have D2 := Mm.join (by assumption) M1
  have y2 := memAll M1 _ _ (Mm.keep (by assumption) _ _ x2 (by k_extra "off"))
  k_extra "w"
  show wpAny _ _ (call (.ref a1) [.str _ _, .ref _]) _ _ _
  refine prep_call y2 (M1.at 0 _ _ rfl) fun a2 h2 M2 => ?_
  have D3 := Mm.join D2 M2
  clear D2 M1 M2 y2
  have hs1 : (a2 == sysModules) = false := by
    have z := (D3.nw _ (.head _)).2
    refine Bool.eq_false_iff.mpr fun e => ?_
    rw [beq_iff_eq.mp e] at z
    exact absurd (x1.symm.trans z) (by simp)
  have e8 := tl_dg
  k_extra "w"
  rw [show Scope.freeNames _ = [Str.ofString "mycmp"] from by kernel_rfl]
  k_extra "w"
  refine wpAny_enterFrame (noLimit2 (Mm.keep (by assumption) _ _ x2 (by k_extra "off"))) (by decide +kernel) ?_
  k_extra "w"
  refine body_go (L := L) (t := t) (t0 := t + 8) (t2 := t + 10) (t3 := t + 9) (t4 := t + 12) (t5 := t + 11) (by assumption) (by as_aux_lemma => kernel_rfl) (by as_aux_lemma => kernel_rfl) (by as_aux_lemma => kernel_rfl) (by as_aux_lemma => kernel_rfl) (by as_aux_lemma => kernel_rfl) (by as_aux_lemma => kernel_rfl) hg hb hT ?_
  intro h5 tk5 nn t0 t1 t2 t3 t4 t5 t6 t7 t8 t9 ta tb tc td tf sL f1 f2 f3 f4 f5 f6 k3 k4 k5 k6 k7 k8 u3 v3 u4 v4 u5 v5 u6 v6 u7 v7 u8 v8 b1 b2 b3 b4 b5 b6 b7 b8 b9 b10 z3 z4 z5 z6 z7 z8
  have x25 : h5.get? 2 = _ := b1 2 _ (by decide) x2
  have pk := And.intro b1 (And.intro b2 (And.intro b3 (And.intro b4 (And.intro b5 (And.intro b7 (And.intro b8 (And.intro b9 (And.intro b10 (And.intro z3 (And.intro z4 (And.intro z5 (And.intro z6 (And.intro z7 z8)))))))))))))
  have pn := And.intro (And.intro x1 x2) hs1
  clear x3 x0 x4 x139 X hg hb b1 b2 b3 b4 b5 b7 b8 b9 b10 z3 z4 z5 z6 z7 z8 hs1 x1 x2
  have D5 := Mm.start h5
  have qsav := And.intro b6 True.intro
  k_extra "w"
  clear b6
  obtain ⟨b6, -⟩ := qsav
  obtain ⟨b1, b2, b3, b4, b5, b7, b8, b9, b10, z3, z4, z5, z6, z7, z8⟩ := pk
  obtain ⟨⟨x1, x2⟩, hs1⟩ := pn
  refine cls_go (h := h5) (t0 := t0) (t1 := t1) (t2 := t2) (t3 := t3) (t4 := t4) (t5 := t5) (t6 := t6) (t7 := t7) (t8 := t8) (t9 := t9) (ta := ta) (tb := tb) (tc := tc) (td := td) (te := tk5 + 1) (tf := tf) (ts := tk5) (nn := nn) (sL := sL) (f1 := f1) (f2 := f2) (f3 := f3) (f4 := f4) (f5 := f5) (f6 := f6) (by assumption) (by as_aux_lemma => kernel_rfl) (by as_aux_lemma => kernel_rfl) (by as_aux_lemma => kernel_rfl) b3 b5 hs1 b8 b10 ⟨_, _, b6⟩ z3.1 z4.1 z5.1 z6.1 z7.1 z8.1 x25 ?_
  intro mm C ns h7 q1 q2 q3 q4 q5 q6 q7
  have pk := And.intro b1 (And.intro b2 (And.intro b3 (And.intro b4 (And.intro b5 (And.intro b7 (And.intro b8 (And.intro b9 (And.intro b10 (And.intro z3 (And.intro z4 (And.intro z5 (And.intro z6 (And.intro z7 z8)))))))))))))
  have pn := And.intro (And.intro x1 x2) hs1
  have pq := And.intro q1 (And.intro q2 (And.intro q3 (And.intro q4 (And.intro q5 (And.intro q6 q7)))))
  clear b1 b2 b3 b4 b5 b7 b8 b9 b10 z3 z4 z5 z6 z7 z8 hs1 x1 x2 q1 q2 q3 q4 q5 q6 q7
  have D7 := Mm.start h7
  k_extra "w2"
  clear D7
  obtain ⟨b1, b2, b3, b4, b5, b7, b8, b9, b10, z3, z4, z5, z6, z7, z8⟩ := pk
  obtain ⟨⟨x1, x2⟩, hs1⟩ := pn
  obtain ⟨q1, q2, q3, q4, q5, q6, q7⟩ := pq
  have nn1 : ∀ b o, h5.get? b = some o → o.cls ≠ .type "dict" → b ≠ a2 := fun b o e n e' => by rw [e', b6] at e; exact n (congrArg Obj.cls (Option.some.inj e)).symm
  have nL : ∀ b, h.get? b = none → b ≠ L := fun b e e' => by
    obtain ⟨o, es, n, ho, -⟩ := hL
    rw [e', ho] at e; cases e
  have nL5 : ∀ b, h5.get? b = none → b ≠ L := fun b e => nL b (by
    rcases hq : h.get? b with _ | o
    · rfl
    · by_cases e1 : b = 135
      · rw [e1, b2] at e; cases e
      · rw [b1 b o e1 hq] at e; cases e)
  have nL135 : L ≠ 135 := fun e => by
    obtain ⟨o, es, n, ho, hd, -⟩ := hL
    rw [e, hT] at ho; cases ho; cases hd
  have n135 : (135 : Nat) ≠ a2 := fun e => by rw [← e, hT] at b7; cases b7
  have hL7 : h7.Ns L (fun _ => none) := hL.at' fun o e => q1 L o (fun e' => by rw [e'] at e; rw [e] at b7; cases b7) (b1 L o nL135 e)
  have sL7 : ∀ b o, b ≠ a2 → h5.get? b = some o → h7.get? b = some o := q1
  refine wpAny_storeName_local (m := fun _ => none) rfl hL7 fun h8 hn8 hs8 => ?_
  have s8 : ∀ b o, b ≠ L → h7.get? b = some o → h8.get? b = some o := fun b o n e => (hs8.2 b n).trans e
  have old : ∀ b o, b ≠ 135 → b ≠ L → h.get? b = some o → h8.get? b = some o := fun b o n n' e => s8 b o n' (q1 b o (fun e' => by rw [e', b7] at e; cases e) (b1 b o n e))
  have f13 := s8 _ _ (nL _ z3.2.2.1) (q1 _ _ (nn1 _ _ z3.1 (fun e => by exact absurd e (by simp [kF3, fnMade]))) z3.1)
  have f14 := s8 _ _ (nL _ z4.2.2.1) (q1 _ _ (nn1 _ _ z4.1 (fun e => by exact absurd e (by simp [kF4, fnMade]))) z4.1)
  have rec8 : ∀ k q, h5.CodeRec (.ref k) q → h.get? k = none → h8.CodeRec (.ref k) q := fun k q hr hn => hr.at fun o ho => s8 _ _ (nL _ hn) (q1 _ _ (fun e => by
    obtain ⟨c, o', vs, tt, e1, e2, e3, -⟩ := hr
    cases e1
    rw [e, b6] at e2
    cases e2
    cases e3) ho)
  have n0 : ∀ b, h5.get? b = none → h.get? b = none := fun b e => by
    rcases hq : h.get? b with _ | o
    · rfl
    · by_cases e1 : b = 135
      · rw [e1, b2] at e; cases e
      · rw [b1 b o e1 hq] at e; cases e
  have goalQ := fun tk => hQ h8 tk _ _ _ _ _ _ _ _ _ _ _ _ _ _ _ _ _ _ _ _ _ _ _ _ _ _ _ _ _ _ _ _ _ _ _ _ _ old (s8 _ _ (Ne.symm nL135) (q1 _ _ n135 b2)) hn8 (s8 _ _ (nL5 _ q2) q6) (s8 _ _ (nL5 _ q3) q7) (s8 _ _ (nL5 _ q4) q5) f13 (rec8 _ _ z3.2.1 z3.2.2.2) f14 (rec8 _ _ z4.2.1 z4.2.2.2) ⟨n0 _ q2, n0 _ q3, n0 _ q4, z3.2.2.1, z3.2.2.2, z4.2.2.1, z4.2.2.2⟩
  clear old f13 f14 rec8 n0 s8 q1 q2 q3 q4 q5 q6 q7 b1 b2 b3 b4 b5 b7 b8 b9 b10 z3 z4 z5 z6 z7 z8 hs1 x1 x2 nn1 nL nL5 nL135 n135 hL7 sL7 hn8 hs8 hQ
  have D8 := Mm.start h8
  k_extra "w2"
end Mine
end
theorem Mine.freshK140 : True := by k_with_none; w_top off; first | walk1 | trivial
-- K140
section
open PySem PySem.W PySem.W.X PyProof.Rows PySem.Calls
set_option Elab.async false
set_option maxRecDepth 100000
namespace Mine
open Hd (KK)
noncomputable def ckRp : Pos := by
  refine (?f : ckR = .Return (some (.Name ?x ?q)) ?p → Pos) ?h
  case h => exact rfl
  case f => exact fun _ => ?p
noncomputable def ckRq : Pos := by
  refine (?f : ckR = .Return (some (.Name ?x ?q)) ?p → Pos) ?h
  case h => exact rfl
  case f => exact fun _ => ?q
theorem ck_ret {M : Model} {A : Around} {s : Shared} {L : Addr} {v : Value} {Q : Flow → Shared → Prop} {E : Value → Shared → Prop} {m : Str → Option Value} (hn : s.heap.Ns L m) (hv : m (Str.ofString "K") = some v) (h : Q (.ret v) s) :
   wpAny M A (execs [ckR] (ckE L)) Q E s := by
  rw [execs_cons]
  refine wpAny_bind ?_
  show wpAny M A (exec (.Return (some (.Name (Str.ofString "K") ckRq)) ckRp) (ckE L)) _ E s
  rw [exec_Return_some]
  refine wpAny_bind (wpAny_standAt (wpAny_bind ?_))
  refine wpAny_Name ?_ (by decide +kernel)
  exact wpAny_loadName_local rfl rfl hn hv (wpAny_pure (wpAny_pure h))
theorem c140 {prog : Program} {w : World} {A : Around} {h : Heap} {g : Array GenState} {d : Drawn} {t : Nat} {os : OsState} {lam : Addr} {Q E : Value → Shared → Prop} {mg : Str → Option Value} (hroom : A.depth < recursionLimit)
   (a1 : ∀ e, (A.deeper e).handled = none) (a2 : ∀ e, (A.deeper e).depth ≤ 580) (a3 : ∀ e, (A.deeper e).units ≤ 280)
   (X : (KK w.params).In h) (hNL : h.NoLimit) (hT : h.get? 135 = some (tabObj #[]))
   (hg : h.Ns mainGlobals mg) (hb : ∃ bm ob, mg "__builtins__" = some (.ref bm) ∧ bm ≠ builtinsNs ∧ h.get? bm = some ob ∧ ob.cls = .type "module" ∧ ob.dict = some builtinsNs ∧ ob.data = .plain)
   (hQ : ∀ h' tk c1 C ns mm f1 f2 k3 k4 u3 v3 u4 v4 bT tn t3 tm t0 t1 t4 t5 t6 t7 t8 t9 ta tb tc td te tf tg sL f3 f4 f5 f6 sT oc, (∀ b o, b ≠ 135 → h.get? b = some o → h'.get? b = some o) → h'.get? 135 = some (tabObj #[rawInt 85, rawInt 4, .ref c1]) →
     (h'.get? (h.objs.size + 1) = some oc ∧ oc.data = .cell (some (.ref lam))) → h'.get? C = some (clsObj bT C ns tn t3) →
     h'.get? ns = some ⟨.type "dict", none, .dict (madeEs w.params t0 t1 t4 t5 t6 t7 t8 t9 ta tb tc td te tf tg sL f1 f2 f3 f4 f5 f6 sT mm) 3, #[]⟩ → h'.get? mm = some (memObj C tm) →
     h'.get? f1 = some (kF3 h.objs.size mg u3 k3 v3) → h'.CodeRec (.ref k3) (Str.ofString "cmp_to_key.<locals>.K.__init__") → h'.get? f2 = some (kF4 h.objs.size mg u4 k4 v4) → h'.CodeRec (.ref k4) (Str.ofString "cmp_to_key.<locals>.K.__lt__") →
     (h.get? C = none ∧ h.get? ns = none ∧ h.get? mm = none ∧ h.get? f1 = none ∧ h.get? k3 = none ∧ h.get? f2 = none ∧ h.get? k4 = none) → Q (.ref C) ⟨h', g, d, tk, os⟩) :
   wpAny (model prog w) A (call (.ref 140) [.ref lam]) Q E ⟨h, g, d, t, os⟩ := by
  refine ck_enter hroom X hNL fun h₁ tk oc hn hc hd k1 E' => ?_
  have hg1 := hg.keeps k1
  obtain ⟨bm, ob, b1, b2, b3, b4, b5, b6⟩ := hb
  refine seq_raw (weaker (A' := WB) (a1 _) (a2 _) (a3 _) rfl rfl (ck_class (X.keeps k1) (k1 _ _ hT) hn hg1 ⟨bm, ob, b1, b2, k1 _ _ b3, b4, b5, b6⟩ ?_))
  intro h' tk c1 C ns mm f1 f2 k3 k4 u3 v3 u4 v4 bT tn t3 tm t0 t1 t4 t5 t6 t7 t8 t9 ta tb tc td te tf tg sL f3 f4 f5 f6 sT old h135 hns hC hN hM hf1 r1 hf2 r2 fr
  refine ⟨rfl, ck_ret hns (if_pos rfl) ?_⟩
  have nL : ∀ b o, h.get? b = some o → b ≠ h.objs.size := fun b o e e' => by
    have z := Heap.lt_size e
    rw [e'] at z
    exact Nat.lt_irrefl _ z
  have n0 : ∀ b, h₁.get? b = none → h.get? b = none := fun b e => by
    rcases hq : h.get? b with _ | o
    · rfl
    · rw [k1 b o hq] at e; cases e
  have n135 : h.objs.size + 1 ≠ 135 := fun e => by
    have z := Heap.lt_size hT
    have z2 : h.objs.size < h.objs.size + 1 := Nat.lt_succ_self _
    rw [e] at z2
    exact Nat.lt_irrefl _ (Nat.lt_trans z z2)
  exact hQ h' tk c1 C ns mm f1 f2 k3 k4 u3 v3 u4 v4 bT tn t3 tm t0 t1 t4 t5 t6 t7 t8 t9 ta tb tc td te tf tg sL f3 f4 f5 f6 sT oc (fun b o n e => old b o n (nL b o e) (k1 b o e)) h135 ⟨old _ _ n135 (Nat.succ_ne_self _) hc, hd⟩ hC hN hM hf1 r1 hf2 r2
    ⟨n0 _ fr.1, n0 _ fr.2.1, n0 _ fr.2.2.1, n0 _ fr.2.2.2.1, n0 _ fr.2.2.2.2.1, n0 _ fr.2.2.2.2.2.1, n0 _ fr.2.2.2.2.2.2⟩
end Mine
end
theorem Mine.freshLS7 : True := by k_with_none; w_top off; first | walk1 | trivial
-- LS7
section
open PySem PySem.W PyProof.Rows PySem.Calls
set_option Elab.async false
set_option maxRecDepth 100000
set_option linter.unusedVariables false
namespace Mine
open Hd (KK)
open PySem.SeqAt
noncomputable def la7 : Arguments := by
  refine (?f : st7 = .Assign ?ts (.Call ?fn [.Lambda ?ps ?bd ?sc ?pp] ?kw ?cp) ?pos → Arguments) ?h
  case h => exact rfl
  case f => exact fun _ => ?ps
noncomputable def lb7 : Expr := by
  refine (?f : st7 = .Assign ?ts (.Call ?fn [.Lambda ?ps ?bd ?sc ?pp] ?kw ?cp) ?pos → Expr) ?h
  case h => exact rfl
  case f => exact fun _ => ?bd
noncomputable def lc7 : Scope := by
  refine (?f : st7 = .Assign ?ts (.Call ?fn [.Lambda ?ps ?bd ?sc ?pp] ?kw ?cp) ?pos → Scope) ?h
  case h => exact rfl
  case f => exact fun _ => ?sc
noncomputable def lp7 : Pos := by
  refine (?f : st7 = .Assign ?ts (.Call ?fn [.Lambda ?ps ?bd ?sc ?pp] ?kw ?cp) ?pos → Pos) ?h
  case h => exact rfl
  case f => exact fun _ => ?pp
theorem clos7 (L fa : Addr) : closureFor lc7 (lawE L fa) = pure [(Str.ofString "spelled", L + 1 + 1 + 1)] := by with_unfolding_all rfl
/-- the class K and the lambda stand in a ledger -/
def RecD (D : List (Addr × Obj)) (k : Addr) (q : Str) : Prop := ∃ o vs t, (k, o) ∈ D ∧ o.data = .fields vs ∧ vs[1]? = some (.str q t)
noncomputable abbrev lamO (L fa c2 : Addr) (mg : Str → Option Value) (ctv : Value) : Obj := kla_obj "<lambda>" ((lawE L fa).qual ++ "<lambda>") la7 lb7 lc7 [(Str.ofString "spelled", L + 1 + 1 + 1)] ((mg "__name__").getD .none) c2 ctv
structure KLed (P : Params) (L fa : Addr) (mg : Str → Option Value) (D : List (Addr × Obj)) (C ns mm f1 f2 k3 k4 Lc f c2 bT : Addr) (oc : Obj) (es : Array DictEntry) (tn t3 tm : Tok) (u3 v3 u4 v4 ctv : Value) : Prop where
  c : (C, clsObj bT C ns tn t3) ∈ D
  n : (ns, ⟨.type "dict", none, .dict es 3, #[]⟩) ∈ D
  e : ∃ t0 t1 t4 t5 t6 t7 t8 t9 ta tb tc td te tf tg sL f3 f4 f5 f6 sT, es = madeEs P t0 t1 t4 t5 t6 t7 t8 t9 ta tb tc td te tf tg sL f1 f2 f3 f4 f5 f6 sT mm
  m : (mm, memObj C tm) ∈ D
  i : (f1, kF3 Lc mg u3 k3 v3) ∈ D
  ir : RecD D k3 (Str.ofString "cmp_to_key.<locals>.K.__init__")
  l : (f2, kF4 Lc mg u4 k4 v4) ∈ D
  lr : RecD D k4 (Str.ofString "cmp_to_key.<locals>.K.__lt__")
  x : (Lc + 1, oc) ∈ D
  xd : oc.data = .cell (some (.ref f))
  f : (f, lamO L fa c2 mg ctv) ∈ D
  fr : RecD D c2 (Str.ofString "law.<locals>." ++ Str.ofString "<lambda>")
theorem recD_of {h₀ h : Heap} {L k : Addr} {D : List (Addr × Obj)} {q : Str} (N : News h₀ L h D) (r : RecD D k q) : h.CodeRec (.ref k) q := by
  obtain ⟨o, vs, t, h1, h2, h3⟩ := r
  exact codeRec_news N h1 h2 h3
theorem RecD.mono {D D' : List (Addr × Obj)} {k : Addr} {q : Str} (r : RecD D k q) (sub : ∀ p ∈ D, p ∈ D') : RecD D' k q := by
  obtain ⟨o, vs, t, h1, h2⟩ := r
  exact ⟨o, vs, t, sub _ h1, h2⟩
theorem KLed.mono {P L fa mg D D' C ns mm f1 f2 k3 k4 Lc f c2 bT oc es tn t3 tm u3 v3 u4 v4 ctv} (k : KLed P L fa mg D C ns mm f1 f2 k3 k4 Lc f c2 bT oc es tn t3 tm u3 v3 u4 v4 ctv) (sub : ∀ p ∈ D, p ∈ D') : KLed P L fa mg D' C ns mm f1 f2 k3 k4 Lc f c2 bT oc es tn t3 tm u3 v3 u4 v4 ctv :=
  ⟨sub _ k.c, sub _ k.n, k.e, sub _ k.m, sub _ k.i, k.ir.mono sub, sub _ k.l, k.lr.mono sub, sub _ k.x, k.xd, sub _ k.f, k.fr.mono sub⟩
/-- the table of 139 is changed, all else stands -/
theorem five_135 {h₀ h h' : Heap} {L : Addr} {m : Str → Option Value} {oS oD oP : Obj} {t1 t1' t2 : Array Value} {D : List (Addr × Obj)} (F : Fr h₀ L h m) (N : News h₀ L h (Five L oS oD oP t1 t2 D)) (hL : @LT.lt Nat instLTNat 168 L) (OD : Off5 L D)
    (old : ∀ b o, b ≠ 135 → h.get? b = some o → h'.get? b = some o) (h135 : h'.get? 135 = some (tabObj t1')) :
    Fr h₀ L h' m ∧ News h₀ L h' (Five L oS oD oP t1' t2 D) ∧ ∀ a o, h.get? a = none → h'.get? a = some o → (h'.get? a = some o ∧ a ≠ L ∧ h₀.get? a = none) ∧ Off5 L [(a, o)] := by
  have n135 := N (135, tabObj t1) (by simp [Five])
  refine ⟨⟨?_, fun b o e => old b o (fun q => by rw [q, n135.2.2] at e; cases e) (F.keep b o e), F.above⟩, ?_, ?_⟩
  · exact F.ns.at' fun o e => old L o (Ne.symm n135.2.1) e
  · intro q hq
    rcases five_or hq with rfl | rfl | rfl | rfl | rfl | hq'
    · have z := N (L + 1 + 1 + 1, oS) (by simp [Five])
      exact ⟨old _ _ (by omega : @Ne Nat (L + 1 + 1 + 1) 135) z.1, z.2⟩
    · have z := N (L + 1 + 1, oD) (by simp [Five])
      exact ⟨old _ _ (by omega : @Ne Nat (L + 1 + 1) 135) z.1, z.2⟩
    · have z := N (L + 1, oP) (by simp [Five])
      exact ⟨old _ _ (by omega : @Ne Nat (L + 1) 135) z.1, z.2⟩
    · exact ⟨h135, n135.2⟩
    · have z := N (168, tabObj t2) (by simp [Five])
      exact ⟨old _ _ (by decide : @Ne Nat 168 135) z.1, z.2⟩
    · have z := N q (by simp [Five, hq'])
      exact ⟨old _ _ (OD q hq' 135 (by simp)) z.1, z.2⟩
  · intro a o e e'
    refine ⟨⟨e', fun q => ?_, ?_⟩, ?_⟩
    · obtain ⟨o', es, n, ho, -⟩ := F.ns
      rw [q, ho] at e; cases e
    · rcases hq : h₀.get? a with _ | o'
      · rfl
      · rw [F.keep _ _ hq] at e; cases e
    · intro q hq b hb eq
      rw [List.mem_singleton.mp hq] at eq
      have eq' : a = b := eq
      subst eq'
      have : ∃ o', h.get? a = some o' := by
        simp only [List.mem_cons, List.not_mem_nil, or_false] at hb
        rcases hb with rfl | rfl | rfl | rfl | rfl
        · exact ⟨_, (N (L + 1 + 1 + 1, oS) (by simp [Five])).1⟩
        · exact ⟨_, (N (L + 1 + 1, oD) (by simp [Five])).1⟩
        · exact ⟨_, (N (L + 1, oP) (by simp [Five])).1⟩
        · exact ⟨_, (N (135, tabObj t1) (by simp [Five])).1⟩
        · exact ⟨_, (N (168, tabObj t2) (by simp [Five])).1⟩
      obtain ⟨o', z⟩ := this
      rw [z] at e; cases e
theorem off_cons {a : Addr} {o : Obj} {D : List (Addr × Obj)} {L : Addr} (h1 : Off5 L [(a, o)]) (h2 : Off5 L D) : Off5 L ((a, o) :: D) := fun q hq b hb => by
  rcases List.mem_cons.mp hq with rfl | hq
  · exact h1 _ (List.mem_singleton.mpr rfl) b hb
  · exact h2 q hq b hb
theorem news_cons {h₀ h : Heap} {L a : Addr} {o oS oD oP : Obj} {t1 t2 : Array Value} {D : List (Addr × Obj)} (h1 : h.get? a = some o ∧ a ≠ L ∧ h₀.get? a = none) (N : News h₀ L h (Five L oS oD oP t1 t2 D)) : News h₀ L h (Five L oS oD oP t1 t2 ((a, o) :: D)) := by
  intro q hq
  rcases five_or hq with rfl | rfl | rfl | rfl | rfl | hq'
  · exact N (L + 1 + 1 + 1, oS) (by simp [Five])
  · exact N (L + 1 + 1, oD) (by simp [Five])
  · exact N (L + 1, oP) (by simp [Five])
  · exact N (135, tabObj t1) (by simp [Five])
  · exact N (168, tabObj t2) (by simp [Five])
  · rcases List.mem_cons.mp hq' with rfl | hq'
    · exact h1
    · exact N q (by simp [Five, hq'])
local macro_rules | `(tactic| walk_at "mem7") => `(tactic| (repeat (first | exact List.mem_cons_self | apply List.mem_cons_of_mem)))
local macro_rules | `(tactic| walk_at "call ref") => `(tactic| (k_here; (with_reducible show wpAny _ _ (call (Value.ref 140) _) _ _ _); refine stop_here ?_))
local macro_rules | `(tactic| walk_at "storeName") => `(tactic| (k_here; refine stop_here ?_))
local macro_rules | `(tactic| walk_at "eval Lambda") => `(tactic| (k_here; refine stop_here ?_))
set_option maxHeartbeats 8000000 in
theorem s7 {w : World} {p : Program} {loose : List Str} {mean : ExcName → Option Value} {mg mb : Str → Option Value} {h₀ : Heap} {L fa c' : Addr} {m : Str → Option Value} {s : Shared} {Q : Flow → Shared → Prop} {E : Value → Shared → Prop} {oS oD oP : Obj} {D : List (Addr × Obj)}
    (B : Below callerA h₀ [] h₀) (X : (KK w.params).In h₀) (T : Top p loose mean mg mb h₀) (C2 : CodeHd h₀ 170 168) (hL : @LT.lt Nat instLTNat 168 L) (OD : Off5 L D)
    (F : Fr h₀ L s.heap m) (N : News h₀ L s.heap (Five L oS oD oP #[] #[rawInt 143, rawInt 22, .ref c'] D))
    (hret : ∀ h' tk' (c1 : Addr) D' C ns mm f1 f2 k3 k4 Lc f c2 bT oc es tn t3 tm u3 v3 u4 v4 ctv, Fr h₀ L h' (fun y => if y = Str.ofString "order" then some (.ref C) else m y) → News h₀ L h' (Five L oS oD oP #[rawInt 85, rawInt 4, .ref c1] (#[rawInt 143, rawInt 22, .ref c'] ++ #[rawInt 151, rawInt 23, .ref c2]) D') →
      (∀ q ∈ D, q ∈ D') → Off5 L D' → KLed w.params L fa mg D' C ns mm f1 f2 k3 k4 Lc f c2 bT oc es tn t3 tm u3 v3 u4 v4 ctv → Q .next { s with heap := h', toks := tk' })
    : wpAny (model PySem.Challenge.rw_mr0202_01.row.prog w) (lawA L fa) (exec st7 (lawE L fa)) Q E s := by
  have N5 := N
  delta st7
  unfold Five at N
  revert X; k_fill; intro X
  k_steps
  show wpAny _ _ (eval (Expr.Lambda _ _ _ _) _) _ _ _
  clear N
  refine lam_new (own := [(L + 1 + 1 + 1, oS), (L + 1 + 1, oD), (L + 1, oP), (135, tabObj #[])]) (rest := D) (P := 168) (c := 170) F N5 T C2 rfl rfl trivial (by rfl) (clos7 L fa) rfl ?h1 ?h2 ?_
  case h1 => 
    intro q hq
    simp only [List.mem_cons, List.not_mem_nil, or_false] at hq
    rcases hq with rfl | rfl | rfl | rfl
    · exact (by omega : @Ne Nat (L + 1 + 1 + 1) 168)
    · exact (by omega : @Ne Nat (L + 1 + 1) 168)
    · exact (by omega : @Ne Nat (L + 1) 168)
    · exact (by decide : @Ne Nat 135 168)
  case h2 => exact fun q hq => OD q hq 168 (by simp)
  intro f c2 oc vs t ctv h8 tk8 F8 N8 d1 d2 g1 g2
  show wpAny _ _ _ _ _ _
  have N9 : News h₀ L h8 (Five L oS oD oP #[] (#[rawInt 143, rawInt 22, .ref c'] ++ #[rawInt 151, rawInt 23, .ref c2]) ((f, kla_obj "<lambda>" ((lawE L fa).qual ++ "<lambda>") la7 lb7 lc7 [(Str.ofString "spelled", L + 1 + 1 + 1)] ((mg "__name__").getD .none) c2 ctv) :: (c2, oc) :: D)) := N8
  clear N8
  have g1' := off5_new (o := oc) N5 g1
  have g2' := off5_new (o := lamO L fa c2 mg ctv) N5 g2
  k_steps
  show wpAny _ _ (call (Value.ref 140) _) _ _ _
  have b2 := T.bmain
  obtain ⟨bm, ob, b1, b2, b3, b4, b5, b6⟩ := b2
  refine c140 (mg := mg) (by decide +kernel : callerA.depth + 1 < recursionLimit) (fun _ => rfl) (fun _ => (by decide +kernel : callerA.depth + 1 + 1 ≤ 580)) (fun _ => (by decide +kernel : callerA.units + 3 + 3 ≤ 280)) (X.keeps F8.keep) (noLimit2 (F8.keep _ _ (X 2 _ rfl))) (N9 (135, tabObj #[]) (by simp [Five])).1 (T.g.keeps F8.keep) ⟨bm, ob, b1, b2, F8.keep _ _ b3, b4, b5, b6⟩ ?_
  intro h9 tk9 c1 C ns mm f1 f2 k3 k4 u3 v3 u4 v4 bT tn t3 tm t0 t1 t4 t5 t6 t7 t8 t9 ta tb tc td te tf tg sL f3 f4 f5 f6 sT ox old h135 hx hC hN hM hf1 r1 hf2 r2 fr
  obtain ⟨F9, N10, nw⟩ := five_135 F8 N9 hL (off_cons g2' (off_cons g1' OD)) old h135
  obtain ⟨_, o3, vs3, tt3, e3, r1, rd1, rv1⟩ := r1
  cases e3
  obtain ⟨_, o4, vs4, tt4, e4, r2, rd2, rv2⟩ := r2
  cases e4
  obtain ⟨w1, w2, w3, w4, w5, w6, w7⟩ := fr
  have w8 : h8.get? (h8.objs.size + 1) = none := Heap.get?_none_of_le (Nat.le_succ _)
  have m1 := nw _ _ w1 hC
  have m2 := nw _ _ w2 hN
  have m3 := nw _ _ w3 hM
  have m4 := nw _ _ w4 hf1
  have m5 := nw _ _ w5 r1
  have m6 := nw _ _ w6 hf2
  have m7 := nw _ _ w7 r2
  have m8 := nw _ _ w8 hx.1
  have N11 := news_cons m1.1 (news_cons m2.1 (news_cons m3.1 (news_cons m4.1 (news_cons m5.1 (news_cons m6.1 (news_cons m7.1 (news_cons m8.1 N10)))))))
  have O11 := off_cons m1.2 (off_cons m2.2 (off_cons m3.2 (off_cons m4.2 (off_cons m5.2 (off_cons m6.2 (off_cons m7.2 (off_cons m8.2 (off_cons g2' (off_cons g1' OD)))))))))
  show wpAny _ _ (storeName _ _ _) _ _ _
  refine storeX_L F9 N11 fun h10 F10 N12 => ?_
  refine hret h10 _ _ _ C ns mm f1 f2 k3 k4 h8.objs.size f c2 bT ox (madeEs w.params t0 t1 t4 t5 t6 t7 t8 t9 ta tb tc td te tf tg sL f1 f2 f3 f4 f5 f6 sT mm) tn t3 tm u3 v3 u4 v4 ctv F10 N12 (fun q hq => by simp [hq]) O11 ?_
  exact { c := by simp, n := by walk_at "mem7", e := ⟨_, _, _, _, _, _, _, _, _, _, _, _, _, _, _, _, _, _, _, _, _, rfl⟩, m := by simp, i := by simp, ir := ⟨_, _, _, by walk_at "mem7", rd1, rv1⟩, l := by simp, lr := ⟨_, _, _, by walk_at "mem7", rd2, rv2⟩, x := by simp, xd := hx.2, f := by simp, fr := ⟨_, _, _, by walk_at "mem7", d1, d2⟩ }
end Mine
end
theorem Mine.freshKI : True := by k_with_none; w_top off; first | walk1 | trivial
-- KI
section
open PySem PySem.W PySem.W.X PyProof.Rows PySem.Calls
set_option Elab.async false
set_option maxRecDepth 100000
namespace Mine
open Hd (KK)
def instO (C : Addr) (vs : Array (Option Value)) : Obj := ⟨.ref C, none, .plain, vs⟩
def NewInst (h h' : Heap) (C a : Addr) (v : Value) : Prop := (∀ b o, h.get? b = some o → h'.get? b = some o) ∧ h.get? a = none ∧ ∃ dd, h'.get? a = some ⟨.ref C, some dd, .plain, #[some v]⟩
theorem newInst_of {h h' : Heap} {C a dd : Addr} {v : Value} {news : List (Addr × Obj)} {o : Obj} (D : Mem h h' [] news) (i : Nat) (hi : news[i]? = some (a, o)) (e : o = ⟨.ref C, some dd, .plain, #[some v]⟩) : NewInst h h' C a v :=
  ⟨memAll D, (D.nw _ (List.mem_of_getElem? hi)).2, dd, by rw [D.at i a o hi, e]⟩
local macro_rules | `(tactic| x_close) => `(tactic| (apply_assumption; first | exact newInst_of (by assumption) 0 rfl rfl | exact newInst_of (by assumption) 1 rfl rfl | exact newInst_of (by assumption) 2 rfl rfl | exact newInst_of (by assumption) 3 rfl rfl | exact newInst_of (by assumption) 4 rfl rfl | exact newInst_of (by assumption) 5 rfl rfl))
set_option maxHeartbeats 0 in
theorem inst_call {prog : Program} {w : World} {h : Heap} {g : Array GenState} {d : Drawn} {t : Nat} {os : OsState} {Q E : Value → Shared → Prop} {C bT ns mm f1 f2 f3 f4 f5 f6 sL sT : Addr} {tn t3 tm t0 t1 t4 t5 t6 t7 t8 t9 ta tb tc td te tf tg ti : Tok} {i : Int} {mg : Str → Option Value} {u3 v3 : Value} {k3 Lc : Addr} {c3 w0 : Value} {e3 : Option Addr} {ws : List Value} {y3 : Array (Option Value)} {tq : Tok}
   (X : (KK w.params).In h) (hC : h.get? C = some (clsObj bT C ns tn t3))
   (hN : h.get? ns = some ⟨.type "dict", none, .dict (madeEs w.params t0 t1 t4 t5 t6 t7 t8 t9 ta tb tc td te tf tg sL f1 f2 f3 f4 f5 f6 sT mm) 3, #[]⟩) (hM : h.get? mm = some (memObj C tm)) (hI : h.get? f1 = some (kF3 Lc mg u3 k3 v3))
   (r1 : h.get? k3 = some ⟨c3, e3, .fields ⟨w0 :: .str (Str.ofString "cmp_to_key.<locals>.K.__init__") tq :: ws⟩, y3⟩)
   (hQ : ∀ a h' tk, NewInst h h' C a (.int i ti) → Q (.ref a) ⟨h', g, d, tk, os⟩) :
   wpAny (model prog w) WB (call (.ref C) [.int i ti]) Q E ⟨h, g, d, t, os⟩ := by
  simp only [madeEs, ent, memObj, clsObj] at hN hM hC
  delta kF3 fnMade fnX at hI
  try dsimp only at hI

  cases c3 <;> x_run
end Mine
end
open PySem PySem.W PySem.W.X PyProof.Rows PySem.Calls Mine in
theorem Mine.freshKJ : True := by
  k_with_none
  k_with "off" => (first | (intro _ hp; cases hp; done) | (intro p hp; simp only [List.mem_cons, List.not_mem_nil, or_false] at hp; subst hp; first | exact (by decide) | exact (show (135 : Nat) ≠ 3 from by decide) | exact (show (135 : Nat) ≠ 0 from by decide) | exact (show (135 : Nat) ≠ 139 from by decide) | assumption | (show @Ne Nat _ _; omega)))
  k_with "s" => ((first | with_reducible (first | refine wpAny_of_eq (by assumption) ?_ | refine wpAny_pure ?_ | refine wpAny_holding ?_ | refine wpAny_standAt ?_ | refine wpAny_point ?_ | refine wpAny_rule ?_ | refine wpAny_fresh' ?_ | refine wpAny_askSetting ?_ | refine wpAny_onRaise ?_ | refine wpAny_tryCatch ?_ | refine wpAny_attempt ?_ | refine wpAny_throw ?_) | ((with_reducible refine allocN (by assumption) ?_ ?_); (focus rfl); intro _ _ _) | ((with_reducible show wpAny _ _ (load _) _ _ _); first | refine loadNO (by assumption) (by assumption) (by k_extra "off") ?_ | refine loadNC (by assumption) 0 rfl ?_ | refine loadNN (by assumption) 0 rfl ?_ | refine loadNN (by assumption) 1 rfl ?_ | refine loadNN (by assumption) 2 rfl ?_ | refine loadNN (by assumption) 3 rfl ?_ | refine loadNN (by assumption) 4 rfl ?_ | refine loadNN (by assumption) 5 rfl ?_ | refine loadNN (by assumption) 6 rfl ?_ | refine loadNN (by assumption) 7 rfl ?_ | refine loadNN (by assumption) 8 rfl ?_ | refine loadNN (by assumption) 9 rfl ?_ | refine loadNN (by assumption) 10 rfl ?_ | refine loadNN (by assumption) 11 rfl ?_ | refine loadNN (by assumption) 12 rfl ?_ | refine loadNN (by assumption) 13 rfl ?_ | refine loadNN (by assumption) 14 rfl ?_ | refine loadNN (by assumption) 15 rfl ?_ | refine loadNN (by assumption) 16 rfl ?_ | refine loadNN (by assumption) 17 rfl ?_ | refine loadNN (by assumption) 18 rfl ?_ | refine loadNN (by assumption) 19 rfl ?_ | refine loadNN (by assumption) 20 rfl ?_ | refine loadNN (by assumption) 21 rfl ?_ | refine loadNN (by assumption) 22 rfl ?_ | refine loadNN (by assumption) 23 rfl ?_ | refine loadNN (by assumption) 24 rfl ?_ | refine loadNN (by assumption) 25 rfl ?_ | refine loadNN (by assumption) 26 rfl ?_ | refine loadNN (by assumption) 27 rfl ?_ | refine loadNN (by assumption) 28 rfl ?_ | refine loadNN (by assumption) 29 rfl ?_) | ((with_reducible show wpAny _ _ (loadPart _ _) _ _ _); first | refine loadPNO (by assumption) (by assumption) (by k_extra "off") ?_ | refine loadPNC (by assumption) 0 rfl ?_ | refine loadPNN (by assumption) 0 rfl ?_ | refine loadPNN (by assumption) 1 rfl ?_ | refine loadPNN (by assumption) 2 rfl ?_ | refine loadPNN (by assumption) 3 rfl ?_ | refine loadPNN (by assumption) 4 rfl ?_ | refine loadPNN (by assumption) 5 rfl ?_ | refine loadPNN (by assumption) 6 rfl ?_ | refine loadPNN (by assumption) 7 rfl ?_ | refine loadPNN (by assumption) 8 rfl ?_ | refine loadPNN (by assumption) 9 rfl ?_ | refine loadPNN (by assumption) 10 rfl ?_ | refine loadPNN (by assumption) 11 rfl ?_ | refine loadPNN (by assumption) 12 rfl ?_ | refine loadPNN (by assumption) 13 rfl ?_ | refine loadPNN (by assumption) 14 rfl ?_ | refine loadPNN (by assumption) 15 rfl ?_ | refine loadPNN (by assumption) 16 rfl ?_ | refine loadPNN (by assumption) 17 rfl ?_ | refine loadPNN (by assumption) 18 rfl ?_ | refine loadPNN (by assumption) 19 rfl ?_ | refine loadPNN (by assumption) 20 rfl ?_ | refine loadPNN (by assumption) 21 rfl ?_ | refine loadPNN (by assumption) 22 rfl ?_ | refine loadPNN (by assumption) 23 rfl ?_ | refine loadPNN (by assumption) 24 rfl ?_ | refine loadPNN (by assumption) 25 rfl ?_ | refine loadPNN (by assumption) 26 rfl ?_ | refine loadPNN (by assumption) 27 rfl ?_ | refine loadPNN (by assumption) 28 rfl ?_ | refine loadPNN (by assumption) 29 rfl ?_) | ((with_reducible show wpAny _ _ (update _ _) _ _ _); (first | refine updOO (by assumption) (by assumption) (by k_extra "off") (by as_aux_lemma => kernel_rfl) ?_ | refine updN (by assumption) 0 rfl (by as_aux_lemma => kernel_rfl) ?_ | refine updN (by assumption) 1 rfl (by as_aux_lemma => kernel_rfl) ?_ | refine updN (by assumption) 2 rfl (by as_aux_lemma => kernel_rfl) ?_ | refine updN (by assumption) 3 rfl (by as_aux_lemma => kernel_rfl) ?_ | refine updN (by assumption) 4 rfl (by as_aux_lemma => kernel_rfl) ?_ | refine updN (by assumption) 5 rfl (by as_aux_lemma => kernel_rfl) ?_ | refine updN (by assumption) 6 rfl (by as_aux_lemma => kernel_rfl) ?_ | refine updN (by assumption) 7 rfl (by as_aux_lemma => kernel_rfl) ?_ | refine updN (by assumption) 8 rfl (by as_aux_lemma => kernel_rfl) ?_ | refine updN (by assumption) 9 rfl (by as_aux_lemma => kernel_rfl) ?_ | refine updN (by assumption) 10 rfl (by as_aux_lemma => kernel_rfl) ?_ | refine updN (by assumption) 11 rfl (by as_aux_lemma => kernel_rfl) ?_ | refine updN (by assumption) 12 rfl (by as_aux_lemma => kernel_rfl) ?_ | refine updN (by assumption) 13 rfl (by as_aux_lemma => kernel_rfl) ?_ | refine updN (by assumption) 14 rfl (by as_aux_lemma => kernel_rfl) ?_ | refine updN (by assumption) 15 rfl (by as_aux_lemma => kernel_rfl) ?_ | refine updN (by assumption) 16 rfl (by as_aux_lemma => kernel_rfl) ?_ | refine updN (by assumption) 17 rfl (by as_aux_lemma => kernel_rfl) ?_ | refine updN (by assumption) 18 rfl (by as_aux_lemma => kernel_rfl) ?_ | refine updN (by assumption) 19 rfl (by as_aux_lemma => kernel_rfl) ?_ | refine updN (by assumption) 20 rfl (by as_aux_lemma => kernel_rfl) ?_ | refine updN (by assumption) 21 rfl (by as_aux_lemma => kernel_rfl) ?_ | refine updN (by assumption) 22 rfl (by as_aux_lemma => kernel_rfl) ?_ | refine updN (by assumption) 23 rfl (by as_aux_lemma => kernel_rfl) ?_ | refine updN (by assumption) 24 rfl (by as_aux_lemma => kernel_rfl) ?_ | refine updN (by assumption) 25 rfl (by as_aux_lemma => kernel_rfl) ?_ | refine updN (by assumption) 26 rfl (by as_aux_lemma => kernel_rfl) ?_ | refine updN (by assumption) 27 rfl (by as_aux_lemma => kernel_rfl) ?_ | refine updN (by assumption) 28 rfl (by as_aux_lemma => kernel_rfl) ?_ | refine updN (by assumption) 29 rfl (by as_aux_lemma => kernel_rfl) ?_); intro hZ DZ; (try simp only [List.set_cons_zero, List.set_cons_succ] at DZ); (try dsimp only [Obj.mapCls, Obj.mapDict, Obj.mapDictKeys, Obj.mapFields, Obj.mapSeq] at DZ); (revert hZ; intro _ _)) | ((with_reducible show wpAny _ _ (updatePart _ _ _) _ _ _); (first | refine updPO (by assumption) (by assumption) (by k_extra "off") (by as_aux_lemma => kernel_rfl) ?_ | refine updPN (by assumption) 0 rfl (by as_aux_lemma => kernel_rfl) ?_ | refine updPN (by assumption) 1 rfl (by as_aux_lemma => kernel_rfl) ?_ | refine updPN (by assumption) 2 rfl (by as_aux_lemma => kernel_rfl) ?_ | refine updPN (by assumption) 3 rfl (by as_aux_lemma => kernel_rfl) ?_ | refine updPN (by assumption) 4 rfl (by as_aux_lemma => kernel_rfl) ?_ | refine updPN (by assumption) 5 rfl (by as_aux_lemma => kernel_rfl) ?_ | refine updPN (by assumption) 6 rfl (by as_aux_lemma => kernel_rfl) ?_ | refine updPN (by assumption) 7 rfl (by as_aux_lemma => kernel_rfl) ?_ | refine updPN (by assumption) 8 rfl (by as_aux_lemma => kernel_rfl) ?_ | refine updPN (by assumption) 9 rfl (by as_aux_lemma => kernel_rfl) ?_ | refine updPN (by assumption) 10 rfl (by as_aux_lemma => kernel_rfl) ?_ | refine updPN (by assumption) 11 rfl (by as_aux_lemma => kernel_rfl) ?_ | refine updPN (by assumption) 12 rfl (by as_aux_lemma => kernel_rfl) ?_ | refine updPN (by assumption) 13 rfl (by as_aux_lemma => kernel_rfl) ?_ | refine updPN (by assumption) 14 rfl (by as_aux_lemma => kernel_rfl) ?_ | refine updPN (by assumption) 15 rfl (by as_aux_lemma => kernel_rfl) ?_ | refine updPN (by assumption) 16 rfl (by as_aux_lemma => kernel_rfl) ?_ | refine updPN (by assumption) 17 rfl (by as_aux_lemma => kernel_rfl) ?_ | refine updPN (by assumption) 18 rfl (by as_aux_lemma => kernel_rfl) ?_ | refine updPN (by assumption) 19 rfl (by as_aux_lemma => kernel_rfl) ?_ | refine updPN (by assumption) 20 rfl (by as_aux_lemma => kernel_rfl) ?_ | refine updPN (by assumption) 21 rfl (by as_aux_lemma => kernel_rfl) ?_ | refine updPN (by assumption) 22 rfl (by as_aux_lemma => kernel_rfl) ?_ | refine updPN (by assumption) 23 rfl (by as_aux_lemma => kernel_rfl) ?_ | refine updPN (by assumption) 24 rfl (by as_aux_lemma => kernel_rfl) ?_ | refine updPN (by assumption) 25 rfl (by as_aux_lemma => kernel_rfl) ?_ | refine updPN (by assumption) 26 rfl (by as_aux_lemma => kernel_rfl) ?_ | refine updPN (by assumption) 27 rfl (by as_aux_lemma => kernel_rfl) ?_ | refine updPN (by assumption) 28 rfl (by as_aux_lemma => kernel_rfl) ?_ | refine updPN (by assumption) 29 rfl (by as_aux_lemma => kernel_rfl) ?_); intro hZ DZ; (try simp only [List.set_cons_zero, List.set_cons_succ] at DZ); (try dsimp only [Obj.mapCls, Obj.mapDict, Obj.mapDictKeys, Obj.mapFields, Obj.mapSeq] at DZ); (revert hZ; intro _ _)) | (with_reducible refine iteF (by assumption) ?_) | (with_reducible refine iteT (by assumption) ?_) | ((with_reducible refine iteF ?_ ?_); (focus (as_aux_lemma => kernel_rfl))) | ((with_reducible refine iteT ?_ ?_); (focus (as_aux_lemma => kernel_rfl))) | ((with_reducible refine wpAny_ite_false ?_ ?_); (focus (as_aux_lemma => kernel_rfl))) | ((with_reducible refine wpAny_ite_true ?_ ?_); (focus (as_aux_lemma => kernel_rfl))) | wp_delta | (with_reducible_and_instances refine wpAny_pure ?_) | (with_reducible dsimp only)))
  k_with "w1" => (((fail_if_success (with_reducible show wpAny _ _ (run _ _) _ _ _)); (fail_if_success (with_reducible show wpAny _ _ (enterFrame _) _ _ _)); (fail_if_success (with_reducible show wpAny _ _ (collect _) _ _ _)); (fail_if_success (with_reducible show wpAny _ _ (Sem.tryCatch _ _) _ _ _)); (fail_if_success (with_reducible show wpAny _ _ (tryCatch _ _) _ _ _)); (fail_if_success (with_reducible show wpAny _ _ (call _ _ _) _ _ _)); (fail_if_success (with_reducible show wpAny _ _ (runValue _) _ _ _)); first | ((fail_if_success (with_reducible show wpAny _ _ _ _ _ _)); with_reducible apply_assumption) | ((with_reducible refine bindV ?_); intro _ _) | k_extra "s" | ((with_reducible_and_instances refine bindV ?_); intro _ _)))
  k_with "w" => ((repeat k_extra "w1"))
  k_with "w2" => ((repeat ((fail_if_success (with_reducible show wpAny _ _ (storeName _ _ _) _ _ _)); k_extra "w1")))
  w_top off
  first | walk1 | trivial
-- KJ
section
open PySem PySem.W PySem.W.X PyProof.Rows PySem.Calls
set_option Elab.async false
set_option maxRecDepth 100000
set_option linter.unusedVariables false
namespace Mine
open Hd (KK)
theorem keepAll_of {h h' : Heap} {news : List (Addr × Obj)} (D : Mem h h' [] news) : ∀ b o, h.get? b = some o → h'.get? b = some o := memAll D
section
local macro_rules | `(tactic| x_close) => `(tactic| first | (apply_assumption; exact keepAll_of (by assumption)) | (apply_assumption; exact fun _ _ e => e))
set_option maxHeartbeats 0 in
theorem obj_attr0 {prog : Program} {w : World} {h : Heap} {g : Array GenState} {d : Drawn} {t : Nat} {os : OsState} {Q E : Value → Shared → Prop} {C bT ns mm f1 f2 f3 f4 f5 f6 sL sT a dd : Addr} {tn t3 tm t0 t1 t4 t5 t6 t7 t8 t9 ta tb tc td te tf tg ti u : Tok} {i : Int}
   (X : (KK w.params).In h) (hC : h.get? C = some (clsObj bT C ns tn t3))
   (hN : h.get? ns = some ⟨.type "dict", none, .dict (madeEs w.params t0 t1 t4 t5 t6 t7 t8 t9 ta tb tc td te tf tg sL f1 f2 f3 f4 f5 f6 sT mm) 3, #[]⟩) (hM : h.get? mm = some (memObj C tm)) 
   (ha : h.get? a = some ⟨.ref C, some dd, .plain, #[some (.int i ti)]⟩)
   (hQ : ∀ h' tk, (∀ b o, h.get? b = some o → h'.get? b = some o) → Q (.int i ti) ⟨h', g, d, tk, os⟩) :
   wpAny (model prog w) WB (runValue (.builtin "proto.getattr_hooked" ⟨[.ref a, .str (Str.ofString "obj") u], []⟩)) Q E ⟨h, g, d, t, os⟩ := by
  simp only [madeEs, ent, memObj, clsObj] at hN hM hC
  x_run
end

theorem tl_ogo : typeLookup (.type "object") (Str.ofString "__getattribute__") = pure (some (.builtin "object.__getattribute__")) := by rw [typeLookup_type, builtinLookup_eq_fast]; kernel_rfl
set_option maxHeartbeats 2500000 in
theorem obj_attr {prog : Program} {w : World} {h : Heap} {g : Array GenState} {d : Drawn} {t : Nat} {os : OsState} {Q E : Value → Shared → Prop} {C bT ns mm f1 f2 f3 f4 f5 f6 sL sT a dd : Addr} {tn t3 tm t0 t1 t4 t5 t6 t7 t8 t9 ta tb tc td te tf tg ti : Tok} {i : Int} {e : Bool}
   (X : (KK w.params).In h) (hC : h.get? C = some (clsObj bT C ns tn t3))
   (hN : h.get? ns = some ⟨.type "dict", none, .dict (madeEs w.params t0 t1 t4 t5 t6 t7 t8 t9 ta tb tc td te tf tg sL f1 f2 f3 f4 f5 f6 sT mm) 3, #[]⟩) (hM : h.get? mm = some (memObj C tm)) 
   (ha : h.get? a = some ⟨.ref C, some dd, .plain, #[some (.int i ti)]⟩)
   (hQ : ∀ h' tk, (∀ b o, h.get? b = some o → h'.get? b = some o) → Q (.int i ti) ⟨h', g, d, tk, os⟩) :
   wpAny (model prog w) WB (getAttr (.ref a) (Str.ofString "obj") e) Q E ⟨h, g, d, t, os⟩ := by
  have D := Mm.start h
  have pk := And.intro X (And.intro hM hQ)
  clear X hM hQ
  unfold clsObj at hC
  simp only [madeEs, ent] at hN
  k_extra "w"
  show wpAny _ _ (typeLookup _ _) _ _ _
  refine tlW hC rfl tl_ogo fun Q' hQ' => ?_
  k_extra "w"
  obtain ⟨X, hM, hQ⟩ := pk
  refine obj_attr0 X hC hN hM ha fun h' tk k => ?_
  have q := hQ h' tk k
  clear hQ hM X hC hN ha D
  have D := Mm.start h'
  k_extra "w"
end Mine
end
theorem Mine.freshKL : True := by k_with_none; w_top off; first | walk1 | trivial
-- KL
section
open PySem PySem.W PyProof.Rows PySem.Calls
set_option Elab.async false
set_option maxRecDepth 100000
set_option linter.unusedVariables false
namespace Mine
open Hd (KK)
open PySem.SeqAt
local macro_rules | `(tactic| walk_at "call ref") => `(tactic| (k_here; refine stop_here ?_))
local macro_rules | `(tactic| walk_at "subscriptTail") => `(tactic| (k_here; refine stop_here ?_))
local macro_rules | `(tactic| walk_at "subscriptTail Name Name ref int") => `(tactic| (k_here; refine stop_here ?_))
local macro_rules | `(tactic| walk_at "eval Name") => `(tactic| first | (k_here; k_dflt (refine' nameX_L ?F ?v ?_ ?a ?b; (case F => k_asm); (case a => rfl); (case b => rfl); (case v => exact rfl); k_whole)) | (k_here; (with_reducible show wpAny _ _ (eval (Expr.Name (Str.ofString "spelled") _) _) _ _ _); refine stop_here ?_))
set_option maxHeartbeats 8000000 in
theorem cLam7 {w : World} {p : Program} {loose : List Str} {mean : ExcName → Option Value} {mg mb : Str → Option Value}
    {dp un : Nat} {gd : Option (List Code)} {cn : Str} {cs : Scope} {a : Addr} {ccd : Value} {cl : List (Str × Addr)} {outer : List Env} {A₀ : Around} {base h₀ : Heap} {L : Addr} {m : Str → Option Value} {s : Shared} {Q E : Value → Shared → Prop} {x y : Str} {t u ti tj : Tok} {lam c2 Lw fa S : Addr} {ctv : Value} {i j : Nat} {ys : List Value} {oS : Obj}
    (ho : s.heap.get? lam = some (lamO Lw fa c2 mg ctv)) (hcd : s.heap.CodeRec (.ref c2) (Str.ofString "law.<locals>." ++ Str.ofString "<lambda>"))
    (hc : s.heap.get? (Lw + 1 + 1 + 1) = some oS) (hS : oS.data = .cell (some (.ref S))) (hl : s.heap.IsList S ys.toArray) (hx : ys[i]? = some (.str x t)) (hy : ys[j]? = some (.str y u)) (hn : i ≤ 5 ∧ j ≤ 5)
    (B : Below A₀ base outer h₀) (F : Fr h₀ L s.heap m) (X : (KK w.params).In h₀) (T : Top p loose mean mg mb h₀) (hk : cs.kind = .function) (hd : dp + 8 < recursionLimit) (hu : un + 120 < cLine)
    (hret : ∀ (h' : Heap) (tk' : Nat) (t' : Tok), s.heap.StaysIn h' → Q (.int (b2i (!sl x y && x != y) - b2i (!sl y x && x != y)) t') { s with heap := h', toks := tk' }) :
    wpAny (model PySem.Challenge.rw_mr0202_01.row.prog w) (ktrTop dp un gd cn cs L a ccd cl outer) (call (.ref lam) [.int (i : Int) ti, .int (j : Int) tj]) Q E s := by
  revert X; k_fill; intro X
  refine wpAny_call ?_
  (k_dflt (refine' own_lam ?k1 ?k2 ?k3 ?k5 ?kA ?kF ?kK ?k6 ?k7 ?k8 ?k9 ?kB ?_ ?c2 ?c3 ?c4 ?c5; (case kA => exact rfl); (case kF => exact rfl); (case kK => assumption); (case k1 => k_asm); (case k2 => k_asm); (case k3 => k_asm); (case k5 => k_asm); (case k6 => exact ho); (case k7 => exact hcd); (case k8 => (show dp < _; omega)); (case k9 => exact rfl); (case c5 => decide); (case kB => exact locs rfl); (case c2 => exact rfl); (case c3 => exact rfl); (case c4 => exact rfl); k_whole; intro L' h' F' N' B' X' T'; (try dsimp only); (try k_fold)))
  delta lb7
  k_steps
  show wpAny _ _ (eval (Expr.Name (Str.ofString "spelled") _) _) _ _ _
  refine wpAny_Name (wpAny_loadName_free rfl rfl (by rfl) ⟨_, F'.keep _ _ hc, hS⟩ ?_ (by decide)) (by decide)
  k_steps
  show wpAny _ _ (subscriptTail _ _ _ _) _ _ _
  refine item_listL (hl.at fun o e => F'.keep _ _ e) (by omega) (by omega) (by rw [Int.toNat_natCast]; exact hx) ?_
  k_steps
  show wpAny _ _ (eval (Expr.Name (Str.ofString "spelled") _) _) _ _ _
  refine wpAny_Name (wpAny_loadName_free rfl rfl (by rfl) ⟨_, F'.keep _ _ hc, hS⟩ ?_ (by decide)) (by decide)
  k_steps
  show wpAny _ _ (subscriptTail _ _ _ _) _ _ _
  refine item_listL (hl.at fun o e => F'.keep _ _ e) (by omega) (by omega) (by rw [Int.toNat_natCast]; exact hy) ?_
  k_steps
  show wpAny _ _ (call (Value.ref 56) _) _ _ _
  refine c56 (B := B') (F := F') (X := X') (T := T') rfl (by show dp + 1 + 1 < _; omega) ?_
  intro h8 tk8 st8
  have F8 := F'.keeps st8
  have N8 := N'.keeps st8
  clear F' N'
  show wpAny _ _ _ _ _ _
  k_steps
  show wpAny _ _ (eval (Expr.Name (Str.ofString "spelled") _) _) _ _ _
  refine wpAny_Name (wpAny_loadName_free rfl rfl (by rfl) ⟨_, F8.keep _ _ hc, hS⟩ ?_ (by decide)) (by decide)
  k_steps
  show wpAny _ _ (subscriptTail _ _ _ _) _ _ _
  refine item_listL (hl.at fun o e => F8.keep _ _ e) (by omega) (by omega) (by rw [Int.toNat_natCast]; exact hx) ?_
  k_steps
  show wpAny _ _ (eval (Expr.Name (Str.ofString "spelled") _) _) _ _ _
  refine wpAny_Name (wpAny_loadName_free rfl rfl (by rfl) ⟨_, F8.keep _ _ hc, hS⟩ ?_ (by decide)) (by decide)
  k_steps
  show wpAny _ _ (subscriptTail _ _ _ _) _ _ _
  refine item_listL (hl.at fun o e => F8.keep _ _ e) (by omega) (by omega) (by rw [Int.toNat_natCast]; exact hy) ?_
  k_steps
  show wpAny _ _ (call (Value.ref 98) _) _ _ _
  refine c98 (B := B') (F := F8) (X := X') (T := T') rfl (by show dp + 1 + 1 < _; omega) ?_
  intro h9 tk9 st9
  have F9 := F8.keeps st9
  have N9 := N8.keeps st9
  clear F8 N8
  show wpAny _ _ _ _ _ _
  k_steps
  show Q _ _
  exact hret _ _ _ (by assumption)
end Mine
end
theorem Mine.freshKLt : True := by k_with_none; w_top off; first | walk1 | trivial
-- KLt
section
open PySem PySem.W PyProof.Rows PySem.Calls
set_option Elab.async false
set_option maxRecDepth 100000
set_option linter.unusedVariables false
namespace Mine
open Hd (KK)
open PySem.SeqAt
section
variable {prog : Program} {w : World} {A₀ A : Around} {s : Shared} {base h₀ : Heap} {outer : List Env} {L : Addr} {m mg mb : Str → Option Value} {env : Env} {K : Frag} {p : Program} {loose : List Str} {mean : ExcName → Option Value}
  {R : Result → Shared → Prop} {name qual : Str} {params : Arguments} {body : List Stmt} {scope : Scope} {cl : List (Str × Addr)} {doc pm ctv : Value} {c' f : Addr} {args : Args} {binds : List (Str × Value)}
theorem own_nest (B : Below A₀ base outer h₀) (F : Fr h₀ L s.heap m) (X₀ : K.In h₀) (T : Top p loose mean mg mb h₀) (hA : A.frames = some (env :: outer)) (hf : env.frame = some L) (hke : env.scope.kind = .function)
    (ho : s.heap.get? f = some (fnMade name qual params body scope cl doc pm c' ctv)) (hcd : s.heap.CodeRec (.ref c') qual) (hroom : A.depth < recursionLimit)
    (hbind : BindsTo s (fnX name qual params body scope cl .none .none doc pm none (.ref c') ctv) args binds) (hloc : ∀ y ∈ binds, scope.names.lookup y.1 = some .local)
    (h : ∀ L' h₁, Fr s.heap L' h₁ (fun y => binds.reverse.lookup y) → News s.heap L' h₁ [] → Below A base (env :: outer) s.heap → K.In s.heap → Top p loose mean mg mb s.heap →
      wpAny (model prog w) (A.deeper (envX qual scope L' f (.ref c') cl)) (execs body (envX qual scope L' f (.ref c') cl))
        (fun fl s' => LeaveK h₀ L m s.heap (Stay s.heap R) (match fl with | .ret v => v | _ => .none) s')
        (fun e s' => wpAny (model prog w) (A.deeper (envX qual scope L' f (.ref c') cl)) (leaving (envX qual scope L' f (.ref c') cl) e) (fun _ s'' => R (.error e) s'') (fun e' s'' => R (.error e') s'') s')
        { s with heap := h₁, toks := s.toks + binds.length })
    (hco : scope.isCoroutine = false) (hgen : scope.isGenerator = false) (hk : scope.kind = .function)
    (hcell : ∀ x ∈ scope.names, x.2 ≠ .cell) : codeAny (model prog w) A (.call (.ref f) args) R s := by
  obtain ⟨FG, BG, st, lv⟩ := groundX (R := Stay s.heap R) (news := []) B F News.nil hA hf hke
  have X := X₀.keeps F.keep
  have T' := T.keeps F.keep
  refine codeAny_call_def (fd := fnX name qual params body scope cl .none .none doc pm none (.ref c') ctv) (body := body) (binds := binds) hroom ho rfl (T.nolimit.keeps F.keep) hcd rfl hbind hcell hloc (fun h₁ hns hk₁ => ?_) hco hgen hk
  refine wpAny_mono (h s.heap.objs.size h₁ ⟨hns, hk₁, Nat.le_refl _⟩ News.nil BG X T') (fun fl s' hl => ?_) fun _ _ y => y
  have hl' := hl
  obtain ⟨L', m', news', F', _, _⟩ := hl'
  exact lv _ _ hl F'.keep
end
theorem attr_Name {M : Model} {A : Around} {E : Value → Shared → Prop} {s : Shared} {x attr : Str} {p pos : Pos} {env : Env} {Q : Value → Shared → Prop}
    (h : wpAny M A (eval (.Name x p) env) (fun o s₁ => wpAny M A (getAttr o attr true) Q E s₁) E s) : wpAny M A (eval (.Attribute (.Name x p) attr pos) env) Q E s := by
  rw [arm_eval_Attribute]
  refine wpAny_bind (wpAny_mono (show wpAny M A (attributeBase (.Name x p) attr env (eval (.Name x p) env)) _ E s from h) (fun o s₁ h1 => ?_) fun _ _ y => y)
  refine wpAny_bind (wpAny_standAt (wpAny_bind (wpAny_holding (wpAny_mono h1 (fun r s₂ hq => ?_) fun _ _ y => y))))
  exact wpAny_bind (wpAny_pure (wpAny_pure hq))
local macro_rules | `(tactic| walk_at "OldFn") => `(tactic| (k_here; exact ⟨Fr.keep (by assumption) _ _ (by assumption), rfl⟩))
local macro_rules | `(tactic| walk_at "call ref") => `(tactic| (k_here; refine stop_here ?_))
local macro_rules | `(tactic| walk_at "eval Attribute") => `(tactic| (k_here; refine stop_here ?_))
local macro_rules | `(tactic| walk_at "eval Name") => `(tactic| first | (k_here; k_dflt (refine' nameX_L ?F ?v ?_ ?a ?b; (case F => k_asm); (case a => rfl); (case b => rfl); (case v => exact rfl); k_whole)) | (k_here; (with_reducible show wpAny _ _ (eval (Expr.Name (Str.ofString "mycmp") _) _) _ _ _); refine stop_here ?_))
set_option maxHeartbeats 8000000 in
theorem cLt {w : World} {p : Program} {loose : List Str} {mean : ExcName → Option Value} {mg mb : Str → Option Value}
    {dp un : Nat} {gd : Option (List Code)} {cn : Str} {cs : Scope} {a : Addr} {ccd : Value} {cl : List (Str × Addr)} {outer : List Env} {A₀ : Around} {base h₀ : Heap} {L : Addr} {m : Str → Option Value} {s : Shared} {Q E : Value → Shared → Prop} {x y : Str} {t u ti tj : Tok} {lam c2 Lw fa S : Addr} {ctv : Value} {i j : Nat} {ys : List Value} {oS oc : Obj}
    {Lc f2 k4 : Addr} {u4 v4 : Value} {ia ib da db C bT ns mm f1 f3 f4 f5 f6 sL sT : Addr} {tn t3 tm t0 t1 t4 t5 t6 t7 t8 t9 ta tb tc td te tf tg : Tok}
    (hC : s.heap.get? C = some (clsObj bT C ns tn t3)) (hN : s.heap.get? ns = some ⟨.type "dict", none, .dict (madeEs w.params t0 t1 t4 t5 t6 t7 t8 t9 ta tb tc td te tf tg sL f1 f2 f3 f4 f5 f6 sT mm) 3, #[]⟩) (hM : s.heap.get? mm = some (memObj C tm))
    (hia : s.heap.get? ia = some ⟨.ref C, some da, .plain, #[some (.int (i : Int) ti)]⟩) (hib : s.heap.get? ib = some ⟨.ref C, some db, .plain, #[some (.int (j : Int) tj)]⟩)
    (hf2 : s.heap.get? f2 = some (kF4 Lc mg u4 k4 v4)) (hr2 : s.heap.CodeRec (.ref k4) (Str.ofString "cmp_to_key.<locals>.K.__lt__")) (hcc : s.heap.get? (Lc + 1) = some oc) (hcd2 : oc.data = .cell (some (.ref lam)))
    (ho : s.heap.get? lam = some (lamO Lw fa c2 mg ctv)) (hcd : s.heap.CodeRec (.ref c2) (Str.ofString "law.<locals>." ++ Str.ofString "<lambda>"))
    (hc : s.heap.get? (Lw + 1 + 1 + 1) = some oS) (hS : oS.data = .cell (some (.ref S))) (hl : s.heap.IsList S ys.toArray) (hx : ys[i]? = some (.str x t)) (hy : ys[j]? = some (.str y u)) (hn : i ≤ 5 ∧ j ≤ 5)
    (B : Below A₀ base outer h₀) (F : Fr h₀ L s.heap m) (X : (KK w.params).In h₀) (T : Top p loose mean mg mb h₀) (hk : cs.kind = .function) (hd : dp + 20 < recursionLimit) (hu : un + 150 < cLine) (hd5 : dp + 20 ≤ 580) (hu5 : un + 20 ≤ 280)
    (hret : ∀ (h' : Heap) (tk' : Nat), s.heap.StaysIn h' → Q (.bool (decide (b2i (!sl x y && x != y) - b2i (!sl y x && x != y) < 0))) { s with heap := h', toks := tk' }) :
    wpAny (model PySem.Challenge.rw_mr0202_01.row.prog w) (ktrTop dp un gd cn cs L a ccd cl outer) (call (.ref f2) [.ref ia, .ref ib]) Q E s := by
  have hf2' := hf2
  delta kF4 at hf2
  revert X; k_fill; intro X
  refine wpAny_call ?_
  (k_dflt (refine' own_nest ?k1 ?k2 ?k3 ?k5 ?kA ?kF ?kK ?k6 ?k7 ?k8 ?k9 ?kB ?_ ?c2 ?c3 ?c4 ?c5; (case kA => exact rfl); (case kF => exact rfl); (case kK => assumption); (case k1 => k_asm); (case k2 => k_asm); (case k3 => k_asm); (case k5 => k_asm); (case k6 => exact hf2); (case k7 => exact hr2); (case k8 => (show dp < _; omega)); (case k9 => exact BindsTo.of_eq rfl); (case c5 => decide); (case kB => exact locs rfl); (case c2 => exact rfl); (case c3 => exact rfl); (case c4 => exact rfl); k_whole; intro L' h' F' N' B' X' T'; (try dsimp only); (try k_fold)))
  k_steps
  show wpAny _ _ (eval (Expr.Name (Str.ofString "mycmp") _) _) _ _ _
  refine wpAny_Name (wpAny_loadName_free rfl rfl (by rfl) ⟨_, F'.keep _ _ hcc, hcd2⟩ ?_ (by decide)) (by decide)
  k_steps
  show wpAny _ _ (callWith _ (.ref lam) _ _ _) _ _ _
  refine callWith_old ho rfl ?_
  k_steps
  show wpAny _ _ (getAttr (.ref ia) _ _) _ _ _
  refine weaker (A' := WB) rfl (by show dp + 1 ≤ 580; omega) (by show un + 3 ≤ 280; omega) rfl rfl (obj_attr (X'.keeps F'.keep) (F'.keep _ _ hC) (F'.keep _ _ hN) (F'.keep _ _ hM) (F'.keep _ _ hia) fun h8 tk8 k8 => ?_)
  have st8 : Heap.StaysIn h' h8 := k8
  have F8 := F'.keeps st8
  have N8 := N'.keeps st8
  clear F' N' st8 k8
  show wpAny _ _ _ _ _ _
  k_steps
  show wpAny _ _ (getAttr (.ref ib) _ _) _ _ _
  refine weaker (A' := WB) rfl (by show dp + 1 ≤ 580; omega) (by show un + 3 ≤ 280; omega) rfl rfl (obj_attr (X'.keeps F8.keep) (F8.keep _ _ hC) (F8.keep _ _ hN) (F8.keep _ _ hM) (F8.keep _ _ hib) fun h9 tk9 k9 => ?_)
  have st9 : Heap.StaysIn h8 h9 := k9
  have F9 := F8.keeps st9
  have N9 := N8.keeps st9
  clear F8 N8 st9 k9
  show wpAny _ _ _ _ _ _
  k_steps
  show wpAny _ _ (call (.ref lam) _) _ _ _
  refine cLam7 (i := i) (j := j) (F9.keep _ _ ho) (hcd.keeps F9.keep) (F9.keep _ _ hc) hS (hl.at fun o e => F9.keep _ _ e) hx hy hn B' F9 X' T' rfl (by show dp + 1 + 8 < _; omega) (by show un + 3 + 120 < _; omega) fun h10 tk10 t10 st10 => ?_
  have F10 := F9.keeps st10
  have N10 := N9.keeps st10
  clear F9 N9
  show wpAny _ _ _ _ _ _
  k_steps
  show Q _ _
  exact hret _ _ (by assumption)
end Mine
end
theorem Mine.freshLR : True := by k_with_none; w_top off; first | walk1 | trivial
-- LR
section
open PySem PySem.W PyProof.Rows PySem.Calls
set_option Elab.async false
set_option maxRecDepth 100000
set_option linter.unusedVariables false
namespace Mine
section
variable {prog : Program} {w : World} {A : Around} {E : Value → Shared → Prop} {s : Shared} {h₀ : Heap} {L : Addr} {m : Str → Option Value} {news : List (Addr × Obj)}
theorem iadd_range {R : Result → Shared → Prop} {r S : Addr} {n : Nat} {t u v : Tok} (hh : A.handled = none) (hr : IsRange s.heap r 0 n 1 t u v) (h5 : n ≤ 5) (hS : s.heap.get? S = some { cls := .type "list", data := .seq #[] 0 })
    (hR : ∀ h' tk acc' c', (∀ b o, b ≠ S → s.heap.get? b = some o → h'.get? b = some o) → h'.get? S = some { cls := .type "list", dict := none, data := .seq acc' c', slots := #[] } →
      ItemsOf (fun i v => ∃ t, v = .int (0 + i * 1) t) acc' n → R (.ok (.ret (.ref S))) { s with heap := h', toks := tk }) :
    codeAny (model prog w) A (.builtin "list.__iadd__" ⟨[.ref S, .ref r], []⟩) R s := by
  refine codeAny_builtin entry_list_iadd' ?_
  rw [Around.under_plainId F.plain_list_iadd _]
  exact wpAny_extend_range hh hr (small1 h5) size1 (by omega) S (.ref S) 0 hS hR
theorem collect_range {r : Addr} {n : Nat} {t u v : Tok} {Q : List Value → Shared → Prop} (hh : A.handled = none) (hr : IsRange s.heap r 0 n 1 t u v) (h5 : n ≤ 5)
    (h : ∀ h' tk acc, (∀ b o, s.heap.get? b = some o → h'.get? b = some o) → s.heap.objs.size < h'.objs.size → ItemsOf (fun i v => ∃ t, v = .int ((i : Nat) : Int) t) acc n → Q acc.toList { s with heap := h', toks := tk }) :
    wpAny (model prog w) A (collect (.ref r)) Q E s := by
  unfold collect
  refine wpAny_bind (wpAny_runValue (codeAny_builtin entry_proto_collect' ?_))
  show wpAny _ _ (do again (.builtin "list.__iadd__" ⟨[← newList [], .ref r], []⟩)) _ _ s
  have hS : (s.heap.push (seqObj "list" #[] 0)).get? s.heap.objs.size = some { cls := .type "list", data := .seq #[] 0 } := Heap.get?_push_size _ rfl
  refine wpAny_bind (wpAny_newList (wpAny_pure ⟨Code.quiet_builtin _ (by decide +kernel), iadd_range (s := { s with heap := s.heap.push (seqObj "list" #[] 0) }) hh (Heap.get?_push_of_some _ hr) h5 hS fun h' tk acc' c' hk hS' hacc => ?_⟩))
  show wpAny (model prog w) A (do
      let o ← load s.heap.objs.size
      match o.data with
      | .seq xs _ => pure xs.toList
      | _ => unsupported "internal:collect") Q E _
  refine wpAny_bind (wpAny_load hS' (wpAny_pure ?_))
  refine h h' tk acc' (fun b o e => hk b o (Nat.ne_of_lt (Heap.lt_size e)) (Heap.get?_push_of_some _ e)) (Heap.lt_size hS') ?_
  simpa using hacc
theorem sorted_range {r : Addr} {n : Nat} {t u v : Tok} {f : Value} {kw : List (Str × Value)} {Q : Value → Shared → Prop} (F : Fr h₀ L s.heap m) (N : News h₀ L s.heap news) (hh : A.handled = none) (hr : IsRange s.heap r 0 n 1 t u v) (h2 : 2 ≤ n) (h5 : n ≤ 5)
    (ha1 : argsOk "sorted" ⟨[.ref r], kw⟩) (ha2 : ∀ x, argsOk "list.sort" ⟨[.ref x], kw⟩) (ht : ∀ x, Builtin.«list.sort» ⟨[.ref x], kw⟩ = ksk_tree x f false)
    (h : ∀ (vs : List Value) D kS e1 h' tk, vs.length = n → (∀ (i : Nat) (v : Value), vs[i]? = some v → ∃ t, v = Value.int (i : Int) t) → Fr h₀ L h' m → News h₀ L h' ((kS, seqObj "list" #[] 0) :: (D, seqObj "list" #[] e1) :: news) → s.heap.objs.size ≤ D → D < kS →
      KatKeys prog w A.in1.in1 h₀ L m kS f (fun ks e s' => wpAny (model prog w) A.in1.in1 (keyKind' (List.toArray ks)) (fun κ s'' => (kas_sort vs.length).kasWp (kas_ask prog w A.in1.in1 κ (katRev false ks)) (fun p s3 => KatFin h₀ L m kS D ks e e1 (katRev false (p.toList.map fun i => (katRev false vs).getD i Value.none)) (fun s4 => Q (.ref D) s4) s3) s'') (fun _ _ => False) s') vs [] 0 { s with heap := h', toks := tk }) :
    wpAny (model prog w) A (call (.builtin "sorted") [.ref r] kw) Q E s := by
  refine call_function_entry_kw kind_sorted plain_sorted entry_sorted ha1 ?_
  unfold Builtin.«sorted»
  refine wpAny_bind (m := checkCount "sorted" 1 1 _) (wpAny_pure ?_)
  refine wpAny_bind (collect_range hh hr h5 fun h1 tk acc hk hlt hacc => ?_)
  have hlen : acc.toList.length = n := by rw [Array.length_toList]; exact hacc.1
  refine wpAny_bind (wpAny_newList ?_ (by rw [sizeLine_eq]; omega))
  have hoL : (h1.push (seqObj "list" acc 0)).get? h1.objs.size = some (seqObj "list" acc 0) := Heap.get?_push_size _ rfl
  have keep : ∀ b o, s.heap.get? b = some o → (h1.push (seqObj "list" acc 0)).get? b = some o := fun b o q => Heap.get?_push_of_some _ (hk b o q)
  have hL : L < s.heap.objs.size := F.ns.lt
  show wpAny _ _ _ _ _ { s with heap := h1.push (seqObj "list" acc.toList.toArray 0), toks := tk }
  rw [Array.toArray_toList]
  refine wpAny_bind (wpAny_holding (wpAny_call_entry_kw slot_list_sort ⟨_, hoL, rfl⟩ entry_list_sort ?body (ha2 _)))
  case body =>
    have ht' := ht h1.objs.size
    show wpAny (model prog w) A.in1.in1 (Builtin.«list.sort» ⟨[.ref h1.objs.size], kw⟩) _ _ _
    rw [ht']
    refine kat_keyed (vs := acc.toList) (s := { s with heap := h1.push (seqObj "list" acc 0), toks := tk })
      (F.kept keep) (N.grown keep) (by rw [Array.toArray_toList]; exact hoL) (Nat.ne_of_gt (Nat.lt_trans hL hlt)) (Heap.get?_none_of_le (Nat.le_trans F.above (Nat.le_of_lt (Nat.lt_trans hL hlt))))
      (fun p hp => Nat.ne_of_lt (Nat.lt_trans (Heap.lt_size (N p hp).1) hlt)) (by omega) (by omega) fun kS e1 h' F' N' l0 l1 => ?_
    refine kat_keys_mono (h acc.toList _ kS e1 h' tk hlen (fun i v hv => hacc.2 i v (by simpa using hv)) F' N' (Nat.le_of_lt hlt) l0) fun ks e s' hl' hd => ?_
    have hl2 : ks.length = acc.toList.length := by simpa using hl'
    refine wpAny_mono hd (fun κ s'' hk => ?_) fun _ _ x => x
    rw [kat_ask_eq (vs := katRev false acc.toList) (by rw [kat_len, kat_len, hl2])] at hk ⊢
    exact kas_wp_mono hk fun p s3 hk' => hk'.mono fun s4 hq => ⟨_, rfl, wpAny_pure ⟨_, rfl, hq⟩⟩
end
end Mine
end
theorem Mine.freshLP : True := by k_with_none; w_top off; first | walk1 | trivial
-- LP
section
open PySem PySem.W PyProof.Rows PySem.Calls
set_option Elab.async false
set_option maxRecDepth 100000
set_option linter.unusedVariables false
namespace Mine
def kRun {α : Type} (lt : Nat → Nat → Bool) : KasT α → α
  | .ret a => a
  | .ask i j k => kRun lt (k (lt i j))
def kBnd {α : Type} (n : Nat) (p : α → Bool) : KasT α → Bool
  | .ret a => p a
  | .ask i j k => decide (i < n) && decide (j < n) && kBnd n p (k true) && kBnd n p (k false)
theorem kas_answers {α : Type} {n : Nat} {lt : Nat → Nat → Bool} {p : α → Bool} {cmp : Nat → Nat → (Bool → Shared → Prop) → Shared → Prop} {I : Shared → Prop} {Q : α → Shared → Prop}
    (hc : ∀ i j C s, i < n → j < n → I s → (∀ s', I s' → C (lt i j) s') → cmp i j C s) : ∀ (t : KasT α) (s : Shared), kBnd n p t = true → I s → (∀ s', I s' → p (kRun lt t) = true → Q (kRun lt t) s') → t.kasWp cmp Q s
  | .ret a, s, hb, hi, hq => hq s hi hb
  | .ask i j k, s, hb, hi, hq => by
    unfold kBnd at hb
    simp only [Bool.and_eq_true, decide_eq_true_eq] at hb
    refine hc i j _ s hb.1.1.1 hb.1.1.2 hi fun s' hi' => ?_
    refine kas_answers hc (k (lt i j)) s' ?_ hi' hq
    cases lt i j
    · exact hb.2
    · exact hb.1.2
def okP (n : Nat) (p : Array Nat) : Bool := p.size == n && p.all fun i => decide (i < n)
theorem bnd3 : kBnd 3 (okP 3) (kas_sort 3) = true := by decide +kernel
theorem bnd4 : kBnd 4 (okP 4) (kas_sort 4) = true := by decide +kernel
theorem bnd5 : kBnd 5 (okP 5) (kas_sort 5) = true := by decide +kernel
theorem bndN {n : Nat} (h3 : 3 ≤ n) (h5 : n ≤ 5) : kBnd n (okP n) (kas_sort n) = true := by
  have : n = 3 ∨ n = 4 ∨ n = 5 := by omega
  rcases this with rfl | rfl | rfl
  · exact bnd3
  · exact bnd4
  · exact bnd5
end Mine
end
open PySem PySem.W PySem.W.X PyProof.Rows PySem.Calls Mine in
theorem Mine.freshLI : True := by
  k_with_none
  k_with "off" => (first | (intro _ hp; cases hp; done) | (intro p hp; simp only [List.mem_cons, List.not_mem_nil, or_false] at hp; subst hp; first | exact (by decide) | exact (show (135 : Nat) ≠ 3 from by decide) | exact (show (135 : Nat) ≠ 0 from by decide) | exact (show (135 : Nat) ≠ 139 from by decide) | assumption | (show @Ne Nat _ _; omega)))
  k_with "s" => ((first | with_reducible (first | refine wpAny_of_eq (by assumption) ?_ | refine wpAny_pure ?_ | refine wpAny_holding ?_ | refine wpAny_standAt ?_ | refine wpAny_point ?_ | refine wpAny_rule ?_ | refine wpAny_fresh' ?_ | refine wpAny_askSetting ?_ | refine wpAny_onRaise ?_ | refine wpAny_tryCatch ?_ | refine wpAny_attempt ?_ | refine wpAny_throw ?_) | ((with_reducible refine allocN (by assumption) ?_ ?_); (focus rfl); intro _ _ _) | ((with_reducible show wpAny _ _ (load _) _ _ _); first | refine loadNO (by assumption) (by assumption) (by k_extra "off") ?_ | refine loadNC (by assumption) 0 rfl ?_ | refine loadNN (by assumption) 0 rfl ?_ | refine loadNN (by assumption) 1 rfl ?_ | refine loadNN (by assumption) 2 rfl ?_ | refine loadNN (by assumption) 3 rfl ?_ | refine loadNN (by assumption) 4 rfl ?_ | refine loadNN (by assumption) 5 rfl ?_ | refine loadNN (by assumption) 6 rfl ?_ | refine loadNN (by assumption) 7 rfl ?_ | refine loadNN (by assumption) 8 rfl ?_ | refine loadNN (by assumption) 9 rfl ?_ | refine loadNN (by assumption) 10 rfl ?_ | refine loadNN (by assumption) 11 rfl ?_ | refine loadNN (by assumption) 12 rfl ?_ | refine loadNN (by assumption) 13 rfl ?_ | refine loadNN (by assumption) 14 rfl ?_ | refine loadNN (by assumption) 15 rfl ?_ | refine loadNN (by assumption) 16 rfl ?_ | refine loadNN (by assumption) 17 rfl ?_ | refine loadNN (by assumption) 18 rfl ?_ | refine loadNN (by assumption) 19 rfl ?_ | refine loadNN (by assumption) 20 rfl ?_ | refine loadNN (by assumption) 21 rfl ?_ | refine loadNN (by assumption) 22 rfl ?_ | refine loadNN (by assumption) 23 rfl ?_ | refine loadNN (by assumption) 24 rfl ?_ | refine loadNN (by assumption) 25 rfl ?_ | refine loadNN (by assumption) 26 rfl ?_ | refine loadNN (by assumption) 27 rfl ?_ | refine loadNN (by assumption) 28 rfl ?_ | refine loadNN (by assumption) 29 rfl ?_) | ((with_reducible show wpAny _ _ (loadPart _ _) _ _ _); first | refine loadPNO (by assumption) (by assumption) (by k_extra "off") ?_ | refine loadPNC (by assumption) 0 rfl ?_ | refine loadPNN (by assumption) 0 rfl ?_ | refine loadPNN (by assumption) 1 rfl ?_ | refine loadPNN (by assumption) 2 rfl ?_ | refine loadPNN (by assumption) 3 rfl ?_ | refine loadPNN (by assumption) 4 rfl ?_ | refine loadPNN (by assumption) 5 rfl ?_ | refine loadPNN (by assumption) 6 rfl ?_ | refine loadPNN (by assumption) 7 rfl ?_ | refine loadPNN (by assumption) 8 rfl ?_ | refine loadPNN (by assumption) 9 rfl ?_ | refine loadPNN (by assumption) 10 rfl ?_ | refine loadPNN (by assumption) 11 rfl ?_ | refine loadPNN (by assumption) 12 rfl ?_ | refine loadPNN (by assumption) 13 rfl ?_ | refine loadPNN (by assumption) 14 rfl ?_ | refine loadPNN (by assumption) 15 rfl ?_ | refine loadPNN (by assumption) 16 rfl ?_ | refine loadPNN (by assumption) 17 rfl ?_ | refine loadPNN (by assumption) 18 rfl ?_ | refine loadPNN (by assumption) 19 rfl ?_ | refine loadPNN (by assumption) 20 rfl ?_ | refine loadPNN (by assumption) 21 rfl ?_ | refine loadPNN (by assumption) 22 rfl ?_ | refine loadPNN (by assumption) 23 rfl ?_ | refine loadPNN (by assumption) 24 rfl ?_ | refine loadPNN (by assumption) 25 rfl ?_ | refine loadPNN (by assumption) 26 rfl ?_ | refine loadPNN (by assumption) 27 rfl ?_ | refine loadPNN (by assumption) 28 rfl ?_ | refine loadPNN (by assumption) 29 rfl ?_) | ((with_reducible show wpAny _ _ (update _ _) _ _ _); (first | refine updOO (by assumption) (by assumption) (by k_extra "off") (by as_aux_lemma => kernel_rfl) ?_ | refine updN (by assumption) 0 rfl (by as_aux_lemma => kernel_rfl) ?_ | refine updN (by assumption) 1 rfl (by as_aux_lemma => kernel_rfl) ?_ | refine updN (by assumption) 2 rfl (by as_aux_lemma => kernel_rfl) ?_ | refine updN (by assumption) 3 rfl (by as_aux_lemma => kernel_rfl) ?_ | refine updN (by assumption) 4 rfl (by as_aux_lemma => kernel_rfl) ?_ | refine updN (by assumption) 5 rfl (by as_aux_lemma => kernel_rfl) ?_ | refine updN (by assumption) 6 rfl (by as_aux_lemma => kernel_rfl) ?_ | refine updN (by assumption) 7 rfl (by as_aux_lemma => kernel_rfl) ?_ | refine updN (by assumption) 8 rfl (by as_aux_lemma => kernel_rfl) ?_ | refine updN (by assumption) 9 rfl (by as_aux_lemma => kernel_rfl) ?_ | refine updN (by assumption) 10 rfl (by as_aux_lemma => kernel_rfl) ?_ | refine updN (by assumption) 11 rfl (by as_aux_lemma => kernel_rfl) ?_ | refine updN (by assumption) 12 rfl (by as_aux_lemma => kernel_rfl) ?_ | refine updN (by assumption) 13 rfl (by as_aux_lemma => kernel_rfl) ?_ | refine updN (by assumption) 14 rfl (by as_aux_lemma => kernel_rfl) ?_ | refine updN (by assumption) 15 rfl (by as_aux_lemma => kernel_rfl) ?_ | refine updN (by assumption) 16 rfl (by as_aux_lemma => kernel_rfl) ?_ | refine updN (by assumption) 17 rfl (by as_aux_lemma => kernel_rfl) ?_ | refine updN (by assumption) 18 rfl (by as_aux_lemma => kernel_rfl) ?_ | refine updN (by assumption) 19 rfl (by as_aux_lemma => kernel_rfl) ?_ | refine updN (by assumption) 20 rfl (by as_aux_lemma => kernel_rfl) ?_ | refine updN (by assumption) 21 rfl (by as_aux_lemma => kernel_rfl) ?_ | refine updN (by assumption) 22 rfl (by as_aux_lemma => kernel_rfl) ?_ | refine updN (by assumption) 23 rfl (by as_aux_lemma => kernel_rfl) ?_ | refine updN (by assumption) 24 rfl (by as_aux_lemma => kernel_rfl) ?_ | refine updN (by assumption) 25 rfl (by as_aux_lemma => kernel_rfl) ?_ | refine updN (by assumption) 26 rfl (by as_aux_lemma => kernel_rfl) ?_ | refine updN (by assumption) 27 rfl (by as_aux_lemma => kernel_rfl) ?_ | refine updN (by assumption) 28 rfl (by as_aux_lemma => kernel_rfl) ?_ | refine updN (by assumption) 29 rfl (by as_aux_lemma => kernel_rfl) ?_); intro hZ DZ; (try simp only [List.set_cons_zero, List.set_cons_succ] at DZ); (try dsimp only [Obj.mapCls, Obj.mapDict, Obj.mapDictKeys, Obj.mapFields, Obj.mapSeq] at DZ); (revert hZ; intro _ _)) | ((with_reducible show wpAny _ _ (updatePart _ _ _) _ _ _); (first | refine updPO (by assumption) (by assumption) (by k_extra "off") (by as_aux_lemma => kernel_rfl) ?_ | refine updPN (by assumption) 0 rfl (by as_aux_lemma => kernel_rfl) ?_ | refine updPN (by assumption) 1 rfl (by as_aux_lemma => kernel_rfl) ?_ | refine updPN (by assumption) 2 rfl (by as_aux_lemma => kernel_rfl) ?_ | refine updPN (by assumption) 3 rfl (by as_aux_lemma => kernel_rfl) ?_ | refine updPN (by assumption) 4 rfl (by as_aux_lemma => kernel_rfl) ?_ | refine updPN (by assumption) 5 rfl (by as_aux_lemma => kernel_rfl) ?_ | refine updPN (by assumption) 6 rfl (by as_aux_lemma => kernel_rfl) ?_ | refine updPN (by assumption) 7 rfl (by as_aux_lemma => kernel_rfl) ?_ | refine updPN (by assumption) 8 rfl (by as_aux_lemma => kernel_rfl) ?_ | refine updPN (by assumption) 9 rfl (by as_aux_lemma => kernel_rfl) ?_ | refine updPN (by assumption) 10 rfl (by as_aux_lemma => kernel_rfl) ?_ | refine updPN (by assumption) 11 rfl (by as_aux_lemma => kernel_rfl) ?_ | refine updPN (by assumption) 12 rfl (by as_aux_lemma => kernel_rfl) ?_ | refine updPN (by assumption) 13 rfl (by as_aux_lemma => kernel_rfl) ?_ | refine updPN (by assumption) 14 rfl (by as_aux_lemma => kernel_rfl) ?_ | refine updPN (by assumption) 15 rfl (by as_aux_lemma => kernel_rfl) ?_ | refine updPN (by assumption) 16 rfl (by as_aux_lemma => kernel_rfl) ?_ | refine updPN (by assumption) 17 rfl (by as_aux_lemma => kernel_rfl) ?_ | refine updPN (by assumption) 18 rfl (by as_aux_lemma => kernel_rfl) ?_ | refine updPN (by assumption) 19 rfl (by as_aux_lemma => kernel_rfl) ?_ | refine updPN (by assumption) 20 rfl (by as_aux_lemma => kernel_rfl) ?_ | refine updPN (by assumption) 21 rfl (by as_aux_lemma => kernel_rfl) ?_ | refine updPN (by assumption) 22 rfl (by as_aux_lemma => kernel_rfl) ?_ | refine updPN (by assumption) 23 rfl (by as_aux_lemma => kernel_rfl) ?_ | refine updPN (by assumption) 24 rfl (by as_aux_lemma => kernel_rfl) ?_ | refine updPN (by assumption) 25 rfl (by as_aux_lemma => kernel_rfl) ?_ | refine updPN (by assumption) 26 rfl (by as_aux_lemma => kernel_rfl) ?_ | refine updPN (by assumption) 27 rfl (by as_aux_lemma => kernel_rfl) ?_ | refine updPN (by assumption) 28 rfl (by as_aux_lemma => kernel_rfl) ?_ | refine updPN (by assumption) 29 rfl (by as_aux_lemma => kernel_rfl) ?_); intro hZ DZ; (try simp only [List.set_cons_zero, List.set_cons_succ] at DZ); (try dsimp only [Obj.mapCls, Obj.mapDict, Obj.mapDictKeys, Obj.mapFields, Obj.mapSeq] at DZ); (revert hZ; intro _ _)) | (with_reducible refine iteF (by assumption) ?_) | (with_reducible refine iteT (by assumption) ?_) | ((with_reducible refine iteF ?_ ?_); (focus (as_aux_lemma => kernel_rfl))) | ((with_reducible refine iteT ?_ ?_); (focus (as_aux_lemma => kernel_rfl))) | ((with_reducible refine wpAny_ite_false ?_ ?_); (focus (as_aux_lemma => kernel_rfl))) | ((with_reducible refine wpAny_ite_true ?_ ?_); (focus (as_aux_lemma => kernel_rfl))) | wp_delta | (with_reducible_and_instances refine wpAny_pure ?_) | (with_reducible dsimp only)))
  k_with "w1" => (((fail_if_success (with_reducible show wpAny _ _ (run _ _) _ _ _)); (fail_if_success (with_reducible show wpAny _ _ (enterFrame _) _ _ _)); (fail_if_success (with_reducible show wpAny _ _ (collect _) _ _ _)); (fail_if_success (with_reducible show wpAny _ _ (Sem.tryCatch _ _) _ _ _)); (fail_if_success (with_reducible show wpAny _ _ (tryCatch _ _) _ _ _)); (fail_if_success (with_reducible show wpAny _ _ (call _ _ _) _ _ _)); (fail_if_success (with_reducible show wpAny _ _ (runValue _) _ _ _)); first | ((fail_if_success (with_reducible show wpAny _ _ _ _ _ _)); with_reducible apply_assumption) | ((with_reducible refine bindV ?_); intro _ _) | k_extra "s" | ((with_reducible_and_instances refine bindV ?_); intro _ _)))
  k_with "w" => ((repeat k_extra "w1"))
  k_with "w2" => ((repeat ((fail_if_success (with_reducible show wpAny _ _ (storeName _ _ _) _ _ _)); k_extra "w1")))
  w_top off
  first | walk1 | trivial
-- LI
section
open PySem PySem.W PySem.W.X PyProof.Rows PySem.Calls
set_option Elab.async false
set_option maxRecDepth 100000
set_option linter.unusedVariables false
namespace Mine
open Hd (KK)

theorem tl_olt : typeLookup (.type "object") (Str.ofString "__lt__") = pure (some (.builtin "object.__lt__")) := by rw [typeLookup_type, builtinLookup_eq_fast]; kernel_rfl
set_option maxHeartbeats 2500000 in
theorem lt_inst {prog : Program} {w : World} {A : Around} {h : Heap} {g : Array GenState} {d : Drawn} {t : Nat} {os : OsState} {Q : Bool → Shared → Prop} {E : Value → Shared → Prop} {C bT ns mm f1 f2 f3 f4 f5 f6 sL sT a dd Lc k4 : Addr} {tn t3 tm t0 t1 t4 t5 t6 t7 t8 t9 ta tb tc td te tf tg ti : Tok} {i : Int} {b u4 v4 : Value} {mg : Str → Option Value}
   (hu : A.units < cLine) (hC : h.get? C = some (clsObj bT C ns tn t3))
   (hN : h.get? ns = some ⟨.type "dict", none, .dict (madeEs w.params t0 t1 t4 t5 t6 t7 t8 t9 ta tb tc td te tf tg sL f1 f2 f3 f4 f5 f6 sT mm) 3, #[]⟩)
   (ha : h.get? a = some ⟨.ref C, some dd, .plain, #[some (.int i ti)]⟩) (hf2 : h.get? f2 = some (kF4 Lc mg u4 k4 v4))
   (hQ : wpAny (model prog w) A (call (.ref f2) [.ref a, b]) (fun v s' => ∃ c, v = .bool c ∧ Q c s') E ⟨h, g, d, t, os⟩) :
   wpAny (model prog w) A (keyLt' oneType' (.ref a) b) Q E ⟨h, g, d, t, os⟩ := by
  rw [keyLt'_oneType, oneLt'_eq]
  simp only [if_true]
  refine wpAny_bind (wpAny_cRoomFor hu ?_)
  have D := Mm.start h
  have pk := And.intro hQ True.intro
  clear hQ hu
  unfold clsObj at hC
  simp only [madeEs, ent] at hN
  delta kF4 fnMade at hf2
  k_extra "w"
  show wpAny _ _ (typeLookup _ _) _ _ _
  refine tlW hC rfl tl_olt fun Q' hQ' => ?_
  k_extra "w"
  obtain ⟨hq, -⟩ := pk
  have fin : ∀ Qz : Value → Shared → Prop, (∀ c s', Q c s' → Qz (.bool c) s') → wpAny (model prog w) A (call (.ref f2) [.ref a, b]) Qz E ⟨h, g, d, t, os⟩ := fun Qz hz => wpAny_mono hq (fun v s' ⟨c, e, hc⟩ => e ▸ hz c s' hc) fun _ _ e => e
  have pk := And.intro fin True.intro
  clear fin hq
  refine wpAny_ite_split (fun _ => ?_) (fun _ => ?_)
  · k_extra "w"
    refine wpAny_bindSpecial_def hf2 rfl ?_
    k_extra "w"
    show wpAny _ _ (call _ _) _ _ _
    obtain ⟨fin, -⟩ := pk
    refine fin _ fun c s' hc => ?_
    clear fin hf2 ha hN hC D
    k_extra "w"
  · refine wpAny_tryCatch ?_
    k_extra "w"
    refine wpAny_bindSpecial_def hf2 rfl ?_
    k_extra "w"
    show wpAny _ _ (call _ _) _ _ _
    obtain ⟨fin, -⟩ := pk
    refine fin _ fun c s' hc => ?_
    clear fin hf2 ha hN hC D
    k_extra "w"
end Mine
end
theorem Mine.freshLK : True := by k_with_none; w_top off; first | walk1 | trivial
-- LK
section
open PySem PySem.W PyProof.Rows PySem.Calls
set_option Elab.async false
set_option maxRecDepth 100000
set_option linter.unusedVariables false
namespace Mine
open Hd (KK)
section
variable {prog : Program} {w : World} {A : Around} {E : Value → Shared → Prop} {s : Shared} {h₀ : Heap} {L : Addr} {m : Str → Option Value}
theorem lt_listkeys {l b : Addr} {vs vs2 : List Value} {ns ms : List Int} {Q : Bool → Shared → Prop} (hl : s.heap.IsList l vs.toArray) (hb : s.heap.IsList b vs2.toArray) (h1 : IntsAre vs ns) (h2 : IntsAre vs2 ms) (hu : A.units < cLine)
    (h : Q (decide (ns < ms)) s) : wpAny (model prog w) A (keyLt' oneType' (.ref l) (.ref b)) Q E s := by
  obtain ⟨⟨cls, dd, data, sl⟩, ho, hc, n, hd⟩ := id hl
  obtain ⟨⟨cls2, dd2, data2, sl2⟩, ho2, hc2, n2, hd2⟩ := id hb
  simp only at hc hd hc2 hd2
  subst hc hd hc2 hd2
  rw [keyLt'_oneType, oneLt'_eq]
  simp only [if_true]
  refine wpAny_bind (wpAny_cRoomFor hu ?_)
  refine wpAny_bind (wpAny_callSpecialIfBound?_slot ⟨_, ho, rfl⟩ F.slot_list_lt (call_meets F.slot_list_lt ⟨_, ho, rfl⟩ F.entry_list_lt (F.args_list_lt_2 _ _) (list_ltAt l b vs.toArray vs2.toArray n n2 dd dd2 sl sl2 ns ms (by simpa using h1) (by simpa using h2)) ⟨ho, ho2, ?_⟩))
  show wpAny _ _ (truthOfDropped (.bool _)) _ _ _
  exact wpAny_truthy_bool h
/-- a new object of the class K, out of the ledger -/
theorem inst_led {mg : Str → Option Value} {Lw fa : Addr} {D news : List (Addr × Obj)} {C ns mm f1 f2 k3 k4 Lc f c2 bT : Addr} {oc : Obj} {es : Array DictEntry} {tn t3 tm : Tok} {u3 v3 u4 v4 ctv : Value} {i : Int} {ti : Tok} {Q : Value → Shared → Prop}
    (K : KLed w.params Lw fa mg D C ns mm f1 f2 k3 k4 Lc f c2 bT oc es tn t3 tm u3 v3 u4 v4 ctv) (a1 : A.handled = none) (a2 : A.depth ≤ 580) (a3 : A.units ≤ 280)
    (X : (KK w.params).In h₀) (F : Fr h₀ L s.heap m) (N : News h₀ L s.heap news) (sub : ∀ p ∈ D, p ∈ news)
    (hQ : ∀ a h' tk, NewInst s.heap h' C a (.int i ti) → Q (.ref a) { s with heap := h', toks := tk }) :
    wpAny (model prog w) A (call (.ref C) [.int i ti]) Q E s := by
  obtain ⟨t0, t1, t4, t5, t6, t7, t8, t9, ta, tb, tc, td, te, tf, tg, sL, f3, f4, f5, f6, sT, he⟩ := K.e
  obtain ⟨o3, vs3, tt3, hm3, hd3, hv3⟩ := K.ir
  obtain ⟨c3, e3, da3, y3⟩ := o3
  simp only at hd3
  subst hd3
  obtain ⟨l3⟩ := vs3
  rcases l3 with _ | ⟨w0, _ | ⟨w1, ws⟩⟩
  · simp at hv3
  · simp at hv3
  · have e1 : w1 = .str (Str.ofString "cmp_to_key.<locals>.K.__init__") tt3 := by simpa using hv3
    subst e1
    have g : ∀ {a o}, (a, o) ∈ D → s.heap.get? a = some o := fun hm => (N _ (sub _ hm)).1
    have hn := g K.n
    rw [he] at hn
    exact weaker (A' := WB) a1 a2 a3 rfl rfl (inst_call (X.keeps F.keep) (g K.c) hn (g K.m) (g K.i) (g hm3) hQ)
def instV (C dd : Addr) (i : Nat) (ti : Tok) : Obj := ⟨.ref C, some dd, .plain, #[some (.int (i : Int) ti)]⟩
def InstL (C : Addr) (ks : List Value) (ex : List (Addr × Obj)) : Prop := (∀ (i : Nat) (k : Value), ks[i]? = some k → ∃ a dd ti, k = .ref a ∧ (a, instV C dd i ti) ∈ ex) ∧ ∀ q ∈ ex, q.2.cls = .ref C
theorem keys_inst {mg : Str → Option Value} {Lw fa kS : Addr} {D base : List (Addr × Obj)} {C ns mm f1 f2 k3 k4 Lc f c2 bT : Addr} {oc : Obj} {es : Array DictEntry} {tn t3 tm : Tok} {u3 v3 u4 v4 ctv : Value} {Fin : List Value → Nat → Shared → Prop}
    (K : KLed w.params Lw fa mg D C ns mm f1 f2 k3 k4 Lc f c2 bT oc es tn t3 tm u3 v3 u4 v4 ctv) (a1 : A.handled = none) (a2 : A.depth ≤ 580) (a3 : A.units ≤ 280) (X : (KK w.params).In h₀) (sub : ∀ p ∈ D, p ∈ base) :
    ∀ (r ks : List Value) (e : Nat) (ex : List (Addr × Obj)) (h : Heap) (tk : Nat), Fr h₀ L h m → News h₀ L h ((kS, seqObj "list" ks.toArray e) :: (ex ++ base)) → (∀ q ∈ ex ++ base, q.1 ≠ kS) → InstL C ks ex →
      (∀ (i : Nat) (v : Value), r[i]? = some v → ∃ t, v = Value.int ((ks.length + i : Nat) : Int) t) →
      (∀ ks' e' ex' h' tk', ks'.length = ks.length + r.length → Fr h₀ L h' m → News h₀ L h' ((kS, seqObj "list" ks'.toArray e') :: (ex' ++ base)) → (∀ q ∈ ex' ++ base, q.1 ≠ kS) → InstL C ks' ex' → Fin ks' e' { s with heap := h', toks := tk' }) →
      KatKeys prog w A h₀ L m kS (.ref C) Fin r ks e { s with heap := h, toks := tk }
  | [], ks, e, ex, h, tk, F, N, ap, I, hr, fin => KatKeys.nil (fin ks e ex h tk (by simp) F N ap I)
  | v :: r, ks, e, ex, h, tk, F, N, ap, I, hr, fin => by
    obtain ⟨tv, rfl⟩ := hr 0 v rfl
    refine KatKeys.cons (inst_led (s := { s with heap := h, toks := tk }) K a1 a2 a3 X F N (fun p hp => List.mem_cons_of_mem _ (List.mem_append_right _ (sub p hp))) fun a h' tk' hn => ?_)
    obtain ⟨keep, hnone, dd, hget⟩ := hn
    have F' : Fr h₀ L h' m := F.kept keep
    have N' : News h₀ L h' ((kS, seqObj "list" ks.toArray e) :: (ex ++ base)) := N.grown keep
    have nL : a ≠ L := fun q => by
      obtain ⟨o, es', n, ho, -⟩ := F.ns
      rw [q, show ({ s with heap := h, toks := tk } : Shared).heap.get? L = some o from ho] at hnone
      cases hnone
    have n0 : h₀.get? a = none := by
      rcases hq : h₀.get? a with _ | o
      · rfl
      · have := F.keep _ _ hq
        rw [show ({ s with heap := h, toks := tk } : Shared).heap.get? a = some o from this] at hnone
        cases hnone
    have nk : a ≠ kS := fun q => by
      have := (N _ List.mem_cons_self).1
      rw [q, show ({ s with heap := h, toks := tk } : Shared).heap.get? kS = some _ from this] at hnone
      cases hnone
    have ap' : ∀ q ∈ (a, instV C dd ks.length tv) :: (ex ++ base), q.1 ≠ kS := fun q hq => by
      rcases List.mem_cons.mp hq with rfl | hq
      · exact nk
      · exact ap q hq
    have N1 : News h₀ L h' ((kS, seqObj "list" ks.toArray e) :: ((a, instV C dd ks.length tv) :: (ex ++ base))) := fun q hq => by
      rcases List.mem_cons.mp hq with rfl | hq
      · exact N' _ List.mem_cons_self
      · rcases List.mem_cons.mp hq with rfl | hq
        · exact ⟨hget, nL, n0⟩
        · exact N' q (List.mem_cons_of_mem _ hq)
    refine KatBack.intro (news := (kS, seqObj "list" ks.toArray e) :: ((a, instV C dd ks.length tv) :: (ex ++ base))) (g := fun o => (kS, o) :: ((a, instV C dd ks.length tv) :: (ex ++ base))) F' N1 (UpdF.head ap') fun h'' c F'' N'' => ?_
    refine keys_inst K a1 a2 a3 X sub r (ks ++ [.ref a]) c ((a, instV C dd ks.length tv) :: ex) h'' tk' F'' N'' ap' ?_ (fun i v hi => ?_) fun ks' e' ex' h3 tk3 hl => fin ks' e' ex' h3 tk3 (by simp at hl ⊢; omega)
    · refine ⟨fun i k hi => ?_, fun q hq => ?_⟩
      rotate_left
      · rcases List.mem_cons.mp hq with rfl | hq
        · rfl
        · exact I.2 q hq
      rcases Nat.lt_or_ge i ks.length with hlt | hge
      · rw [List.getElem?_append_left hlt] at hi
        obtain ⟨a', dd', ti', e1, e2⟩ := I.1 i k hi
        exact ⟨a', dd', ti', e1, List.mem_cons_of_mem _ e2⟩
      · have hi0 : i = ks.length := by
          have := (List.getElem?_eq_some_iff.mp hi).1
          simp at this; omega
        subst hi0
        simp at hi
        exact ⟨a, dd, tv, hi.symm, List.mem_cons_self⟩
    · obtain ⟨t, ht⟩ := hr (i + 1) v (by simpa using hi)
      exact ⟨t, by rw [ht, List.length_append, List.length_singleton]; congr 2; omega⟩
end
end Mine
end
theorem Mine.freshLQ : True := by k_with_none; w_top off; first | walk1 | trivial
-- LQ
section
open PySem PySem.W PyProof.Rows PySem.Calls
set_option Elab.async false
set_option maxRecDepth 100000
set_option linter.unusedVariables false
namespace Mine
open Hd (KK)
section
variable {prog : Program} {w : World} {A : Around} {E : Value → Shared → Prop} {s : Shared} {h₀ : Heap} {L : Addr} {m : Str → Option Value}
/-- the sort's end, once its keys stand in a ledger -/
theorem fin_sort {n e e1 : Nat} {kS Dl : Addr} {ks vs : List Value} {ex news : List (Addr × Obj)} {lt : Nat → Nat → Bool} {h : Heap} {tk : Nat} {Q : Value → Shared → Prop}
    (h3 : 3 ≤ n) (h5 : n ≤ 5) (hv : vs.length = n) (F : Fr h₀ L h m) (N : News h₀ L h ((kS, seqObj "list" ks.toArray e) :: (ex ++ (Dl, seqObj "list" #[] e1) :: news)))
    (ap : ∀ q ∈ ex ++ (Dl, seqObj "list" #[] e1) :: news, q.1 ≠ kS) (ad : ∀ q ∈ ex ++ news, q.1 ≠ Dl)
    (hkind : ∀ Q' : SortKind → Shared → Prop, Q' oneType' { s with heap := h, toks := tk } → wpAny (model prog w) A (keyKind' ks.toArray) Q' (fun _ _ => False) { s with heap := h, toks := tk })
    (hcmp : ∀ i j C h tk, i < n → j < n → Fr h₀ L h m → News h₀ L h ((kS, seqObj "list" ks.toArray e) :: (ex ++ (Dl, seqObj "list" #[] e1) :: news)) →
      (∀ h' tk', Fr h₀ L h' m → News h₀ L h' ((kS, seqObj "list" ks.toArray e) :: (ex ++ (Dl, seqObj "list" #[] e1) :: news)) → C (lt i j) { s with heap := h', toks := tk' }) →
      wpAny (model prog w) A (keyLt' oneType' (ks.getD i Value.none) (ks.getD j Value.none)) C (fun _ _ => False) { s with heap := h, toks := tk })
    (hout : ∀ h' tk' c, Fr h₀ L h' m → News h₀ L h' ((Dl, listOf (List.toArray ((kRun lt (kas_sort n)).toList.map fun i => vs.getD i Value.none)) c) :: (ex ++ news)) → Q (.ref Dl) { s with heap := h', toks := tk' }) :
    wpAny (model prog w) A (keyKind' (List.toArray ks)) (fun κ s'' => (kas_sort vs.length).kasWp (kas_ask prog w A κ (katRev false ks)) (fun p s3 => KatFin h₀ L m kS Dl ks e e1 (katRev false (p.toList.map fun i => (katRev false vs).getD i Value.none)) (fun s4 => Q (.ref Dl) s4) s3) s'') (fun _ _ => False) { s with heap := h, toks := tk } := by
  refine hkind _ ?_
  rw [hv]
  refine kas_answers (n := n) (lt := lt) (p := okP n) (I := fun s' => ∃ h tk, s' = { s with heap := h, toks := tk } ∧ Fr h₀ L h m ∧ News h₀ L h ((kS, seqObj "list" ks.toArray e) :: (ex ++ (Dl, seqObj "list" #[] e1) :: news))) ?_ _ _ (bndN h3 h5) ⟨h, tk, rfl, F, N⟩ ?_
  · rintro i j C _ hi hj ⟨h1, tk1, rfl, F1, N1⟩ hc
    exact hcmp i j C h1 tk1 hi hj F1 N1 fun h' tk' F' N' => hc _ ⟨h', tk', rfl, F', N'⟩
  · rintro _ ⟨h1, tk1, rfl, F1, N1⟩ -
    refine KatFin.intro (g := fun o => (kS, o) :: (ex ++ (Dl, seqObj "list" #[] e1) :: news)) F1 N1 (UpdF.head ap) fun h2 c F2 N2 => ?_
    refine KasFin.intro (news := ((kS, seqObj "list" #[] c) :: ex) ++ (Dl, seqObj "list" #[] e1) :: news) (g := fun o => ((kS, seqObj "list" #[] c) :: ex) ++ (Dl, o) :: news) F2 N2 (updF_mid (fun q hq => ad q (List.mem_append_right _ hq)) _ fun q hq => ?_) fun h3 c3 F3 N3 => ?_
    · rcases List.mem_cons.mp hq with rfl | hq
      · exact Ne.symm (ap (Dl, seqObj "list" #[] e1) (by simp))
      · exact ad q (List.mem_append_left _ hq)
    · refine hout h3 tk1 c3 F3 fun q hq => ?_
      rcases List.mem_cons.mp hq with rfl | hq
      · exact N3 _ (by simp [katRev])
      · rcases List.mem_append.mp hq with hq | hq
        · exact N3 q (by simp [hq])
        · exact N3 q (by simp [hq])
end
end Mine
end
theorem Mine.freshLV : True := by k_with_none; w_top off; first | walk1 | trivial
-- LV
section
open PySem PySem.W PyProof.Rows PySem.Calls
set_option Elab.async false
set_option maxRecDepth 100000
set_option linter.unusedVariables false
namespace Mine
open Hd (KK)
def ltR (rs : List (Addr × List Int)) (i j : Nat) : Bool := decide ((rs.map (·.2)).getD i [] < (rs.map (·.2)).getD j [])
theorem ans_lt {a b : List Int} (ha : Oct a) (hb : Oct b) : decide (b2i (!sl (tx a) (tx b) && tx a != tx b) - b2i (!sl (tx b) (tx a) && tx a != tx b) < 0) = decide (a < b) := by
  have h1 : sl (tx a) (tx b) = decide (a < b) := tx_lt ha hb
  have h2 : sl (tx b) (tx a) = decide (b < a) := tx_lt hb ha
  have h3 := tx_eq ha hb
  have h4 := tri a b
  rw [h1, h2, bne, h3, h4]
  by_cases q1 : a < b
  · have q2 : a ≠ b := fun e => by rw [e] at q1; exact List.lt_irrefl _ q1
    simp [q1, q2, b2i]
  · by_cases q2 : a = b
    · simp [q2, b2i]
    · simp [q1, q2, b2i]
theorem depthS : callerA.depth + 1 + 20 ≤ 580 := by decide +kernel
theorem depthS2 : callerA.depth + 1 + 20 < recursionLimit := by decide +kernel
theorem unitsS : callerA.units + 3 + 2 + 20 ≤ 280 := by decide +kernel
theorem unitsS2 : callerA.units + 3 + 2 + 150 < cLine := by decide +kernel
/-- two instances compared, out of the ledger -/
theorem cmp_led {w : World} {p : Program} {loose : List Str} {mean : ExcName → Option Value} {mg mb : Str → Option Value} {h₀ : Heap} {L fa S : Addr} {m : Str → Option Value} {s : Shared} {oS : Obj} {rs : List (Addr × List Int)} {ys : List Value}
    {D news : List (Addr × Obj)} {C ns mm f1 f2 k3 k4 Lc f c2 bT : Addr} {oc : Obj} {es : Array DictEntry} {tn t3 tm : Tok} {u3 v3 u4 v4 ctv : Value} {Q : Bool → Shared → Prop} {ia ib da db : Addr} {i j : Nat} {ti tj : Tok}
    (B : Below callerA h₀ [] h₀) (X : (KK w.params).In h₀) (T : Top p loose mean mg mb h₀) (K : KLed w.params L fa mg D C ns mm f1 f2 k3 k4 Lc f c2 bT oc es tn t3 tm u3 v3 u4 v4 ctv)
    (F : Fr h₀ L s.heap m) (N : News h₀ L s.heap news) (sub : ∀ p ∈ D, p ∈ news) (hoS : (L + 1 + 1 + 1, oS) ∈ news) (hS : oS.data = .cell (some (.ref S))) (hs : SpellD news S rs ys) (ho : ∀ r ∈ rs, Oct r.2) (h5 : rs.length ≤ 5)
    (hi : i < rs.length) (hj : j < rs.length) (hia : (ia, instV C da i ti) ∈ news) (hib : (ib, instV C db j tj) ∈ news)
    (hret : ∀ h' tk', Fr h₀ L h' m → News h₀ L h' news → Q (ltR rs i j) { s with heap := h', toks := tk' }) :
    wpAny (model PySem.Challenge.rw_mr0202_01.row.prog w) (lawA L fa).in1.in1 (keyLt' oneType' (.ref ia) (.ref ib)) Q (fun _ _ => False) s := by
  obtain ⟨t0, t1, t4, t5, t6, t7, t8, t9, ta, tb, tc, td, te, tf, tg, sL, f3, f4, f5, f6, sT, he⟩ := K.e
  have g : ∀ {a o}, (a, o) ∈ news → s.heap.get? a = some o := fun hm => (N _ hm).1
  have hn := g (sub _ K.n)
  rw [he] at hn
  obtain ⟨ra, hra⟩ : ∃ r, rs[i]? = some r := ⟨rs[i], by simp [hi]⟩
  obtain ⟨rb, hrb⟩ : ∃ r, rs[j]? = some r := ⟨rs[j], by simp [hj]⟩
  obtain ⟨ta', hya⟩ := spell_at hs hra
  obtain ⟨tb', hyb⟩ := spell_at hs hrb
  refine lt_inst (tm := tm) (by show callerA.units + 3 + 1 + 1 < cLine; decide +kernel) (g (sub _ K.c)) hn (g hia) (g (sub _ K.l)) ?_
  refine cLt (dp := callerA.depth + 1) (outer := []) (B := B) (F := F) (X := X) (T := T) (g (sub _ K.c)) hn (g (sub _ K.m)) (g hia) (g hib) (g (sub _ K.l)) (recD_of N (K.lr.mono sub)) (g (sub _ K.x)) K.xd (g (sub _ K.f)) (recD_of N (K.fr.mono sub)) (g hoS) hS (isl N hs.1) hya hyb ⟨by omega, by omega⟩ rfl depthS2 unitsS2 depthS unitsS fun h' tk' st => ?_
  refine ⟨_, rfl, ?_⟩
  rw [ans_lt (ho _ (List.mem_of_getElem? hra)) (ho _ (List.mem_of_getElem? hrb))]
  have e : ltR rs i j = decide (ra.2 < rb.2) := by
    unfold ltR
    rw [List.getD_eq_getElem?_getD, List.getD_eq_getElem?_getD, List.getElem?_map, List.getElem?_map, hra, hrb]
    rfl
  rw [← e]
  exact hret h' tk' (F.keeps st) (N.keeps st)
end Mine
end
theorem Mine.freshLX : True := by k_with_none; w_top off; first | walk1 | trivial
-- LX
section
open PySem PySem.W PyProof.Rows PySem.Calls
set_option Elab.async false
set_option maxRecDepth 100000
set_option linter.unusedVariables false
namespace Mine
open Hd (KK)
def sortOut (rs : List (Addr × List Int)) (vs : List Value) : List Value := (kRun (ltR rs) (kas_sort rs.length)).toList.map fun i => vs.getD i Value.none
def IdxV (n : Nat) (vs : List Value) : Prop := vs.length = n ∧ ∀ (i : Nat) (v : Value), vs[i]? = some v → ∃ t, v = Value.int (i : Int) t
theorem unitsT : callerA.units + 3 + 1 + 1 < cLine := by decide +kernel
/-- the first sort -/
theorem sorted1 {w : World} {p : Program} {loose : List Str} {mean : ExcName → Option Value} {mg mb : Str → Option Value} {h₀ : Heap} {L fa S P R : Addr} {m : Str → Option Value} {s : Shared} {oS oD oP : Obj} {t1 t2 : Array Value} {rs : List (Addr × List Int)} {ys : List Value}
    {D : List (Addr × Obj)} {C ns mm f1 f2 k3 k4 Lc f c2 bT : Addr} {oc : Obj} {es : Array DictEntry} {tn t3 tm : Tok} {u3 v3 u4 v4 ctv : Value} {Q : Value → Shared → Prop} {E : Value → Shared → Prop} {pt pu pv : Tok}
    (B : Below callerA h₀ [] h₀) (X : (KK w.params).In h₀) (T : Top p loose mean mg mb h₀) (K : KLed w.params L fa mg D C ns mm f1 f2 k3 k4 Lc f c2 bT oc es tn t3 tm u3 v3 u4 v4 ctv)
    (F : Fr h₀ L s.heap m) (N : News h₀ L s.heap (Five L oS oD oP t1 t2 D)) (hS : oS.data = .cell (some (.ref S))) (hPm : (P, rangeO rs.length pt pu pv) ∈ D) (hr : RowsD D R rs) (hs : SpellD D S rs ys)
    (hret : ∀ h' tk' Dl c vs, IdxV rs.length vs → Fr h₀ L h' m → News h₀ L h' ((Dl, listOf (List.toArray (sortOut rs vs)) c) :: Five L oS oD oP t1 t2 D) → s.heap.objs.size ≤ Dl → Q (.ref Dl) { s with heap := h', toks := tk' }) :
    wpAny (model PySem.Challenge.rw_mr0202_01.row.prog w) (lawA L fa) (call (.builtin "sorted") [.ref P] [(Str.ofString "key", .ref C)]) Q E s := by
  have inD : ∀ q ∈ D, q ∈ Five L oS oD oP t1 t2 D := fun q hq => by simp [Five, hq]
  refine sorted_range F N rfl (N _ (inD _ hPm)).1 (by have := hr.2.1; omega) hr.2.2.1 (ksk_s1 _ _) (fun x => ksk_l1 _ _) (fun x => ksk_t1 C x) fun vs Dl kS e1 h' tk hv hvi F' N' hD hk => ?_
  have lt5 : ∀ q ∈ Five L oS oD oP t1 t2 D, q.1 < s.heap.objs.size := fun q hq => Heap.lt_size (N q hq).1
  have bk : ∀ q ∈ (Dl, seqObj "list" #[] e1) :: Five L oS oD oP t1 t2 D, q.1 ≠ kS := fun q hq => by
    rcases List.mem_cons.mp hq with rfl | hq
    · exact Nat.ne_of_lt hk
    · exact Nat.ne_of_lt (Nat.lt_of_lt_of_le (lt5 q hq) (Nat.le_trans hD (Nat.le_of_lt hk)))
  refine keys_inst (A := (lawA L fa).in1.in1) (base := (Dl, seqObj "list" #[] e1) :: Five L oS oD oP t1 t2 D) K rfl (by decide +kernel : callerA.depth + 1 ≤ 580) (by decide +kernel : callerA.units + 3 + 1 + 1 ≤ 280) X (fun q hq => List.mem_cons_of_mem _ (inD q hq)) vs [] 0 [] h' tk F' N' bk ⟨fun i k hi => by simp at hi, fun q hq => by cases hq⟩ (fun i v hi => by simpa using hvi i v hi) ?_
  intro ks' e' ex' h3 tk3 hl F3 N3 ap I
  have hl' : ks'.length = rs.length := by simpa [hv] using hl
  have inEx : ∀ q ∈ ex', q ∈ (kS, seqObj "list" ks'.toArray e') :: (ex' ++ (Dl, seqObj "list" #[] e1) :: Five L oS oD oP t1 t2 D) := fun q hq => List.mem_cons_of_mem _ (List.mem_append_left _ hq)
  have inB : ∀ q ∈ Five L oS oD oP t1 t2 D, q ∈ (kS, seqObj "list" ks'.toArray e') :: (ex' ++ (Dl, seqObj "list" #[] e1) :: Five L oS oD oP t1 t2 D) := fun q hq => List.mem_cons_of_mem _ (List.mem_append_right _ (List.mem_cons_of_mem _ hq))
  refine fin_sort (n := rs.length) (lt := ltR rs) hr.2.1 hr.2.2.1 hv F3 N3 ap ?ad ?kind ?cmp ?out
  case ad =>
    intro q hq e
    rcases List.mem_append.mp hq with hq | hq
    · have z1 := (N3 (Dl, seqObj "list" #[] e1) (by simp)).1
      have z2 := (N3 q (inEx _ hq)).1
      have z3 := I.2 q hq
      rw [e] at z2
      have z4 : q.2 = seqObj "list" #[] e1 := Option.some.inj (z2.symm.trans z1)
      rw [z4] at z3
      cases z3
    · exact absurd (lt5 q hq) (Nat.not_lt.mpr (e ▸ hD))
  case kind =>
    intro Q' hq
    refine kas_kind (T := .ref C) (by have := hr.2.1; omega) (fun v hv' => ?_) rfl (by simp) hq
    obtain ⟨i, hi⟩ := List.getElem?_of_mem hv'
    obtain ⟨a, dd, ti, rfl, hm⟩ := I.1 i v hi
    exact (Looks.ld (N3 _ (inEx _ hm)).1).andThen .now
  case cmp =>
    intro i j Cc h4 tk4 hi hj F4 N4 hc
    obtain ⟨a, da, ti, ea, ma⟩ := I.1 i ks'[i] (by simp [hl', hi])
    obtain ⟨b, db, tj, eb, mb'⟩ := I.1 j ks'[j] (by simp [hl', hj])
    have e1' : ks'.getD i Value.none = .ref a := by rw [← ea]; simp [hl', hi]
    have e2' : ks'.getD j Value.none = .ref b := by rw [← eb]; simp [hl', hj]
    rw [e1', e2']
    exact cmp_led (s := { s with heap := h4, toks := tk4 }) (D := D) (S := S) (oS := oS) (ys := ys) B X T K F4 N4 (fun q hq => inB q (inD q hq)) (inB _ List.mem_cons_self) hS ⟨inB _ (inD _ hs.1), hs.2⟩ hr.oct hr.2.2.1 hi hj (inEx _ ma) (inEx _ mb') hc
  case out =>
    intro h4 tk4 c F4 N4
    exact hret h4 tk4 Dl c vs ⟨hv, hvi⟩ F4 (fun q hq => N4 q ((List.mem_cons.mp hq).elim (fun z => z ▸ List.mem_cons_self) fun z => List.mem_cons_of_mem _ (List.mem_append_right _ z))) hD
end Mine
end
theorem Mine.freshLY : True := by k_with_none; w_top off; first | walk1 | trivial
-- LY
section
open PySem PySem.W PyProof.Rows PySem.Calls
set_option Elab.async false
set_option maxRecDepth 100000
set_option linter.unusedVariables false
namespace Mine
open Hd (KK)
open PySem.SeqAt
noncomputable def la8 : Arguments := by
  refine (?f : st8 = .Return (some (.Compare ?l ?ops [.Call ?fn ?as [⟨?ka, .Lambda ?ps ?bd ?sc ?pp, ?kp⟩] ?cp] ?q)) ?p → Arguments) ?h
  case h => exact rfl
  case f => exact fun _ => ?ps
noncomputable def lb8 : Expr := by
  refine (?f : st8 = .Return (some (.Compare ?l ?ops [.Call ?fn ?as [⟨?ka, .Lambda ?ps ?bd ?sc ?pp, ?kp⟩] ?cp] ?q)) ?p → Expr) ?h
  case h => exact rfl
  case f => exact fun _ => ?bd
noncomputable def lc8 : Scope := by
  refine (?f : st8 = .Return (some (.Compare ?l ?ops [.Call ?fn ?as [⟨?ka, .Lambda ?ps ?bd ?sc ?pp, ?kp⟩] ?cp] ?q)) ?p → Scope) ?h
  case h => exact rfl
  case f => exact fun _ => ?sc
theorem clos8 (L fa : Addr) : closureFor lc8 (lawE L fa) = pure [(Str.ofString "drawn", L + 1 + 1)] := by with_unfolding_all rfl
noncomputable abbrev lamO8 (L fa c2 : Addr) (mg : Str → Option Value) (ctv : Value) : Obj := kla_obj "<lambda>" ((lawE L fa).qual ++ "<lambda>") la8 lb8 lc8 [(Str.ofString "drawn", L + 1 + 1)] ((mg "__name__").getD .none) c2 ctv
local macro_rules | `(tactic| walk_at "subscriptTail") => `(tactic| (k_here; refine stop_here ?_))
local macro_rules | `(tactic| walk_at "subscriptTail Name Name ref int") => `(tactic| (k_here; refine stop_here ?_))
local macro_rules | `(tactic| walk_at "eval Name") => `(tactic| first | (k_here; k_dflt (refine' nameX_L ?F ?v ?_ ?a ?b; (case F => k_asm); (case a => rfl); (case b => rfl); (case v => exact rfl); k_whole)) | (k_here; (with_reducible show wpAny _ _ (eval (Expr.Name (Str.ofString "drawn") _) _) _ _ _); refine stop_here ?_))
set_option maxHeartbeats 8000000 in
theorem cLam8 {w : World} {p : Program} {loose : List Str} {mean : ExcName → Option Value} {mg mb : Str → Option Value}
    {dp un : Nat} {gd : Option (List Code)} {cn : Str} {cs : Scope} {a : Addr} {ccd : Value} {cl : List (Str × Addr)} {outer : List Env} {A₀ : Around} {base h₀ : Heap} {L : Addr} {m : Str → Option Value} {s : Shared} {Q E : Value → Shared → Prop} {v : Value} {ti : Tok} {lam c2 Lw fa R : Addr} {ctv : Value} {i : Nat} {ys : List Value} {oD : Obj}
    (ho : s.heap.get? lam = some (lamO8 Lw fa c2 mg ctv)) (hcd : s.heap.CodeRec (.ref c2) (Str.ofString "law.<locals>." ++ Str.ofString "<lambda>"))
    (hc : s.heap.get? (Lw + 1 + 1) = some oD) (hD : oD.data = .cell (some (.ref R))) (hl : s.heap.IsList R ys.toArray) (hx : ys[i]? = some v) (hn : i ≤ 5)
    (B : Below A₀ base outer h₀) (F : Fr h₀ L s.heap m) (X : (KK w.params).In h₀) (T : Top p loose mean mg mb h₀) (hk : cs.kind = .function) (hd : dp + 8 < recursionLimit) (hu : un + 120 < cLine)
    (hret : ∀ (h' : Heap) (tk' : Nat), s.heap.StaysIn h' → Q v { s with heap := h', toks := tk' }) :
    wpAny (model PySem.Challenge.rw_mr0202_01.row.prog w) (ktrTop dp un gd cn cs L a ccd cl outer) (call (.ref lam) [.int (i : Int) ti]) Q E s := by
  revert X; k_fill; intro X
  refine wpAny_call ?_
  (k_dflt (refine' own_lam ?k1 ?k2 ?k3 ?k5 ?kA ?kF ?kK ?k6 ?k7 ?k8 ?k9 ?kB ?_ ?c2 ?c3 ?c4 ?c5; (case kA => exact rfl); (case kF => exact rfl); (case kK => assumption); (case k1 => k_asm); (case k2 => k_asm); (case k3 => k_asm); (case k5 => k_asm); (case k6 => exact ho); (case k7 => exact hcd); (case k8 => (show dp < _; omega)); (case k9 => exact rfl); (case c5 => decide); (case kB => exact locs rfl); (case c2 => exact rfl); (case c3 => exact rfl); (case c4 => exact rfl); k_whole; intro L' h' F' N' B' X' T'; (try dsimp only); (try k_fold)))
  delta lb8
  k_steps
  show wpAny _ _ (eval (Expr.Name (Str.ofString "drawn") _) _) _ _ _
  refine wpAny_Name (wpAny_loadName_free rfl rfl (by rfl) ⟨_, F'.keep _ _ hc, hD⟩ ?_ (by decide)) (by decide)
  k_steps
  show wpAny _ _ (subscriptTail _ _ _ _) _ _ _
  refine item_listL (hl.at fun o e => F'.keep _ _ e) (by omega) (by omega) (by rw [Int.toNat_natCast]; exact hx) ?_
  k_steps
  show Q _ _
  exact hret _ _ (by assumption)
end Mine
end
theorem Mine.freshLZ : True := by k_with_none; w_top off; first | walk1 | trivial
-- LZ
section
open PySem PySem.W PyProof.Rows PySem.Calls
set_option Elab.async false
set_option maxRecDepth 100000
set_option linter.unusedVariables false
namespace Mine
open Hd (KK)
def RowKs (rs : List (Addr × List Int)) (ks : List Value) : Prop := ∀ (i : Nat) (k : Value), ks[i]? = some k → ∃ r, rs[i]? = some r ∧ k = .ref r.1
section
variable {w : World} {p : Program} {loose : List Str} {mean : ExcName → Option Value} {mg mb : Str → Option Value} {h₀ : Heap} {L fa R : Addr} {m : Str → Option Value} {s : Shared} {oD : Obj} {rs : List (Addr × List Int)}
theorem keys_rows {lam c9 kS : Addr} {base : List (Addr × Obj)} {ctv : Value} {Fin : List Value → Nat → Shared → Prop}
    (B : Below callerA h₀ [] h₀) (X : (KK w.params).In h₀) (T : Top p loose mean mg mb h₀) (hl : (lam, lamO8 L fa c9 mg ctv) ∈ base) (hc : RecD base c9 (Str.ofString "law.<locals>." ++ Str.ofString "<lambda>")) (hoD : (L + 1 + 1, oD) ∈ base) (hD : oD.data = .cell (some (.ref R))) (hr : RowsD base R rs) :
    ∀ (r ks : List Value) (e : Nat) (h : Heap) (tk : Nat), Fr h₀ L h m → News h₀ L h ((kS, seqObj "list" ks.toArray e) :: base) → (∀ q ∈ base, q.1 ≠ kS) → RowKs rs ks →
      (∀ (i : Nat) (v : Value), r[i]? = some v → ∃ t, v = Value.int ((ks.length + i : Nat) : Int) t) → ks.length + r.length ≤ rs.length →
      (∀ ks' e' h' tk', ks'.length = ks.length + r.length → Fr h₀ L h' m → News h₀ L h' ((kS, seqObj "list" ks'.toArray e') :: base) → RowKs rs ks' → Fin ks' e' { s with heap := h', toks := tk' }) →
      KatKeys PySem.Challenge.rw_mr0202_01.row.prog w (lawA L fa).in1.in1 h₀ L m kS (.ref lam) Fin r ks e { s with heap := h, toks := tk }
  | [], ks, e, h, tk, F, N, ap, I, hi, hlen, fin => KatKeys.nil (fin ks e h tk (by simp) F N I)
  | v :: r, ks, e, h, tk, F, N, ap, I, hi, hlen, fin => by
    obtain ⟨tv, rfl⟩ := hi 0 v rfl
    have hlt : ks.length < rs.length := by simp at hlen; omega
    have h5 := hr.2.2.1
    obtain ⟨nR, hR⟩ := hr.1
    have Nb : News h₀ L h base := fun q hq => N q (List.mem_cons_of_mem _ hq)
    refine KatKeys.cons (cLam8 (s := { s with heap := h, toks := tk }) (i := ks.length) (v := .ref (rs[ks.length]).1) (dp := callerA.depth + 1) (outer := []) (B := B) (F := F) (X := X) (T := T) (Nb _ hl).1 (recD_of Nb hc) (Nb _ hoD).1 hD (isl Nb hR) (by simp [hlt]) (by omega) rfl (by show callerA.depth + 1 + 8 < recursionLimit; decide +kernel) (by show callerA.units + 3 + 1 + 1 + 120 < cLine; decide +kernel) fun h' tk' st => ?_)
    have F' : Fr h₀ L h' m := F.keeps st
    have N' : News h₀ L h' ((kS, seqObj "list" ks.toArray e) :: base) := N.keeps st
    refine KatBack.intro (news := (kS, seqObj "list" ks.toArray e) :: base) (g := fun o => (kS, o) :: base) F' N' (UpdF.head ap) fun h'' c F'' N'' => ?_
    refine keys_rows B X T hl hc hoD hD hr r (ks ++ [.ref (rs[ks.length]).1]) c h'' tk' F'' N'' ap (fun i k hik => ?_) (fun i v hv => ?_) (by simp at hlen ⊢; omega) fun ks' e' h3 tk3 hl3 => fin ks' e' h3 tk3 (by simp at hl3 ⊢; omega)
    · rcases Nat.lt_or_ge i ks.length with hlt' | hge
      · rw [List.getElem?_append_left hlt'] at hik
        exact I i k hik
      · have hi0 : i = ks.length := by
          have := (List.getElem?_eq_some_iff.mp hik).1
          simp at this; omega
        subst hi0
        simp at hik
        exact ⟨rs[ks.length], by simp [hlt], hik.symm⟩
    · obtain ⟨t, ht⟩ := hi (i + 1) v (by simpa using hv)
      exact ⟨t, by rw [ht, List.length_append, List.length_singleton]; congr 2; omega⟩
/-- the second sort -/
theorem sorted2 {lam c9 P : Addr} {ctv : Value} {news : List (Addr × Obj)} {Q E : Value → Shared → Prop} {pt pu pv : Tok}
    (B : Below callerA h₀ [] h₀) (X : (KK w.params).In h₀) (T : Top p loose mean mg mb h₀) (hl : (lam, lamO8 L fa c9 mg ctv) ∈ news) (hc : RecD news c9 (Str.ofString "law.<locals>." ++ Str.ofString "<lambda>")) (hoD : (L + 1 + 1, oD) ∈ news) (hD : oD.data = .cell (some (.ref R))) (hr : RowsD news R rs)
    (F : Fr h₀ L s.heap m) (N : News h₀ L s.heap news) (hPm : (P, rangeO rs.length pt pu pv) ∈ news)
    (hret : ∀ h' tk' Dl c vs, IdxV rs.length vs → Fr h₀ L h' m → News h₀ L h' ((Dl, listOf (List.toArray (sortOut rs vs)) c) :: news) → Q (.ref Dl) { s with heap := h', toks := tk' }) :
    wpAny (model PySem.Challenge.rw_mr0202_01.row.prog w) (lawA L fa) (call (.builtin "sorted") [.ref P] [(Str.ofString "key", .ref lam)]) Q E s := by
  refine sorted_range F N rfl (N _ hPm).1 (by have := hr.2.1; omega) hr.2.2.1 (ksk_s1 _ _) (fun x => ksk_l1 _ _) (fun x => ksk_t1 lam x) fun vs Dl kS e1 h' tk hv hvi F' N' hDl hk => ?_
  have lt5 : ∀ q ∈ news, q.1 < s.heap.objs.size := fun q hq => Heap.lt_size (N q hq).1
  have bk : ∀ q ∈ (Dl, seqObj "list" #[] e1) :: news, q.1 ≠ kS := fun q hq => by
    rcases List.mem_cons.mp hq with rfl | hq
    · exact Nat.ne_of_lt hk
    · exact Nat.ne_of_lt (Nat.lt_of_lt_of_le (lt5 q hq) (Nat.le_trans hDl (Nat.le_of_lt hk)))
  have up : ∀ q ∈ news, q ∈ (Dl, seqObj "list" #[] e1) :: news := fun q hq => List.mem_cons_of_mem _ hq
  refine keys_rows (base := (Dl, seqObj "list" #[] e1) :: news) B X T (up _ hl) (hc.mono up) (up _ hoD) hD (rows_mono hr up) vs [] 0 h' tk F' N' bk (fun i k hi => by simp at hi) (fun i v hi => by simpa using hvi i v hi) (by simp [hv]) ?_
  intro ks' e' h3 tk3 hl3 F3 N3 I
  have hl' : ks'.length = rs.length := by simpa [hv] using hl3
  have inB : ∀ q ∈ news, q ∈ (kS, seqObj "list" ks'.toArray e') :: ((Dl, seqObj "list" #[] e1) :: news) := fun q hq => List.mem_cons_of_mem _ (List.mem_cons_of_mem _ hq)
  have row : ∀ (i : Nat) (k : Value), ks'[i]? = some k → ∃ r vs, rs[i]? = some r ∧ k = .ref r.1 ∧ IntsAre vs r.2 ∧ ∃ n, (r.1, listOf vs.toArray n) ∈ news := fun i k hi => by
    obtain ⟨r, e1, e2⟩ := I i k hi
    obtain ⟨va, na, h1, h2, -, -⟩ := hr.2.2.2 r (List.mem_of_getElem? e1)
    exact ⟨r, va, e1, e2, h2, na, h1⟩
  refine fin_sort (n := rs.length) (lt := ltR rs) (ex := []) hr.2.1 hr.2.2.1 hv F3 N3 bk ?ad ?kind ?cmp ?out
  case ad =>
    intro q hq e
    exact absurd (lt5 q hq) (Nat.not_lt.mpr (e ▸ hDl))
  case kind =>
    intro Q' hq
    refine kas_kind (T := .type "list") (by have := hr.2.1; omega) (fun v hv' => ?_) (by decide) (by simp) hq
    obtain ⟨i, hi⟩ := List.getElem?_of_mem hv'
    obtain ⟨r, va, e1, rfl, h2, na, hm⟩ := row i v hi
    exact (Looks.ld (N3 _ (inB _ hm)).1).andThen .now
  case cmp =>
    intro i j Cc h4 tk4 hi hj F4 N4 hcc
    obtain ⟨ra, va, a1, a2, a3, na, ma⟩ := row i ks'[i] (by simp [hl', hi])
    obtain ⟨rb, vb, b1, b2, b3, nb, mb'⟩ := row j ks'[j] (by simp [hl', hj])
    have e1' : ks'.getD i Value.none = .ref ra.1 := by rw [← a2]; simp [hl', hi]
    have e2' : ks'.getD j Value.none = .ref rb.1 := by rw [← b2]; simp [hl', hj]
    rw [e1', e2']
    refine lt_listkeys (s := { s with heap := h4, toks := tk4 }) (isl N4 (inB _ ma)) (isl N4 (inB _ mb')) a3 b3 (by show callerA.units + 3 + 1 + 1 < cLine; decide +kernel) ?_
    have e : decide (ra.2 < rb.2) = ltR rs i j := by
      unfold ltR
      rw [List.getD_eq_getElem?_getD, List.getD_eq_getElem?_getD, List.getElem?_map, List.getElem?_map, a1, b1]
      rfl
    rw [e]
    exact hcc _ _ F4 N4
  case out =>
    intro h4 tk4 c F4 N4
    exact hret h4 tk4 Dl c vs ⟨hv, hvi⟩ F4 N4
end
end Mine
end
theorem Mine.freshLE8 : True := by k_with_none; w_top off; first | walk1 | trivial
-- LE8
section
open PySem PySem.W PyProof.Rows PySem.Calls
set_option Elab.async false
set_option maxRecDepth 100000
set_option linter.unusedVariables false
namespace Mine
open Hd (KK)
open PySem.SeqAt
theorem kBnd_run {α : Type} {n : Nat} {p : α → Bool} (lt : Nat → Nat → Bool) : ∀ t : KasT α, kBnd n p t = true → p (kRun lt t) = true
  | .ret a, hb => hb
  | .ask i j k, hb => by
    unfold kBnd at hb
    simp only [Bool.and_eq_true, decide_eq_true_eq] at hb
    refine kBnd_run (n := n) lt (k (lt i j)) ?_
    cases lt i j
    · exact hb.2
    · exact hb.1.2
theorem ints_map {n : Nat} {vs : List Value} (hv : IdxV n vs) : ∀ l : List Nat, (∀ i ∈ l, i < n) → IntsAre (l.map fun i => vs.getD i Value.none) (l.map fun (i : Nat) => (i : Int))
  | [], _ => .nil
  | i :: l, h => by
    have hi : i < vs.length := by rw [hv.1]; exact h i List.mem_cons_self
    obtain ⟨t, ht⟩ := hv.2 i vs[i] (by simp [hi])
    have e : vs.getD i Value.none = .int (i : Int) t := by rw [← ht]; simp [hi]
    show IntsAre (vs.getD i Value.none :: _) _
    rw [e]
    exact .cons _ _ (ints_map hv l fun j hj => h j (List.mem_cons_of_mem _ hj))
theorem ints_out {rs : List (Addr × List Int)} {vs : List Value} (h3 : 3 ≤ rs.length) (h5 : rs.length ≤ 5) (hv : IdxV rs.length vs) : IntsAre (sortOut rs vs) ((kRun (ltR rs) (kas_sort rs.length)).toList.map fun (i : Nat) => (i : Int)) := by
  refine ints_map hv _ fun i hi => ?_
  have z := kBnd_run (ltR rs) _ (bndN h3 h5)
  unfold okP at z
  simp only [Bool.and_eq_true, Array.all_eq_true', decide_eq_true_eq] at z
  exact z.2 i (by simpa using hi)
local macro_rules | `(tactic| walk_at "mem") => `(tactic| (repeat (first | exact List.mem_cons_self | assumption | apply List.mem_cons_of_mem)))
local macro_rules | `(tactic| walk_at "call builtin:sorted") => `(tactic| (k_here; refine stop_here ?_))
local macro_rules | `(tactic| walk_at "eval Lambda") => `(tactic| (k_here; refine stop_here ?_))
local macro_rules | `(tactic| walk_at "compareOp Eq ref ref") => `(tactic| (k_here; refine stop_here ?_))
local macro_rules | `(tactic| walk_at "eval Name") => `(tactic| (k_here; k_dflt (refine' nameX_L ?F ?v ?_ ?a ?b; (case F => k_asm); (case a => rfl); (case b => rfl); (case v => assumption); k_whole)))
set_option maxHeartbeats 8000000 in
theorem s8 {w : World} {p : Program} {loose : List Str} {mean : ExcName → Option Value} {mg mb : Str → Option Value} {h₀ : Heap} {L fa S P R c' : Addr} {m : Str → Option Value} {s : Shared} {Q : Flow → Shared → Prop} {E : Value → Shared → Prop} {oS oD oP : Obj} {t1 : Array Value} {rs : List (Addr × List Int)} {ys : List Value}
    {D : List (Addr × Obj)} {C ns mm f1 f2 k3 k4 Lc f c2 bT : Addr} {oc : Obj} {es : Array DictEntry} {tn t3 tm : Tok} {u3 v3 u4 v4 ctv : Value} {pt pu pv : Tok}
    (B : Below callerA h₀ [] h₀) (X : (KK w.params).In h₀) (T : Top p loose mean mg mb h₀) (C2 : CodeHd h₀ 170 168) (hL : @LT.lt Nat instLTNat 168 L) (OD : Off5 L D) (K : KLed w.params L fa mg D C ns mm f1 f2 k3 k4 Lc f c2 bT oc es tn t3 tm u3 v3 u4 v4 ctv)
    (hm : m (Str.ofString "order") = some (.ref C)) (F : Fr h₀ L s.heap m) (N : News h₀ L s.heap (Five L oS oD oP t1 (#[rawInt 143, rawInt 22, .ref c'] ++ #[rawInt 151, rawInt 23, .ref c2]) D))
    (hS : oS.data = .cell (some (.ref S))) (hD : oD.data = .cell (some (.ref R))) (hP : oP.data = .cell (some (.ref P))) (hPm : (P, rangeO rs.length pt pu pv) ∈ D) (hr : RowsD D R rs) (hs : SpellD D S rs ys)
    (hret : ∀ h' tk' c9 D', Fr h₀ L h' m → News h₀ L h' (Five L oS oD oP t1 (#[rawInt 143, rawInt 22, .ref c'] ++ #[rawInt 151, rawInt 23, .ref c2] ++ #[rawInt 152, rawInt 59, .ref c9]) D') → Q (.ret (.bool true)) { s with heap := h', toks := tk' }) :
    wpAny (model PySem.Challenge.rw_mr0202_01.row.prog w) (lawA L fa) (exec st8 (lawE L fa)) Q E s := by
  have N5 := N
  delta st8
  unfold Five at N
  revert X; k_fill; intro X
  k_steps
  show wpAny _ _ (call (.builtin "sorted") [.ref P] [(Str.ofString "key", .ref C)]) _ _ _
  clear N
  refine sorted1 B X T K F N5 hS hPm hr hs fun h7 tk7 Dl c vs hv F7 N7 hDl => ?_
  have size0 : @LT.lt Nat instLTNat 168 s.heap.objs.size := Nat.lt_trans hL F.ns.lt
  clear F N5
  show wpAny _ _ _ _ _ _
  k_steps
  show wpAny _ _ (eval (Expr.Lambda _ _ _ _) _) _ _ _
  refine lam_new (own := [(Dl, listOf (List.toArray (sortOut rs vs)) c), (L + 1 + 1 + 1, oS), (L + 1 + 1, oD), (L + 1, oP), (135, tabObj t1)]) (rest := D) (P := 168) (c := 170) F7 N7 T C2 rfl rfl trivial (by rfl) (clos8 L fa) rfl ?h1 ?h2 ?_
  case h1 =>
    intro q hq
    simp only [List.mem_cons, List.not_mem_nil, or_false] at hq
    rcases hq with rfl | rfl | rfl | rfl | rfl
    · exact (Nat.ne_of_gt (Nat.lt_of_lt_of_le size0 hDl) : @Ne Nat Dl 168)
    · exact (by omega : @Ne Nat (L + 1 + 1 + 1) 168)
    · exact (by omega : @Ne Nat (L + 1 + 1) 168)
    · exact (by omega : @Ne Nat (L + 1) 168)
    · exact (by decide : @Ne Nat 135 168)
  case h2 => exact fun q hq => OD q hq 168 (by simp)
  intro f9 c9 oc9 vs9 t9 ctv9 h8 tk8 F8 N8 d1 d2 g1 g2
  show wpAny _ _ _ _ _ _
  simp only [List.cons_append, List.nil_append] at N8
  clear N7 F7
  k_steps
  show wpAny _ _ (call (.builtin "sorted") [.ref P] [(Str.ofString "key", .ref f9)]) _ _ _
  refine sorted2 (lam := f9) (c9 := c9) (P := P) (oD := oD) (R := R) (ctv := ctv9) (mg := mg) B X T (by walk_at "mem") ⟨_, _, _, by walk_at "mem", d1, d2⟩ (by walk_at "mem") hD (rows_mono hr fun q hq => by walk_at "mem") F8 N8 (by walk_at "mem") fun h9 tk9 Dl2 cc vs2 hv2 F9 N9 => ?_
  clear F8 N8
  show wpAny _ _ _ _ _ _
  obtain ⟨zs, i1, i2⟩ : ∃ zs, IntsAre (sortOut rs vs) zs ∧ IntsAre (sortOut rs vs2) zs := ⟨_, ints_out hr.2.1 hr.2.2.1 hv, ints_out hr.2.1 hr.2.2.1 hv2⟩
  k_steps
  show wpAny _ _ (compareOp CmpOp.Eq _ _) _ _ _
  refine eq_dataH (reads_list_at (N9 (Dl, listOf (List.toArray (sortOut rs vs)) c) (by walk_at "mem")).1 rfl rfl (by simpa using reads_ints i1)) (reads_list_at (N9 _ List.mem_cons_self).1 rfl rfl (by simpa using reads_ints i2)) (ints_shaped _) (ints_shaped _) (lawUnits L fa) ?_
  rw [ints_eqv, decide_eq_true rfl]
  k_steps
  refine hret h9 tk9 c9 D F9 fun q hq => ?_
  rcases five_or hq with rfl | rfl | rfl | rfl | rfl | hq'
  · exact N9 _ (by walk_at "mem")
  · exact N9 _ (by walk_at "mem")
  · exact N9 _ (by walk_at "mem")
  · exact N9 _ (by walk_at "mem")
  · exact N9 _ (by walk_at "mem")
  · exact N9 _ (by walk_at "mem")
end Mine
end
theorem Mine.freshLG : True := by k_with_none; w_top off; first | walk1 | trivial
-- LG
section
open PySem PySem.W PyProof.Rows PySem.Calls
set_option Elab.async false
set_option maxRecDepth 100000
set_option linter.unusedVariables false
namespace Mine
open Hd (KK)
theorem spell_mono {D D' : List (Addr × Obj)} {S : Addr} {rs : List (Addr × List Int)} {ys : List Value} (h : SpellD D S rs ys) (sub : ∀ p ∈ D, p ∈ D') : SpellD D' S rs ys := ⟨sub _ h.1, h.2⟩
theorem seq_ret {M : Model} {A : Around} {E : Value → Shared → Prop} {s : Shared} {st : Stmt} {env : Env} {Q : Flow → Shared → Prop}
    (h : wpAny M A (exec st env) (fun fl s' => (∃ v, fl = .ret v) ∧ Q fl s') E s) : wpAny M A (execs [st] env) Q E s := by
  rw [execs_cons]
  refine wpAny_bind (wpAny_mono h (fun fl s' hq => ?_) fun _ _ e => e)
  obtain ⟨⟨v, rfl⟩, hq⟩ := hq
  exact wpAny_pure hq
/-- the law's body, walked whole -/
theorem law_run {w : World} {p : Program} {loose : List Str} {mean : ExcName → Option Value} {mg mb : Str → Option Value} {h₀ : Heap} {L fa a : Addr} {m : Str → Option Value} {s : Shared} {Q : Flow → Shared → Prop} {E : Value → Shared → Prop} {oS oD oP : Obj} {vs : List Value} {ns : List Int}
    (B : Below callerA h₀ [] h₀) (X : (KK w.params).In h₀) (T : Top p loose mean mg mb h₀) (C1 : CodeHd h₀ 139 135) (C2 : CodeHd h₀ 170 168) (hl : h₀.IsList a vs.toArray) (hi : IntsAre vs ns) (h63 : ns.length ≤ 63)
    (F : Fr h₀ L s.heap m) (N : News h₀ L s.heap (Five L oS oD oP #[] #[] [])) (hm : m (Str.ofString "script") = some (.ref a)) (hS : oS.data = .cell none) (hD : oD.data = .cell none) (hP : oP.data = .cell none) (hL : @LT.lt Nat instLTNat 168 L)
    (hret : ∀ h' tk' m' oS' oD' oP' t1 t2 D, Fr h₀ L h' m' → News h₀ L h' (Five L oS' oD' oP' t1 t2 D) → Q (.ret (.bool true)) { s with heap := h', toks := tk' }) :
    wpAny (model PySem.Challenge.rw_mr0202_01.row.prog w) (lawA L fa) (execs [st1, st2, st3, st4, st5, st6, st7, st8] (lawE L fa)) Q E s := by
  refine seq_raw (s1 B X T hl hi h63 F N hm hD hL fun h1 tk1 oD1 D1 R rs F1 N1 hD1 hr1 O1 => ⟨rfl, ?_⟩)
  refine seq_raw (s2 (s := { s with heap := h1, toks := tk1 }) B X T C1 C2 F1 N1 hS hD1 hL O1 hr1 fun h2 tk2 S c' oc vs2 t ys oS2 F2 N2 hS2 O2 hd2 hv2 hy1 hy2 => ⟨rfl, ?_⟩)
  have sub2 : ∀ q ∈ D1, q ∈ (S, LCg.lst ys) :: (c', oc) :: D1 := fun q hq => by simp [hq]
  have hr2 := rows_mono hr1 sub2
  have hs2 : SpellD ((S, LCg.lst ys) :: (c', oc) :: D1) S rs ys := ⟨List.mem_cons_self, hy1, hy2⟩
  refine seq_raw (s3 (s := { s with heap := h2, toks := tk2 }) B X T F2 N2 hS2 hD1 hr2 hs2 fun h3 tk3 F3 N3 => ⟨rfl, ?_⟩)
  refine seq_raw (s4 (s := { s with heap := h3, toks := tk3 }) B X T F3 N3 hS2 hD1 hr2 hs2 fun h4 tk4 F4 N4 => ⟨rfl, ?_⟩)
  refine seq_raw (s5 (s := { s with heap := h4, toks := tk4 }) B X T F4 N4 hL hD1 hP hr2 O2 fun h5 tk5 oP5 P pt pu pv F5 N5 hP5 O5 => ⟨rfl, ?_⟩)
  have sub5 : ∀ q ∈ (S, LCg.lst ys) :: (c', oc) :: D1, q ∈ (P, rangeO rs.length pt pu pv) :: (S, LCg.lst ys) :: (c', oc) :: D1 := fun q hq => List.mem_cons_of_mem _ hq
  have hr5 := rows_mono hr2 sub5
  have hs5 := spell_mono hs2 sub5
  refine seq_raw (s6 (s := { s with heap := h5, toks := tk5 }) B X T F5 N5 hS2 hD1 hP5 List.mem_cons_self hr5 hs5 fun h6 tk6 F6 N6 => ⟨rfl, ?_⟩)
  refine seq_raw (s7 (s := { s with heap := h6, toks := tk6 }) B X T C2 hL O5 F6 N6 fun h7 tk7 c1 D7 C nsA mm f1 f2 k3 k4 Lc f c2 bT oc7 es tn t3 tm u3 v3 u4 v4 ctv F7 N7 sub7 O7 K7 => ⟨rfl, ?_⟩)
  have hr7 := rows_mono hr5 sub7
  have hs7 := spell_mono hs5 sub7
  refine seq_ret ?_
  exact s8 (s := { s with heap := h7, toks := tk7 }) B X T C2 hL O7 K7 (if_pos rfl) F7 N7 hS2 hD1 hP5 (sub7 _ List.mem_cons_self) hr7 hs7 fun h8 tk8 c9 D8 F8 N8 => ⟨⟨_, rfl⟩, hret h8 tk8 _ _ _ _ _ _ _ F8 N8⟩
end Mine
end
theorem Mine.freshLF : True := by k_with_none; w_top off; first | walk1 | trivial
-- LF
section
open PySem PySem.W PyProof.Rows PySem.Calls
set_option Elab.async false
namespace Mine
open Hd (KK)
theorem le63 {n : Nat} (h : ¬ (63 : Int) < (n : Int)) : n ≤ 63 := by omega
set_option maxRecDepth 100000 in
set_option maxHeartbeats 8000000 in
theorem t1 : PySem.Challenge.rw_mr0202_01.Holds := by
  refine Hd.hd ?_
  delta Hd.lawD
  k_go0
  all_goals try k_fold
  show wpAny _ (lawA _ _) (execs [st1, st2, st3, st4, st5, st6, st7, st8] (lawE _ _)) _ _ _
  refine' law_run ?B ?X ?T ?C1 ?C2 ?hl ?hi ?h63 ?F ?N ?hm ?hS ?hD ?hP ?hL ?_
  case X => assumption
  case B => assumption
  case T => assumption
  case C1 => assumption
  case C2 => assumption
  case hl => assumption
  case hi => assumption
  case h63 => exact le63 (by assumption)
  case F => assumption
  case N => assumption
  case hm => exact rfl
  case hS => exact Eq.trans (by assumption) rfl
  case hD => exact Eq.trans (by assumption) rfl
  case hP => exact Eq.trans (by assumption) rfl
  case hL => exact And.right (by assumption)
  intro h' tk' m' oS' oD' oP' t1' t2' D' F9 N9
  unfold Five at N9

  k_steps

end Mine
end

theorem PySem.Challenge.cw_mr0202_01_holds : PySem.Challenge.rw_mr0202_01.Holds :=
  Mine.t1
