import PyProof.Rows.All
import Wide.All
import OpenK.AllK
import Wide.FinOn
import PySem.Challenge.RW_oc0137_01
open PySem PySem.W PyProof.Rows
set_option Elab.async false
set_option maxRecDepth 100000
set_option maxHeartbeats 8000000
set_option linter.all false
namespace Mine
noncomputable section
noncomputable abbrev pw : Program := PySem.Challenge.pw_oc0137_01
/-- what the text writes behind a def's head: read off the row -/
noncomputable def fnOf (i : Nat) : Arguments × List Stmt × Scope := match pw.main.body[i]? with
  | some (.FunctionDef _ a b _ _ _ sc _ _ _) => (a, b, sc)
  | _ => default
noncomputable abbrev a13 : {x : Arguments // x = (fnOf 13).1} := ⟨_, by
  conv => rhs; whnf⟩
noncomputable abbrev b13 : {x : List Stmt // x = (fnOf 13).2.1} := ⟨_, by
  conv => rhs; whnf⟩
noncomputable abbrev c13 : {x : Scope // x = (fnOf 13).2.2} := ⟨_, by
  conv => rhs; whnf⟩
noncomputable abbrev a14 : {x : Arguments // x = (fnOf 14).1} := ⟨_, by
  conv => rhs; whnf⟩
noncomputable abbrev b14 : {x : List Stmt // x = (fnOf 14).2.1} := ⟨_, by
  conv => rhs; whnf⟩
noncomputable abbrev c14 : {x : Scope // x = (fnOf 14).2.2} := ⟨_, by
  conv => rhs; whnf⟩
noncomputable abbrev a18 : {x : Arguments // x = (fnOf 18).1} := ⟨_, by
  conv => rhs; whnf⟩
noncomputable abbrev b18 : {x : List Stmt // x = (fnOf 18).2.1} := ⟨_, by
  conv => rhs; whnf⟩
noncomputable abbrev c18 : {x : Scope // x = (fnOf 18).2.2} := ⟨_, by
  conv => rhs; whnf⟩
noncomputable abbrev a20 : {x : Arguments // x = (fnOf 20).1} := ⟨_, by
  conv => rhs; whnf⟩
noncomputable abbrev b20 : {x : List Stmt // x = (fnOf 20).2.1} := ⟨_, by
  conv => rhs; whnf⟩
noncomputable abbrev c20 : {x : Scope // x = (fnOf 20).2.2} := ⟨_, by
  conv => rhs; whnf⟩
noncomputable abbrev a21 : {x : Arguments // x = (fnOf 21).1} := ⟨_, by
  conv => rhs; whnf⟩
noncomputable abbrev b21 : {x : List Stmt // x = (fnOf 21).2.1} := ⟨_, by
  conv => rhs; whnf⟩
noncomputable abbrev c21 : {x : Scope // x = (fnOf 21).2.2} := ⟨_, by
  conv => rhs; whnf⟩
noncomputable abbrev a23 : {x : Arguments // x = (fnOf 23).1} := ⟨_, by
  conv => rhs; whnf⟩
noncomputable abbrev b23 : {x : List Stmt // x = (fnOf 23).2.1} := ⟨_, by
  conv => rhs; whnf⟩
noncomputable abbrev c23 : {x : Scope // x = (fnOf 23).2.2} := ⟨_, by
  conv => rhs; whnf⟩
noncomputable abbrev a44 : {x : Arguments // x = (fnOf 44).1} := ⟨_, by
  conv => rhs; whnf⟩
noncomputable abbrev b44 : {x : List Stmt // x = (fnOf 44).2.1} := ⟨_, by
  conv => rhs; whnf⟩
noncomputable abbrev c44 : {x : Scope // x = (fnOf 44).2.2} := ⟨_, by
  conv => rhs; whnf⟩
noncomputable abbrev a46 : {x : Arguments // x = (fnOf 46).1} := ⟨_, by
  conv => rhs; whnf⟩
noncomputable abbrev b46 : {x : List Stmt // x = (fnOf 46).2.1} := ⟨_, by
  conv => rhs; whnf⟩
noncomputable abbrev c46 : {x : Scope // x = (fnOf 46).2.2} := ⟨_, by
  conv => rhs; whnf⟩
noncomputable abbrev a47 : {x : Arguments // x = (fnOf 47).1} := ⟨_, by
  conv => rhs; whnf⟩
noncomputable abbrev b47 : {x : List Stmt // x = (fnOf 47).2.1} := ⟨_, by
  conv => rhs; whnf⟩
noncomputable abbrev c47 : {x : Scope // x = (fnOf 47).2.2} := ⟨_, by
  conv => rhs; whnf⟩
noncomputable abbrev a48 : {x : Arguments // x = (fnOf 48).1} := ⟨_, by
  conv => rhs; whnf⟩
noncomputable abbrev b48 : {x : List Stmt // x = (fnOf 48).2.1} := ⟨_, by
  conv => rhs; whnf⟩
noncomputable abbrev c48 : {x : Scope // x = (fnOf 48).2.2} := ⟨_, by
  conv => rhs; whnf⟩
noncomputable abbrev a49 : {x : Arguments // x = (fnOf 49).1} := ⟨_, by
  conv => rhs; whnf⟩
noncomputable abbrev b49 : {x : List Stmt // x = (fnOf 49).2.1} := ⟨_, by
  conv => rhs; whnf⟩
noncomputable abbrev c49 : {x : Scope // x = (fnOf 49).2.2} := ⟨_, by
  conv => rhs; whnf⟩
noncomputable abbrev a50 : {x : Arguments // x = (fnOf 50).1} := ⟨_, by
  conv => rhs; whnf⟩
noncomputable abbrev b50 : {x : List Stmt // x = (fnOf 50).2.1} := ⟨_, by
  conv => rhs; whnf⟩
noncomputable abbrev c50 : {x : Scope // x = (fnOf 50).2.2} := ⟨_, by
  conv => rhs; whnf⟩
noncomputable abbrev a51 : {x : Arguments // x = (fnOf 51).1} := ⟨_, by
  conv => rhs; whnf⟩
noncomputable abbrev b51 : {x : List Stmt // x = (fnOf 51).2.1} := ⟨_, by
  conv => rhs; whnf⟩
noncomputable abbrev c51 : {x : Scope // x = (fnOf 51).2.2} := ⟨_, by
  conv => rhs; whnf⟩
noncomputable def hx (d : Nat) : Nat := bif Nat.blt d 10 then 48 + d else 55 + d
noncomputable def tx (i : Nat) : Value := .str ⟨#[61, hx (i / 16), hx (i % 16)]⟩ (195 + 4 * i)
/-- n texts from i on, those of m turned -/
noncomputable def mx : Nat → Nat → List (Nat × Nat × Nat) → List Value
  | 0, _, _ => []
  | n + 1, i, [] => tx i :: mx n (i + 1) []
  | n + 1, i, (j, c, t) :: m => bif Nat.beq i j then .str ⟨#[c]⟩ t :: mx n (i + 1) m else tx i :: mx n (i + 1) ((j, c, t) :: m)
noncomputable abbrev ent (P : Params) (k : Value) (v : Value) : DictEntry := ⟨(match k with | .str x _ => PyData.keyHash P x | _ => 0), k, v⟩
noncomputable def o11 (P : Params) : Obj := ⟨(.type "tuple"), none, (.seq #[] 0), #[]⟩
noncomputable def o12 (P : Params) : Obj := ⟨(.none), none, (.fields #[]), #[]⟩
noncomputable def o13 (P : Params) : Obj := ⟨(.type "code"), none, (.fields #[(.str (Str.ofString "<module>") 182), (.str (Str.ofString "<module>") 183), (.str (Str.ofString "/claim/cut.py") 184), (.int (1) 0), (.int (0) 0), (.int (0) 0), (.int (0) 0), (.int (0) 0), (.ref 11), (.bool false), (.int (181) 0), (.ref 12), (.none), (.none), (.none), (.none), (.int (185) 0), (.int (1) 0), (.str (Str.ofString "/claim/cut.py") 186)]), #[]⟩
noncomputable def o14 (P : Params) : Obj := ⟨(.type "frame"), none, .plain, #[(some (.ref 13)), (some (.ref 3)), (some (.ref 3)), none, (some (.str (Str.ofString "__main__") 164)), none, (some (.ref 0))]⟩
noncomputable def tSb (P : Params) : BT := (.node (boot_o_0 P) (.node (boot_o_1 P) (.node (boot_o_3 P) (.node (boot_o_7 P) .nil .nil) (.node (o11 P) .nil .nil)) (.node (boot_o_5 P) (.node (boot_o_9 P) .nil .nil) (.node (o13 P) .nil .nil))) (.node (boot_o_2 P) (.node (boot_o_4 P) (.node (boot_o_8 P) .nil .nil) (.node (o12 P) .nil .nil)) (.node (boot_o_6 P) (.node (boot_o_10 P) .nil .nil) (.node (o14 P) .nil .nil))))
noncomputable def Sb (w : World) (os : OsState) : SharedT := ⟨tSb w.params, 15, {}, #[], {}, 187, os⟩
noncomputable abbrev pSb : Pos := ⟨0, 0, 0, 0⟩
noncomputable def en0 (P : Params) : DictEntry := ent P (.str (Str.ofString "__name__") 165) (.str (Str.ofString "__main__") 164)
noncomputable def en1 (P : Params) : DictEntry := ent P (.str (Str.ofString "__doc__") 166) (.none)
noncomputable def en2 (P : Params) : DictEntry := ent P (.str (Str.ofString "__package__") 167) (.none)
noncomputable def en3 (P : Params) : DictEntry := ent P (.str (Str.ofString "__loader__") 168) (.builtin "__main__.__loader__#opaque")
noncomputable def en4 (P : Params) : DictEntry := ent P (.str (Str.ofString "__spec__") 169) (.none)
noncomputable def en5 (P : Params) : DictEntry := ent P (.str (Str.ofString "__annotations__") 170) (.ref 6)
noncomputable def en6 (P : Params) : DictEntry := ent P (.str (Str.ofString "__builtins__") 171) (.ref 4)
noncomputable def en7 (P : Params) : DictEntry := ent P (.str (Str.ofString "__file__") 173) (.str (Str.ofString "/claim/cut.py") 172)
noncomputable def en8 (P : Params) : DictEntry := ent P (.str (Str.ofString "__cached__") 174) (.none)
noncomputable def en9 (P : Params) : DictEntry := ent P (.str (Str.ofString "NL") 188) (.str ⟨#[10]⟩ 187)
noncomputable def o3 (P : Params) : Obj := ⟨.type "dict", none, .dict #[en0 P, en1 P, en2 P, en3 P, en4 P, en5 P, en6 P, en7 P, en8 P, en9 P] 10, #[]⟩
noncomputable def tSe0 (P : Params) : BT := (.node (boot_o_0 P) (.node (boot_o_1 P) (.node (o3 P) (.node (boot_o_7 P) .nil .nil) (.node (o11 P) .nil .nil)) (.node (boot_o_5 P) (.node (boot_o_9 P) .nil .nil) (.node (o13 P) .nil .nil))) (.node (boot_o_2 P) (.node (boot_o_4 P) (.node (boot_o_8 P) .nil .nil) (.node (o12 P) .nil .nil)) (.node (boot_o_6 P) (.node (boot_o_10 P) .nil .nil) (.node (o14 P) .nil .nil))))
noncomputable def Se0 (w : World) (os : OsState) : SharedT := ⟨tSe0 w.params, 15, {}, #[], {}, 189, os⟩
noncomputable abbrev pSe0 : Pos := ⟨1, 0, 1, 2⟩
noncomputable def o15 (P : Params) : Obj := ⟨(.type "range"), none, (.fields #[(.int (0) 190), (.int (256) 189), (.int (1) 191)]), #[]⟩
noncomputable def o16 (P : Params) : Obj := ⟨(.type "range_iterator"), none, (.fields #[(.int (1) 0), (.int (255) 0), (.int (1) 0)]), #[]⟩
noncomputable def o17 (P : Params) : Obj := ⟨.type "list", none, .seq #[(.str (Str.ofString "=00") 195)] 1, #[]⟩
noncomputable def en10 (P : Params) : DictEntry := ent P (.str (Str.ofString "c") 193) (.int (0) 192)
noncomputable def o18 (P : Params) : Obj := ⟨.type "dict", none, .dict #[en10 P] 1, #[]⟩
noncomputable def tSc1_1 (P : Params) : BT := (.node (boot_o_0 P) (.node (boot_o_1 P) (.node (o3 P) (.node (boot_o_7 P) (.node (o15 P) .nil .nil) .nil) (.node (o11 P) .nil .nil)) (.node (boot_o_5 P) (.node (boot_o_9 P) (.node (o17 P) .nil .nil) .nil) (.node (o13 P) .nil .nil))) (.node (boot_o_2 P) (.node (boot_o_4 P) (.node (boot_o_8 P) (.node (o16 P) .nil .nil) .nil) (.node (o12 P) .nil .nil)) (.node (boot_o_6 P) (.node (boot_o_10 P) (.node (o18 P) .nil .nil) .nil) (.node (o14 P) .nil .nil))))
noncomputable def Sc1_1 (w : World) (os : OsState) : SharedT := ⟨tSc1_1 w.params, 19, {}, #[], {}, 196, os⟩
noncomputable abbrev pSc1_1 : Pos := ⟨2, 15, 2, 26⟩
noncomputable def o16v1 (P : Params) : Obj := ⟨(.type "range_iterator"), none, (.fields #[(.int (16) 0), (.int (240) 0), (.int (1) 0)]), #[]⟩
noncomputable def o17v1 (P : Params) : Obj := ⟨.type "list", none, .seq (mx 16 0 []).toArray 16, #[]⟩
noncomputable def en11 (P : Params) : DictEntry := ent P (.str (Str.ofString "c") 193) (.int (15) 252)
noncomputable def o18v1 (P : Params) : Obj := ⟨.type "dict", none, .dict #[en11 P] 1, #[]⟩
noncomputable def tSc1_16 (P : Params) : BT := (.node (boot_o_0 P) (.node (boot_o_1 P) (.node (o3 P) (.node (boot_o_7 P) (.node (o15 P) .nil .nil) .nil) (.node (o11 P) .nil .nil)) (.node (boot_o_5 P) (.node (boot_o_9 P) (.node (o17v1 P) .nil .nil) .nil) (.node (o13 P) .nil .nil))) (.node (boot_o_2 P) (.node (boot_o_4 P) (.node (boot_o_8 P) (.node (o16v1 P) .nil .nil) .nil) (.node (o12 P) .nil .nil)) (.node (boot_o_6 P) (.node (boot_o_10 P) (.node (o18v1 P) .nil .nil) .nil) (.node (o14 P) .nil .nil))))
noncomputable def Sc1_16 (w : World) (os : OsState) : SharedT := ⟨tSc1_16 w.params, 19, {}, #[], {}, 256, os⟩
noncomputable abbrev pSc1_16 : Pos := ⟨2, 15, 2, 26⟩
noncomputable def o16v2 (P : Params) : Obj := ⟨(.type "range_iterator"), none, (.fields #[(.int (32) 0), (.int (224) 0), (.int (1) 0)]), #[]⟩
noncomputable def o17v2 (P : Params) : Obj := ⟨.type "list", none, .seq (mx 32 0 []).toArray 32, #[]⟩
noncomputable def en12 (P : Params) : DictEntry := ent P (.str (Str.ofString "c") 193) (.int (31) 316)
noncomputable def o18v2 (P : Params) : Obj := ⟨.type "dict", none, .dict #[en12 P] 1, #[]⟩
noncomputable def tSc1_32 (P : Params) : BT := (.node (boot_o_0 P) (.node (boot_o_1 P) (.node (o3 P) (.node (boot_o_7 P) (.node (o15 P) .nil .nil) .nil) (.node (o11 P) .nil .nil)) (.node (boot_o_5 P) (.node (boot_o_9 P) (.node (o17v2 P) .nil .nil) .nil) (.node (o13 P) .nil .nil))) (.node (boot_o_2 P) (.node (boot_o_4 P) (.node (boot_o_8 P) (.node (o16v2 P) .nil .nil) .nil) (.node (o12 P) .nil .nil)) (.node (boot_o_6 P) (.node (boot_o_10 P) (.node (o18v2 P) .nil .nil) .nil) (.node (o14 P) .nil .nil))))
noncomputable def Sc1_32 (w : World) (os : OsState) : SharedT := ⟨tSc1_32 w.params, 19, {}, #[], {}, 320, os⟩
noncomputable abbrev pSc1_32 : Pos := ⟨2, 15, 2, 26⟩
noncomputable def o16v3 (P : Params) : Obj := ⟨(.type "range_iterator"), none, (.fields #[(.int (48) 0), (.int (208) 0), (.int (1) 0)]), #[]⟩
noncomputable def o17v3 (P : Params) : Obj := ⟨.type "list", none, .seq (mx 48 0 []).toArray 48, #[]⟩
noncomputable def en13 (P : Params) : DictEntry := ent P (.str (Str.ofString "c") 193) (.int (47) 380)
noncomputable def o18v3 (P : Params) : Obj := ⟨.type "dict", none, .dict #[en13 P] 1, #[]⟩
noncomputable def tSc1_48 (P : Params) : BT := (.node (boot_o_0 P) (.node (boot_o_1 P) (.node (o3 P) (.node (boot_o_7 P) (.node (o15 P) .nil .nil) .nil) (.node (o11 P) .nil .nil)) (.node (boot_o_5 P) (.node (boot_o_9 P) (.node (o17v3 P) .nil .nil) .nil) (.node (o13 P) .nil .nil))) (.node (boot_o_2 P) (.node (boot_o_4 P) (.node (boot_o_8 P) (.node (o16v3 P) .nil .nil) .nil) (.node (o12 P) .nil .nil)) (.node (boot_o_6 P) (.node (boot_o_10 P) (.node (o18v3 P) .nil .nil) .nil) (.node (o14 P) .nil .nil))))
noncomputable def Sc1_48 (w : World) (os : OsState) : SharedT := ⟨tSc1_48 w.params, 19, {}, #[], {}, 384, os⟩
noncomputable abbrev pSc1_48 : Pos := ⟨2, 15, 2, 26⟩
noncomputable def o16v4 (P : Params) : Obj := ⟨(.type "range_iterator"), none, (.fields #[(.int (64) 0), (.int (192) 0), (.int (1) 0)]), #[]⟩
noncomputable def o17v4 (P : Params) : Obj := ⟨.type "list", none, .seq (mx 64 0 []).toArray 64, #[]⟩
noncomputable def en14 (P : Params) : DictEntry := ent P (.str (Str.ofString "c") 193) (.int (63) 444)
noncomputable def o18v4 (P : Params) : Obj := ⟨.type "dict", none, .dict #[en14 P] 1, #[]⟩
noncomputable def tSc1_64 (P : Params) : BT := (.node (boot_o_0 P) (.node (boot_o_1 P) (.node (o3 P) (.node (boot_o_7 P) (.node (o15 P) .nil .nil) .nil) (.node (o11 P) .nil .nil)) (.node (boot_o_5 P) (.node (boot_o_9 P) (.node (o17v4 P) .nil .nil) .nil) (.node (o13 P) .nil .nil))) (.node (boot_o_2 P) (.node (boot_o_4 P) (.node (boot_o_8 P) (.node (o16v4 P) .nil .nil) .nil) (.node (o12 P) .nil .nil)) (.node (boot_o_6 P) (.node (boot_o_10 P) (.node (o18v4 P) .nil .nil) .nil) (.node (o14 P) .nil .nil))))
noncomputable def Sc1_64 (w : World) (os : OsState) : SharedT := ⟨tSc1_64 w.params, 19, {}, #[], {}, 448, os⟩
noncomputable abbrev pSc1_64 : Pos := ⟨2, 15, 2, 26⟩
noncomputable def o16v5 (P : Params) : Obj := ⟨(.type "range_iterator"), none, (.fields #[(.int (80) 0), (.int (176) 0), (.int (1) 0)]), #[]⟩
noncomputable def o17v5 (P : Params) : Obj := ⟨.type "list", none, .seq (mx 80 0 []).toArray 80, #[]⟩
noncomputable def en15 (P : Params) : DictEntry := ent P (.str (Str.ofString "c") 193) (.int (79) 508)
noncomputable def o18v5 (P : Params) : Obj := ⟨.type "dict", none, .dict #[en15 P] 1, #[]⟩
noncomputable def tSc1_80 (P : Params) : BT := (.node (boot_o_0 P) (.node (boot_o_1 P) (.node (o3 P) (.node (boot_o_7 P) (.node (o15 P) .nil .nil) .nil) (.node (o11 P) .nil .nil)) (.node (boot_o_5 P) (.node (boot_o_9 P) (.node (o17v5 P) .nil .nil) .nil) (.node (o13 P) .nil .nil))) (.node (boot_o_2 P) (.node (boot_o_4 P) (.node (boot_o_8 P) (.node (o16v5 P) .nil .nil) .nil) (.node (o12 P) .nil .nil)) (.node (boot_o_6 P) (.node (boot_o_10 P) (.node (o18v5 P) .nil .nil) .nil) (.node (o14 P) .nil .nil))))
noncomputable def Sc1_80 (w : World) (os : OsState) : SharedT := ⟨tSc1_80 w.params, 19, {}, #[], {}, 512, os⟩
noncomputable abbrev pSc1_80 : Pos := ⟨2, 15, 2, 26⟩
noncomputable def o16v6 (P : Params) : Obj := ⟨(.type "range_iterator"), none, (.fields #[(.int (96) 0), (.int (160) 0), (.int (1) 0)]), #[]⟩
noncomputable def o17v6 (P : Params) : Obj := ⟨.type "list", none, .seq (mx 96 0 []).toArray 96, #[]⟩
noncomputable def en16 (P : Params) : DictEntry := ent P (.str (Str.ofString "c") 193) (.int (95) 572)
noncomputable def o18v6 (P : Params) : Obj := ⟨.type "dict", none, .dict #[en16 P] 1, #[]⟩
noncomputable def tSc1_96 (P : Params) : BT := (.node (boot_o_0 P) (.node (boot_o_1 P) (.node (o3 P) (.node (boot_o_7 P) (.node (o15 P) .nil .nil) .nil) (.node (o11 P) .nil .nil)) (.node (boot_o_5 P) (.node (boot_o_9 P) (.node (o17v6 P) .nil .nil) .nil) (.node (o13 P) .nil .nil))) (.node (boot_o_2 P) (.node (boot_o_4 P) (.node (boot_o_8 P) (.node (o16v6 P) .nil .nil) .nil) (.node (o12 P) .nil .nil)) (.node (boot_o_6 P) (.node (boot_o_10 P) (.node (o18v6 P) .nil .nil) .nil) (.node (o14 P) .nil .nil))))
noncomputable def Sc1_96 (w : World) (os : OsState) : SharedT := ⟨tSc1_96 w.params, 19, {}, #[], {}, 576, os⟩
noncomputable abbrev pSc1_96 : Pos := ⟨2, 15, 2, 26⟩
noncomputable def o16v7 (P : Params) : Obj := ⟨(.type "range_iterator"), none, (.fields #[(.int (112) 0), (.int (144) 0), (.int (1) 0)]), #[]⟩
noncomputable def o17v7 (P : Params) : Obj := ⟨.type "list", none, .seq (mx 112 0 []).toArray 112, #[]⟩
noncomputable def en17 (P : Params) : DictEntry := ent P (.str (Str.ofString "c") 193) (.int (111) 636)
noncomputable def o18v7 (P : Params) : Obj := ⟨.type "dict", none, .dict #[en17 P] 1, #[]⟩
noncomputable def tSc1_112 (P : Params) : BT := (.node (boot_o_0 P) (.node (boot_o_1 P) (.node (o3 P) (.node (boot_o_7 P) (.node (o15 P) .nil .nil) .nil) (.node (o11 P) .nil .nil)) (.node (boot_o_5 P) (.node (boot_o_9 P) (.node (o17v7 P) .nil .nil) .nil) (.node (o13 P) .nil .nil))) (.node (boot_o_2 P) (.node (boot_o_4 P) (.node (boot_o_8 P) (.node (o16v7 P) .nil .nil) .nil) (.node (o12 P) .nil .nil)) (.node (boot_o_6 P) (.node (boot_o_10 P) (.node (o18v7 P) .nil .nil) .nil) (.node (o14 P) .nil .nil))))
noncomputable def Sc1_112 (w : World) (os : OsState) : SharedT := ⟨tSc1_112 w.params, 19, {}, #[], {}, 640, os⟩
noncomputable abbrev pSc1_112 : Pos := ⟨2, 15, 2, 26⟩
noncomputable def o16v8 (P : Params) : Obj := ⟨(.type "range_iterator"), none, (.fields #[(.int (128) 0), (.int (128) 0), (.int (1) 0)]), #[]⟩
noncomputable def o17v8 (P : Params) : Obj := ⟨.type "list", none, .seq (mx 128 0 []).toArray 128, #[]⟩
noncomputable def en18 (P : Params) : DictEntry := ent P (.str (Str.ofString "c") 193) (.int (127) 700)
noncomputable def o18v8 (P : Params) : Obj := ⟨.type "dict", none, .dict #[en18 P] 1, #[]⟩
noncomputable def tSc1_128 (P : Params) : BT := (.node (boot_o_0 P) (.node (boot_o_1 P) (.node (o3 P) (.node (boot_o_7 P) (.node (o15 P) .nil .nil) .nil) (.node (o11 P) .nil .nil)) (.node (boot_o_5 P) (.node (boot_o_9 P) (.node (o17v8 P) .nil .nil) .nil) (.node (o13 P) .nil .nil))) (.node (boot_o_2 P) (.node (boot_o_4 P) (.node (boot_o_8 P) (.node (o16v8 P) .nil .nil) .nil) (.node (o12 P) .nil .nil)) (.node (boot_o_6 P) (.node (boot_o_10 P) (.node (o18v8 P) .nil .nil) .nil) (.node (o14 P) .nil .nil))))
noncomputable def Sc1_128 (w : World) (os : OsState) : SharedT := ⟨tSc1_128 w.params, 19, {}, #[], {}, 704, os⟩
noncomputable abbrev pSc1_128 : Pos := ⟨2, 15, 2, 26⟩
noncomputable def o16v9 (P : Params) : Obj := ⟨(.type "range_iterator"), none, (.fields #[(.int (144) 0), (.int (112) 0), (.int (1) 0)]), #[]⟩
noncomputable def o17v9 (P : Params) : Obj := ⟨.type "list", none, .seq (mx 144 0 []).toArray 144, #[]⟩
noncomputable def en19 (P : Params) : DictEntry := ent P (.str (Str.ofString "c") 193) (.int (143) 764)
noncomputable def o18v9 (P : Params) : Obj := ⟨.type "dict", none, .dict #[en19 P] 1, #[]⟩
noncomputable def tSc1_144 (P : Params) : BT := (.node (boot_o_0 P) (.node (boot_o_1 P) (.node (o3 P) (.node (boot_o_7 P) (.node (o15 P) .nil .nil) .nil) (.node (o11 P) .nil .nil)) (.node (boot_o_5 P) (.node (boot_o_9 P) (.node (o17v9 P) .nil .nil) .nil) (.node (o13 P) .nil .nil))) (.node (boot_o_2 P) (.node (boot_o_4 P) (.node (boot_o_8 P) (.node (o16v9 P) .nil .nil) .nil) (.node (o12 P) .nil .nil)) (.node (boot_o_6 P) (.node (boot_o_10 P) (.node (o18v9 P) .nil .nil) .nil) (.node (o14 P) .nil .nil))))
noncomputable def Sc1_144 (w : World) (os : OsState) : SharedT := ⟨tSc1_144 w.params, 19, {}, #[], {}, 768, os⟩
noncomputable abbrev pSc1_144 : Pos := ⟨2, 15, 2, 26⟩
noncomputable def o16v10 (P : Params) : Obj := ⟨(.type "range_iterator"), none, (.fields #[(.int (160) 0), (.int (96) 0), (.int (1) 0)]), #[]⟩
noncomputable def o17v10 (P : Params) : Obj := ⟨.type "list", none, .seq (mx 160 0 []).toArray 160, #[]⟩
noncomputable def en20 (P : Params) : DictEntry := ent P (.str (Str.ofString "c") 193) (.int (159) 828)
noncomputable def o18v10 (P : Params) : Obj := ⟨.type "dict", none, .dict #[en20 P] 1, #[]⟩
noncomputable def tSc1_160 (P : Params) : BT := (.node (boot_o_0 P) (.node (boot_o_1 P) (.node (o3 P) (.node (boot_o_7 P) (.node (o15 P) .nil .nil) .nil) (.node (o11 P) .nil .nil)) (.node (boot_o_5 P) (.node (boot_o_9 P) (.node (o17v10 P) .nil .nil) .nil) (.node (o13 P) .nil .nil))) (.node (boot_o_2 P) (.node (boot_o_4 P) (.node (boot_o_8 P) (.node (o16v10 P) .nil .nil) .nil) (.node (o12 P) .nil .nil)) (.node (boot_o_6 P) (.node (boot_o_10 P) (.node (o18v10 P) .nil .nil) .nil) (.node (o14 P) .nil .nil))))
noncomputable def Sc1_160 (w : World) (os : OsState) : SharedT := ⟨tSc1_160 w.params, 19, {}, #[], {}, 832, os⟩
noncomputable abbrev pSc1_160 : Pos := ⟨2, 15, 2, 26⟩
noncomputable def o16v11 (P : Params) : Obj := ⟨(.type "range_iterator"), none, (.fields #[(.int (176) 0), (.int (80) 0), (.int (1) 0)]), #[]⟩
noncomputable def o17v11 (P : Params) : Obj := ⟨.type "list", none, .seq (mx 176 0 []).toArray 176, #[]⟩
noncomputable def en21 (P : Params) : DictEntry := ent P (.str (Str.ofString "c") 193) (.int (175) 892)
noncomputable def o18v11 (P : Params) : Obj := ⟨.type "dict", none, .dict #[en21 P] 1, #[]⟩
noncomputable def tSc1_176 (P : Params) : BT := (.node (boot_o_0 P) (.node (boot_o_1 P) (.node (o3 P) (.node (boot_o_7 P) (.node (o15 P) .nil .nil) .nil) (.node (o11 P) .nil .nil)) (.node (boot_o_5 P) (.node (boot_o_9 P) (.node (o17v11 P) .nil .nil) .nil) (.node (o13 P) .nil .nil))) (.node (boot_o_2 P) (.node (boot_o_4 P) (.node (boot_o_8 P) (.node (o16v11 P) .nil .nil) .nil) (.node (o12 P) .nil .nil)) (.node (boot_o_6 P) (.node (boot_o_10 P) (.node (o18v11 P) .nil .nil) .nil) (.node (o14 P) .nil .nil))))
noncomputable def Sc1_176 (w : World) (os : OsState) : SharedT := ⟨tSc1_176 w.params, 19, {}, #[], {}, 896, os⟩
noncomputable abbrev pSc1_176 : Pos := ⟨2, 15, 2, 26⟩
noncomputable def o16v12 (P : Params) : Obj := ⟨(.type "range_iterator"), none, (.fields #[(.int (192) 0), (.int (64) 0), (.int (1) 0)]), #[]⟩
noncomputable def o17v12 (P : Params) : Obj := ⟨.type "list", none, .seq (mx 192 0 []).toArray 192, #[]⟩
noncomputable def en22 (P : Params) : DictEntry := ent P (.str (Str.ofString "c") 193) (.int (191) 956)
noncomputable def o18v12 (P : Params) : Obj := ⟨.type "dict", none, .dict #[en22 P] 1, #[]⟩
noncomputable def tSc1_192 (P : Params) : BT := (.node (boot_o_0 P) (.node (boot_o_1 P) (.node (o3 P) (.node (boot_o_7 P) (.node (o15 P) .nil .nil) .nil) (.node (o11 P) .nil .nil)) (.node (boot_o_5 P) (.node (boot_o_9 P) (.node (o17v12 P) .nil .nil) .nil) (.node (o13 P) .nil .nil))) (.node (boot_o_2 P) (.node (boot_o_4 P) (.node (boot_o_8 P) (.node (o16v12 P) .nil .nil) .nil) (.node (o12 P) .nil .nil)) (.node (boot_o_6 P) (.node (boot_o_10 P) (.node (o18v12 P) .nil .nil) .nil) (.node (o14 P) .nil .nil))))
noncomputable def Sc1_192 (w : World) (os : OsState) : SharedT := ⟨tSc1_192 w.params, 19, {}, #[], {}, 960, os⟩
noncomputable abbrev pSc1_192 : Pos := ⟨2, 15, 2, 26⟩
noncomputable def o16v13 (P : Params) : Obj := ⟨(.type "range_iterator"), none, (.fields #[(.int (208) 0), (.int (48) 0), (.int (1) 0)]), #[]⟩
noncomputable def o17v13 (P : Params) : Obj := ⟨.type "list", none, .seq (mx 208 0 []).toArray 208, #[]⟩
noncomputable def en23 (P : Params) : DictEntry := ent P (.str (Str.ofString "c") 193) (.int (207) 1020)
noncomputable def o18v13 (P : Params) : Obj := ⟨.type "dict", none, .dict #[en23 P] 1, #[]⟩
noncomputable def tSc1_208 (P : Params) : BT := (.node (boot_o_0 P) (.node (boot_o_1 P) (.node (o3 P) (.node (boot_o_7 P) (.node (o15 P) .nil .nil) .nil) (.node (o11 P) .nil .nil)) (.node (boot_o_5 P) (.node (boot_o_9 P) (.node (o17v13 P) .nil .nil) .nil) (.node (o13 P) .nil .nil))) (.node (boot_o_2 P) (.node (boot_o_4 P) (.node (boot_o_8 P) (.node (o16v13 P) .nil .nil) .nil) (.node (o12 P) .nil .nil)) (.node (boot_o_6 P) (.node (boot_o_10 P) (.node (o18v13 P) .nil .nil) .nil) (.node (o14 P) .nil .nil))))
noncomputable def Sc1_208 (w : World) (os : OsState) : SharedT := ⟨tSc1_208 w.params, 19, {}, #[], {}, 1024, os⟩
noncomputable abbrev pSc1_208 : Pos := ⟨2, 15, 2, 26⟩
noncomputable def o16v14 (P : Params) : Obj := ⟨(.type "range_iterator"), none, (.fields #[(.int (224) 0), (.int (32) 0), (.int (1) 0)]), #[]⟩
noncomputable def o17v14 (P : Params) : Obj := ⟨.type "list", none, .seq (mx 224 0 []).toArray 224, #[]⟩
noncomputable def en24 (P : Params) : DictEntry := ent P (.str (Str.ofString "c") 193) (.int (223) 1084)
noncomputable def o18v14 (P : Params) : Obj := ⟨.type "dict", none, .dict #[en24 P] 1, #[]⟩
noncomputable def tSc1_224 (P : Params) : BT := (.node (boot_o_0 P) (.node (boot_o_1 P) (.node (o3 P) (.node (boot_o_7 P) (.node (o15 P) .nil .nil) .nil) (.node (o11 P) .nil .nil)) (.node (boot_o_5 P) (.node (boot_o_9 P) (.node (o17v14 P) .nil .nil) .nil) (.node (o13 P) .nil .nil))) (.node (boot_o_2 P) (.node (boot_o_4 P) (.node (boot_o_8 P) (.node (o16v14 P) .nil .nil) .nil) (.node (o12 P) .nil .nil)) (.node (boot_o_6 P) (.node (boot_o_10 P) (.node (o18v14 P) .nil .nil) .nil) (.node (o14 P) .nil .nil))))
noncomputable def Sc1_224 (w : World) (os : OsState) : SharedT := ⟨tSc1_224 w.params, 19, {}, #[], {}, 1088, os⟩
noncomputable abbrev pSc1_224 : Pos := ⟨2, 15, 2, 26⟩
noncomputable def o16v15 (P : Params) : Obj := ⟨(.type "range_iterator"), none, (.fields #[(.int (240) 0), (.int (16) 0), (.int (1) 0)]), #[]⟩
noncomputable def o17v15 (P : Params) : Obj := ⟨.type "list", none, .seq (mx 240 0 []).toArray 240, #[]⟩
noncomputable def en25 (P : Params) : DictEntry := ent P (.str (Str.ofString "c") 193) (.int (239) 1148)
noncomputable def o18v15 (P : Params) : Obj := ⟨.type "dict", none, .dict #[en25 P] 1, #[]⟩
noncomputable def tSc1_240 (P : Params) : BT := (.node (boot_o_0 P) (.node (boot_o_1 P) (.node (o3 P) (.node (boot_o_7 P) (.node (o15 P) .nil .nil) .nil) (.node (o11 P) .nil .nil)) (.node (boot_o_5 P) (.node (boot_o_9 P) (.node (o17v15 P) .nil .nil) .nil) (.node (o13 P) .nil .nil))) (.node (boot_o_2 P) (.node (boot_o_4 P) (.node (boot_o_8 P) (.node (o16v15 P) .nil .nil) .nil) (.node (o12 P) .nil .nil)) (.node (boot_o_6 P) (.node (boot_o_10 P) (.node (o18v15 P) .nil .nil) .nil) (.node (o14 P) .nil .nil))))
noncomputable def Sc1_240 (w : World) (os : OsState) : SharedT := ⟨tSc1_240 w.params, 19, {}, #[], {}, 1152, os⟩
noncomputable abbrev pSc1_240 : Pos := ⟨2, 15, 2, 26⟩
noncomputable def o16v16 (P : Params) : Obj := ⟨(.type "range_iterator"), none, (.fields #[(.int (256) 0), (.int (0) 0), (.int (1) 0)]), #[]⟩
noncomputable def o17v16 (P : Params) : Obj := ⟨.type "list", none, .seq (mx 256 0 []).toArray 256, #[]⟩
noncomputable def en26 (P : Params) : DictEntry := ent P (.str (Str.ofString "c") 193) (.int (255) 1212)
noncomputable def o18v16 (P : Params) : Obj := ⟨.type "dict", none, .dict #[en26 P] 1, #[]⟩
noncomputable def tSc1_256 (P : Params) : BT := (.node (boot_o_0 P) (.node (boot_o_1 P) (.node (o3 P) (.node (boot_o_7 P) (.node (o15 P) .nil .nil) .nil) (.node (o11 P) .nil .nil)) (.node (boot_o_5 P) (.node (boot_o_9 P) (.node (o17v16 P) .nil .nil) .nil) (.node (o13 P) .nil .nil))) (.node (boot_o_2 P) (.node (boot_o_4 P) (.node (boot_o_8 P) (.node (o16v16 P) .nil .nil) .nil) (.node (o12 P) .nil .nil)) (.node (boot_o_6 P) (.node (boot_o_10 P) (.node (o18v16 P) .nil .nil) .nil) (.node (o14 P) .nil .nil))))
noncomputable def Sc1_256 (w : World) (os : OsState) : SharedT := ⟨tSc1_256 w.params, 19, {}, #[], {}, 1216, os⟩
noncomputable abbrev pSc1_256 : Pos := ⟨2, 15, 2, 26⟩
noncomputable def en27 (P : Params) : DictEntry := ent P (.str (Str.ofString "_QUOPRI_MAP") 1216) (.ref 17)
noncomputable def o3v1 (P : Params) : Obj := ⟨.type "dict", none, .dict #[en0 P, en1 P, en2 P, en3 P, en4 P, en5 P, en6 P, en7 P, en8 P, en9 P, en27 P] 11, #[]⟩
noncomputable def o18v17 (P : Params) : Obj := ⟨.type "dict", none, .dict #[] 2, #[]⟩
noncomputable def o19 (P : Params) : Obj := ⟨(.type "tuple"), none, (.seq #[] 0), #[]⟩
noncomputable def o20 (P : Params) : Obj := ⟨(.type "StopIteration"), none, (.fields #[(.ref 19), (.none), (.none), (.none), (.bool false), (.none)]), #[]⟩
noncomputable def tSe1 (P : Params) : BT := (.node (boot_o_0 P) (.node (boot_o_1 P) (.node (o3v1 P) (.node (boot_o_7 P) (.node (o15 P) .nil .nil) .nil) (.node (o11 P) (.node (o19 P) .nil .nil) .nil)) (.node (boot_o_5 P) (.node (boot_o_9 P) (.node (o17v16 P) .nil .nil) .nil) (.node (o13 P) .nil .nil))) (.node (boot_o_2 P) (.node (boot_o_4 P) (.node (boot_o_8 P) (.node (o16v16 P) .nil .nil) .nil) (.node (o12 P) (.node (o20 P) .nil .nil) .nil)) (.node (boot_o_6 P) (.node (boot_o_10 P) (.node (o18v17 P) .nil .nil) .nil) (.node (o14 P) .nil .nil))))
noncomputable def Se1 (w : World) (os : OsState) : SharedT := ⟨tSe1 w.params, 21, {}, #[], {}, 1217, os⟩
noncomputable abbrev pSe1 : Pos := ⟨2, 0, 2, 11⟩
noncomputable def en28 (P : Params) : DictEntry := ent P (.str (Str.ofString "__name__") 165) (.str (Str.ofString "cpy313.email.quoprimime") 1232)
noncomputable def en29 (P : Params) : DictEntry := ent P (.str (Str.ofString "_QUOPRI_HEADER_MAP") 1217) (.ref 22)
noncomputable def en30 (P : Params) : DictEntry := ent P (.str (Str.ofString "_QUOPRI_BODY_MAP") 1218) (.ref 24)
noncomputable def en31 (P : Params) : DictEntry := ent P (.str (Str.ofString "ascii_lowercase") 1220) (.str (Str.ofString "abcdefghijklmnopqrstuvwxyz") 1219)
noncomputable def en32 (P : Params) : DictEntry := ent P (.str (Str.ofString "ascii_uppercase") 1222) (.str (Str.ofString "ABCDEFGHIJKLMNOPQRSTUVWXYZ") 1221)
noncomputable def en33 (P : Params) : DictEntry := ent P (.str (Str.ofString "ascii_letters") 1224) (.str (Str.ofString "abcdefghijklmnopqrstuvwxyzABCDEFGHIJKLMNOPQRSTUVWXYZ") 1223)
noncomputable def en34 (P : Params) : DictEntry := ent P (.str (Str.ofString "digits") 1226) (.str (Str.ofString "0123456789") 1225)
noncomputable def en35 (P : Params) : DictEntry := ent P (.str (Str.ofString "hexdigits") 1231) (.str (Str.ofString "0123456789abcdefABCDEF") 1230)
noncomputable def o3v2 (P : Params) : Obj := ⟨.type "dict", none, .dict #[en28 P, en1 P, en2 P, en3 P, en4 P, en5 P, en6 P, en7 P, en8 P, en9 P, en27 P, en29 P, en30 P, en31 P, en32 P, en33 P, en34 P, en35 P] 18, #[]⟩
noncomputable def o21 (P : Params) : Obj := ⟨(.type "slice"), none, (.fields #[(.none), (.none), (.none)]), #[]⟩
noncomputable def o22 (P : Params) : Obj := ⟨.type "list", none, .seq (mx 256 0 []).toArray 0, #[]⟩
noncomputable def o23 (P : Params) : Obj := ⟨(.type "slice"), none, (.fields #[(.none), (.none), (.none)]), #[]⟩
noncomputable def o24 (P : Params) : Obj := ⟨.type "list", none, .seq (mx 256 0 []).toArray 0, #[]⟩
noncomputable def tSe9 (P : Params) : BT := (.node (boot_o_0 P) (.node (boot_o_1 P) (.node (o3v2 P) (.node (boot_o_7 P) (.node (o15 P) .nil .nil) (.node (o23 P) .nil .nil)) (.node (o11 P) (.node (o19 P) .nil .nil) .nil)) (.node (boot_o_5 P) (.node (boot_o_9 P) (.node (o17v16 P) .nil .nil) .nil) (.node (o13 P) (.node (o21 P) .nil .nil) .nil))) (.node (boot_o_2 P) (.node (boot_o_4 P) (.node (boot_o_8 P) (.node (o16v16 P) .nil .nil) (.node (o24 P) .nil .nil)) (.node (o12 P) (.node (o20 P) .nil .nil) .nil)) (.node (boot_o_6 P) (.node (boot_o_10 P) (.node (o18v17 P) .nil .nil) .nil) (.node (o14 P) (.node (o22 P) .nil .nil) .nil))))
noncomputable def Se9 (w : World) (os : OsState) : SharedT := ⟨tSe9 w.params, 25, {}, #[], {}, 1234, os⟩
noncomputable abbrev pSe9 : Pos := ⟨10, 0, 10, 8⟩
noncomputable def en36 (P : Params) : DictEntry := ent P (.str (Str.ofString "c") 1242) (.int (33) 1244)
noncomputable def o3v3 (P : Params) : Obj := ⟨.type "dict", none, .dict #[en28 P, en1 P, en2 P, en3 P, en4 P, en5 P, en6 P, en7 P, en8 P, en9 P, en27 P, en29 P, en30 P, en31 P, en32 P, en33 P, en34 P, en35 P, en36 P] 19, #[]⟩
noncomputable def o22v1 (P : Params) : Obj := ⟨.type "list", none, .seq (mx 256 0 [(33, 33, 1246), (45, 45, 1243)]).toArray 0, #[]⟩
noncomputable def o25 (P : Params) : Obj := ⟨(.type "bytes_iterator"), none, (.fields #[(.bytes #[45, 33, 42, 43, 47, 97, 98, 99, 100, 101, 102, 103, 104, 105, 106, 107, 108, 109, 110, 111, 112, 113, 114, 115, 116, 117, 118, 119, 120, 121, 122, 65, 66, 67, 68, 69, 70, 71, 72, 73, 74, 75, 76, 77, 78, 79, 80, 81, 82, 83, 84, 85, 86, 87, 88, 89, 90, 48, 49, 50, 51, 52, 53, 54, 55, 56, 57] 1240), (.int (2) 0)]), #[]⟩
noncomputable def tSc10_1 (P : Params) : BT := (.node (boot_o_0 P) (.node (boot_o_1 P) (.node (o3v3 P) (.node (boot_o_7 P) (.node (o15 P) .nil .nil) (.node (o23 P) .nil .nil)) (.node (o11 P) (.node (o19 P) .nil .nil) .nil)) (.node (boot_o_5 P) (.node (boot_o_9 P) (.node (o17v16 P) .nil .nil) (.node (o25 P) .nil .nil)) (.node (o13 P) (.node (o21 P) .nil .nil) .nil))) (.node (boot_o_2 P) (.node (boot_o_4 P) (.node (boot_o_8 P) (.node (o16v16 P) .nil .nil) (.node (o24 P) .nil .nil)) (.node (o12 P) (.node (o20 P) .nil .nil) .nil)) (.node (boot_o_6 P) (.node (boot_o_10 P) (.node (o18v17 P) .nil .nil) .nil) (.node (o14 P) (.node (o22v1 P) .nil .nil) .nil))))
noncomputable def Sc10_1 (w : World) (os : OsState) : SharedT := ⟨tSc10_1 w.params, 26, {}, #[], {}, 1247, os⟩
noncomputable abbrev pSc10_1 : Pos := ⟨12, 4, 12, 25⟩
noncomputable def en37 (P : Params) : DictEntry := ent P (.str (Str.ofString "c") 1242) (.int (109) 1292)
noncomputable def o3v4 (P : Params) : Obj := ⟨.type "dict", none, .dict #[en28 P, en1 P, en2 P, en3 P, en4 P, en5 P, en6 P, en7 P, en8 P, en9 P, en27 P, en29 P, en30 P, en31 P, en32 P, en33 P, en34 P, en35 P, en37 P] 19, #[]⟩
noncomputable def o22v2 (P : Params) : Obj := ⟨.type "list", none, .seq (mx 256 0 [(33, 33, 1246), (42, 42, 1249), (43, 43, 1252), (45, 45, 1243), (47, 47, 1255), (97, 97, 1258), (98, 98, 1261), (99, 99, 1264), (100, 100, 1267), (101, 101, 1270), (102, 102, 1273), (103, 103, 1276), (104, 104, 1279), (105, 105, 1282), (106, 106, 1285), (107, 107, 1288), (108, 108, 1291), (109, 109, 1294)]).toArray 0, #[]⟩
noncomputable def o25v1 (P : Params) : Obj := ⟨(.type "bytes_iterator"), none, (.fields #[(.bytes #[45, 33, 42, 43, 47, 97, 98, 99, 100, 101, 102, 103, 104, 105, 106, 107, 108, 109, 110, 111, 112, 113, 114, 115, 116, 117, 118, 119, 120, 121, 122, 65, 66, 67, 68, 69, 70, 71, 72, 73, 74, 75, 76, 77, 78, 79, 80, 81, 82, 83, 84, 85, 86, 87, 88, 89, 90, 48, 49, 50, 51, 52, 53, 54, 55, 56, 57] 1240), (.int (18) 0)]), #[]⟩
noncomputable def tSc10_17 (P : Params) : BT := (.node (boot_o_0 P) (.node (boot_o_1 P) (.node (o3v4 P) (.node (boot_o_7 P) (.node (o15 P) .nil .nil) (.node (o23 P) .nil .nil)) (.node (o11 P) (.node (o19 P) .nil .nil) .nil)) (.node (boot_o_5 P) (.node (boot_o_9 P) (.node (o17v16 P) .nil .nil) (.node (o25v1 P) .nil .nil)) (.node (o13 P) (.node (o21 P) .nil .nil) .nil))) (.node (boot_o_2 P) (.node (boot_o_4 P) (.node (boot_o_8 P) (.node (o16v16 P) .nil .nil) (.node (o24 P) .nil .nil)) (.node (o12 P) (.node (o20 P) .nil .nil) .nil)) (.node (boot_o_6 P) (.node (boot_o_10 P) (.node (o18v17 P) .nil .nil) .nil) (.node (o14 P) (.node (o22v2 P) .nil .nil) .nil))))
noncomputable def Sc10_17 (w : World) (os : OsState) : SharedT := ⟨tSc10_17 w.params, 26, {}, #[], {}, 1295, os⟩
noncomputable abbrev pSc10_17 : Pos := ⟨12, 4, 12, 25⟩
noncomputable def en38 (P : Params) : DictEntry := ent P (.str (Str.ofString "c") 1242) (.int (67) 1340)
noncomputable def o3v5 (P : Params) : Obj := ⟨.type "dict", none, .dict #[en28 P, en1 P, en2 P, en3 P, en4 P, en5 P, en6 P, en7 P, en8 P, en9 P, en27 P, en29 P, en30 P, en31 P, en32 P, en33 P, en34 P, en35 P, en38 P] 19, #[]⟩
noncomputable def o22v3 (P : Params) : Obj := ⟨.type "list", none, .seq (mx 256 0 [(33, 33, 1246), (42, 42, 1249), (43, 43, 1252), (45, 45, 1243), (47, 47, 1255), (65, 65, 1336), (66, 66, 1339), (67, 67, 1342), (97, 97, 1258), (98, 98, 1261), (99, 99, 1264), (100, 100, 1267), (101, 101, 1270), (102, 102, 1273), (103, 103, 1276), (104, 104, 1279), (105, 105, 1282), (106, 106, 1285), (107, 107, 1288), (108, 108, 1291), (109, 109, 1294), (110, 110, 1297), (111, 111, 1300), (112, 112, 1303), (113, 113, 1306), (114, 114, 1309), (115, 115, 1312), (116, 116, 1315), (117, 117, 1318), (118, 118, 1321), (119, 119, 1324), (120, 120, 1327), (121, 121, 1330), (122, 122, 1333)]).toArray 0, #[]⟩
noncomputable def o25v2 (P : Params) : Obj := ⟨(.type "bytes_iterator"), none, (.fields #[(.bytes #[45, 33, 42, 43, 47, 97, 98, 99, 100, 101, 102, 103, 104, 105, 106, 107, 108, 109, 110, 111, 112, 113, 114, 115, 116, 117, 118, 119, 120, 121, 122, 65, 66, 67, 68, 69, 70, 71, 72, 73, 74, 75, 76, 77, 78, 79, 80, 81, 82, 83, 84, 85, 86, 87, 88, 89, 90, 48, 49, 50, 51, 52, 53, 54, 55, 56, 57] 1240), (.int (34) 0)]), #[]⟩
noncomputable def tSc10_33 (P : Params) : BT := (.node (boot_o_0 P) (.node (boot_o_1 P) (.node (o3v5 P) (.node (boot_o_7 P) (.node (o15 P) .nil .nil) (.node (o23 P) .nil .nil)) (.node (o11 P) (.node (o19 P) .nil .nil) .nil)) (.node (boot_o_5 P) (.node (boot_o_9 P) (.node (o17v16 P) .nil .nil) (.node (o25v2 P) .nil .nil)) (.node (o13 P) (.node (o21 P) .nil .nil) .nil))) (.node (boot_o_2 P) (.node (boot_o_4 P) (.node (boot_o_8 P) (.node (o16v16 P) .nil .nil) (.node (o24 P) .nil .nil)) (.node (o12 P) (.node (o20 P) .nil .nil) .nil)) (.node (boot_o_6 P) (.node (boot_o_10 P) (.node (o18v17 P) .nil .nil) .nil) (.node (o14 P) (.node (o22v3 P) .nil .nil) .nil))))
noncomputable def Sc10_33 (w : World) (os : OsState) : SharedT := ⟨tSc10_33 w.params, 26, {}, #[], {}, 1343, os⟩
noncomputable abbrev pSc10_33 : Pos := ⟨12, 4, 12, 25⟩
noncomputable def en39 (P : Params) : DictEntry := ent P (.str (Str.ofString "c") 1242) (.int (83) 1388)
noncomputable def o3v6 (P : Params) : Obj := ⟨.type "dict", none, .dict #[en28 P, en1 P, en2 P, en3 P, en4 P, en5 P, en6 P, en7 P, en8 P, en9 P, en27 P, en29 P, en30 P, en31 P, en32 P, en33 P, en34 P, en35 P, en39 P] 19, #[]⟩
noncomputable def o22v4 (P : Params) : Obj := ⟨.type "list", none, .seq (mx 256 0 [(33, 33, 1246), (42, 42, 1249), (43, 43, 1252), (45, 45, 1243), (47, 47, 1255), (65, 65, 1336), (66, 66, 1339), (67, 67, 1342), (68, 68, 1345), (69, 69, 1348), (70, 70, 1351), (71, 71, 1354), (72, 72, 1357), (73, 73, 1360), (74, 74, 1363), (75, 75, 1366), (76, 76, 1369), (77, 77, 1372), (78, 78, 1375), (79, 79, 1378), (80, 80, 1381), (81, 81, 1384), (82, 82, 1387), (83, 83, 1390), (97, 97, 1258), (98, 98, 1261), (99, 99, 1264), (100, 100, 1267), (101, 101, 1270), (102, 102, 1273), (103, 103, 1276), (104, 104, 1279), (105, 105, 1282), (106, 106, 1285), (107, 107, 1288), (108, 108, 1291), (109, 109, 1294), (110, 110, 1297), (111, 111, 1300), (112, 112, 1303), (113, 113, 1306), (114, 114, 1309), (115, 115, 1312), (116, 116, 1315), (117, 117, 1318), (118, 118, 1321), (119, 119, 1324), (120, 120, 1327), (121, 121, 1330), (122, 122, 1333)]).toArray 0, #[]⟩
noncomputable def o25v3 (P : Params) : Obj := ⟨(.type "bytes_iterator"), none, (.fields #[(.bytes #[45, 33, 42, 43, 47, 97, 98, 99, 100, 101, 102, 103, 104, 105, 106, 107, 108, 109, 110, 111, 112, 113, 114, 115, 116, 117, 118, 119, 120, 121, 122, 65, 66, 67, 68, 69, 70, 71, 72, 73, 74, 75, 76, 77, 78, 79, 80, 81, 82, 83, 84, 85, 86, 87, 88, 89, 90, 48, 49, 50, 51, 52, 53, 54, 55, 56, 57] 1240), (.int (50) 0)]), #[]⟩
noncomputable def tSc10_49 (P : Params) : BT := (.node (boot_o_0 P) (.node (boot_o_1 P) (.node (o3v6 P) (.node (boot_o_7 P) (.node (o15 P) .nil .nil) (.node (o23 P) .nil .nil)) (.node (o11 P) (.node (o19 P) .nil .nil) .nil)) (.node (boot_o_5 P) (.node (boot_o_9 P) (.node (o17v16 P) .nil .nil) (.node (o25v3 P) .nil .nil)) (.node (o13 P) (.node (o21 P) .nil .nil) .nil))) (.node (boot_o_2 P) (.node (boot_o_4 P) (.node (boot_o_8 P) (.node (o16v16 P) .nil .nil) (.node (o24 P) .nil .nil)) (.node (o12 P) (.node (o20 P) .nil .nil) .nil)) (.node (boot_o_6 P) (.node (boot_o_10 P) (.node (o18v17 P) .nil .nil) .nil) (.node (o14 P) (.node (o22v4 P) .nil .nil) .nil))))
noncomputable def Sc10_49 (w : World) (os : OsState) : SharedT := ⟨tSc10_49 w.params, 26, {}, #[], {}, 1391, os⟩
noncomputable abbrev pSc10_49 : Pos := ⟨12, 4, 12, 25⟩
noncomputable def en40 (P : Params) : DictEntry := ent P (.str (Str.ofString "c") 1242) (.int (57) 1439)
noncomputable def o3v7 (P : Params) : Obj := ⟨.type "dict", none, .dict #[en28 P, en1 P, en2 P, en3 P, en4 P, en5 P, en6 P, en7 P, en8 P, en9 P, en27 P, en29 P, en30 P, en31 P, en32 P, en33 P, en34 P, en35 P, en40 P] 19, #[]⟩
noncomputable def o22v5 (P : Params) : Obj := ⟨.type "list", none, .seq (mx 256 0 [(33, 33, 1246), (42, 42, 1249), (43, 43, 1252), (45, 45, 1243), (47, 47, 1255), (48, 48, 1414), (49, 49, 1417), (50, 50, 1420), (51, 51, 1423), (52, 52, 1426), (53, 53, 1429), (54, 54, 1432), (55, 55, 1435), (56, 56, 1438), (57, 57, 1441), (65, 65, 1336), (66, 66, 1339), (67, 67, 1342), (68, 68, 1345), (69, 69, 1348), (70, 70, 1351), (71, 71, 1354), (72, 72, 1357), (73, 73, 1360), (74, 74, 1363), (75, 75, 1366), (76, 76, 1369), (77, 77, 1372), (78, 78, 1375), (79, 79, 1378), (80, 80, 1381), (81, 81, 1384), (82, 82, 1387), (83, 83, 1390), (84, 84, 1393), (85, 85, 1396), (86, 86, 1399), (87, 87, 1402), (88, 88, 1405), (89, 89, 1408), (90, 90, 1411), (97, 97, 1258), (98, 98, 1261), (99, 99, 1264), (100, 100, 1267), (101, 101, 1270), (102, 102, 1273), (103, 103, 1276), (104, 104, 1279), (105, 105, 1282), (106, 106, 1285), (107, 107, 1288), (108, 108, 1291), (109, 109, 1294), (110, 110, 1297), (111, 111, 1300), (112, 112, 1303), (113, 113, 1306), (114, 114, 1309), (115, 115, 1312), (116, 116, 1315), (117, 117, 1318), (118, 118, 1321), (119, 119, 1324), (120, 120, 1327), (121, 121, 1330), (122, 122, 1333)]).toArray 0, #[]⟩
noncomputable def o25v4 (P : Params) : Obj := ⟨(.type "bytes_iterator"), none, (.fields #[(.none), (.int (67) 0)]), #[]⟩
noncomputable def o26 (P : Params) : Obj := ⟨(.type "tuple"), none, (.seq #[] 0), #[]⟩
noncomputable def o27 (P : Params) : Obj := ⟨(.type "StopIteration"), none, (.fields #[(.ref 26), (.none), (.none), (.none), (.bool false), (.none)]), #[]⟩
noncomputable def tSe10 (P : Params) : BT := (.node (boot_o_0 P) (.node (boot_o_1 P) (.node (o3v7 P) (.node (boot_o_7 P) (.node (o15 P) .nil .nil) (.node (o23 P) .nil .nil)) (.node (o11 P) (.node (o19 P) .nil .nil) (.node (o27 P) .nil .nil))) (.node (boot_o_5 P) (.node (boot_o_9 P) (.node (o17v16 P) .nil .nil) (.node (o25v4 P) .nil .nil)) (.node (o13 P) (.node (o21 P) .nil .nil) .nil))) (.node (boot_o_2 P) (.node (boot_o_4 P) (.node (boot_o_8 P) (.node (o16v16 P) .nil .nil) (.node (o24 P) .nil .nil)) (.node (o12 P) (.node (o20 P) .nil .nil) .nil)) (.node (boot_o_6 P) (.node (boot_o_10 P) (.node (o18v17 P) .nil .nil) (.node (o26 P) .nil .nil)) (.node (o14 P) (.node (o22v5 P) .nil .nil) .nil))))
noncomputable def Se10 (w : World) (os : OsState) : SharedT := ⟨tSe10 w.params, 28, {}, #[], {}, 1442, os⟩
noncomputable abbrev pSe10 : Pos := ⟨11, 9, 11, 74⟩
noncomputable def o22v6 (P : Params) : Obj := ⟨.type "list", none, .seq #[(.str (Str.ofString "=00") 195), (.str (Str.ofString "=01") 199), (.str (Str.ofString "=02") 203), (.str (Str.ofString "=03") 207), (.str (Str.ofString "=04") 211), (.str (Str.ofString "=05") 215), (.str (Str.ofString "=06") 219), (.str (Str.ofString "=07") 223), (.str (Str.ofString "=08") 227), (.str (Str.ofString "=09") 231), (.str (Str.ofString "=0A") 235), (.str (Str.ofString "=0B") 239), (.str (Str.ofString "=0C") 243), (.str (Str.ofString "=0D") 247), (.str (Str.ofString "=0E") 251), (.str (Str.ofString "=0F") 255), (.str (Str.ofString "=10") 259), (.str (Str.ofString "=11") 263), (.str (Str.ofString "=12") 267), (.str (Str.ofString "=13") 271), (.str (Str.ofString "=14") 275), (.str (Str.ofString "=15") 279), (.str (Str.ofString "=16") 283), (.str (Str.ofString "=17") 287), (.str (Str.ofString "=18") 291), (.str (Str.ofString "=19") 295), (.str (Str.ofString "=1A") 299), (.str (Str.ofString "=1B") 303), (.str (Str.ofString "=1C") 307), (.str (Str.ofString "=1D") 311), (.str (Str.ofString "=1E") 315), (.str (Str.ofString "=1F") 319), (.str (Str.ofString "_") 1442), (.str (Str.ofString "!") 1246), (.str (Str.ofString "=22") 331), (.str (Str.ofString "=23") 335), (.str (Str.ofString "=24") 339), (.str (Str.ofString "=25") 343), (.str (Str.ofString "=26") 347), (.str (Str.ofString "=27") 351), (.str (Str.ofString "=28") 355), (.str (Str.ofString "=29") 359), (.str (Str.ofString "*") 1249), (.str (Str.ofString "+") 1252), (.str (Str.ofString "=2C") 371), (.str (Str.ofString "-") 1243), (.str (Str.ofString "=2E") 379), (.str (Str.ofString "/") 1255), (.str (Str.ofString "0") 1414), (.str (Str.ofString "1") 1417), (.str (Str.ofString "2") 1420), (.str (Str.ofString "3") 1423), (.str (Str.ofString "4") 1426), (.str (Str.ofString "5") 1429), (.str (Str.ofString "6") 1432), (.str (Str.ofString "7") 1435), (.str (Str.ofString "8") 1438), (.str (Str.ofString "9") 1441), (.str (Str.ofString "=3A") 427), (.str (Str.ofString "=3B") 431), (.str (Str.ofString "=3C") 435), (.str (Str.ofString "=3D") 439), (.str (Str.ofString "=3E") 443), (.str (Str.ofString "=3F") 447), (.str (Str.ofString "=40") 451), (.str (Str.ofString "A") 1336), (.str (Str.ofString "B") 1339), (.str (Str.ofString "C") 1342), (.str (Str.ofString "D") 1345), (.str (Str.ofString "E") 1348), (.str (Str.ofString "F") 1351), (.str (Str.ofString "G") 1354), (.str (Str.ofString "H") 1357), (.str (Str.ofString "I") 1360), (.str (Str.ofString "J") 1363), (.str (Str.ofString "K") 1366), (.str (Str.ofString "L") 1369), (.str (Str.ofString "M") 1372), (.str (Str.ofString "N") 1375), (.str (Str.ofString "O") 1378), (.str (Str.ofString "P") 1381), (.str (Str.ofString "Q") 1384), (.str (Str.ofString "R") 1387), (.str (Str.ofString "S") 1390), (.str (Str.ofString "T") 1393), (.str (Str.ofString "U") 1396), (.str (Str.ofString "V") 1399), (.str (Str.ofString "W") 1402), (.str (Str.ofString "X") 1405), (.str (Str.ofString "Y") 1408), (.str (Str.ofString "Z") 1411), (.str (Str.ofString "=5B") 559), (.str (Str.ofString "=5C") 563), (.str (Str.ofString "=5D") 567), (.str (Str.ofString "=5E") 571), (.str (Str.ofString "=5F") 575), (.str (Str.ofString "=60") 579), (.str (Str.ofString "a") 1258), (.str (Str.ofString "b") 1261), (.str (Str.ofString "c") 1264), (.str (Str.ofString "d") 1267), (.str (Str.ofString "e") 1270), (.str (Str.ofString "f") 1273), (.str (Str.ofString "g") 1276), (.str (Str.ofString "h") 1279), (.str (Str.ofString "i") 1282), (.str (Str.ofString "j") 1285), (.str (Str.ofString "k") 1288), (.str (Str.ofString "l") 1291), (.str (Str.ofString "m") 1294), (.str (Str.ofString "n") 1297), (.str (Str.ofString "o") 1300), (.str (Str.ofString "p") 1303), (.str (Str.ofString "q") 1306), (.str (Str.ofString "r") 1309), (.str (Str.ofString "s") 1312), (.str (Str.ofString "t") 1315), (.str (Str.ofString "u") 1318), (.str (Str.ofString "v") 1321), (.str (Str.ofString "w") 1324), (.str (Str.ofString "x") 1327), (.str (Str.ofString "y") 1330), (.str (Str.ofString "z") 1333), (.str (Str.ofString "=7B") 687), (.str (Str.ofString "=7C") 691), (.str (Str.ofString "=7D") 695), (.str (Str.ofString "=7E") 699), (.str (Str.ofString "=7F") 703), (.str (Str.ofString "=80") 707), (.str (Str.ofString "=81") 711), (.str (Str.ofString "=82") 715), (.str (Str.ofString "=83") 719), (.str (Str.ofString "=84") 723), (.str (Str.ofString "=85") 727), (.str (Str.ofString "=86") 731), (.str (Str.ofString "=87") 735), (.str (Str.ofString "=88") 739), (.str (Str.ofString "=89") 743), (.str (Str.ofString "=8A") 747), (.str (Str.ofString "=8B") 751), (.str (Str.ofString "=8C") 755), (.str (Str.ofString "=8D") 759), (.str (Str.ofString "=8E") 763), (.str (Str.ofString "=8F") 767), (.str (Str.ofString "=90") 771), (.str (Str.ofString "=91") 775), (.str (Str.ofString "=92") 779), (.str (Str.ofString "=93") 783), (.str (Str.ofString "=94") 787), (.str (Str.ofString "=95") 791), (.str (Str.ofString "=96") 795), (.str (Str.ofString "=97") 799), (.str (Str.ofString "=98") 803), (.str (Str.ofString "=99") 807), (.str (Str.ofString "=9A") 811), (.str (Str.ofString "=9B") 815), (.str (Str.ofString "=9C") 819), (.str (Str.ofString "=9D") 823), (.str (Str.ofString "=9E") 827), (.str (Str.ofString "=9F") 831), (.str (Str.ofString "=A0") 835), (.str (Str.ofString "=A1") 839), (.str (Str.ofString "=A2") 843), (.str (Str.ofString "=A3") 847), (.str (Str.ofString "=A4") 851), (.str (Str.ofString "=A5") 855), (.str (Str.ofString "=A6") 859), (.str (Str.ofString "=A7") 863), (.str (Str.ofString "=A8") 867), (.str (Str.ofString "=A9") 871), (.str (Str.ofString "=AA") 875), (.str (Str.ofString "=AB") 879), (.str (Str.ofString "=AC") 883), (.str (Str.ofString "=AD") 887), (.str (Str.ofString "=AE") 891), (.str (Str.ofString "=AF") 895), (.str (Str.ofString "=B0") 899), (.str (Str.ofString "=B1") 903), (.str (Str.ofString "=B2") 907), (.str (Str.ofString "=B3") 911), (.str (Str.ofString "=B4") 915), (.str (Str.ofString "=B5") 919), (.str (Str.ofString "=B6") 923), (.str (Str.ofString "=B7") 927), (.str (Str.ofString "=B8") 931), (.str (Str.ofString "=B9") 935), (.str (Str.ofString "=BA") 939), (.str (Str.ofString "=BB") 943), (.str (Str.ofString "=BC") 947), (.str (Str.ofString "=BD") 951), (.str (Str.ofString "=BE") 955), (.str (Str.ofString "=BF") 959), (.str (Str.ofString "=C0") 963), (.str (Str.ofString "=C1") 967), (.str (Str.ofString "=C2") 971), (.str (Str.ofString "=C3") 975), (.str (Str.ofString "=C4") 979), (.str (Str.ofString "=C5") 983), (.str (Str.ofString "=C6") 987), (.str (Str.ofString "=C7") 991), (.str (Str.ofString "=C8") 995), (.str (Str.ofString "=C9") 999), (.str (Str.ofString "=CA") 1003), (.str (Str.ofString "=CB") 1007), (.str (Str.ofString "=CC") 1011), (.str (Str.ofString "=CD") 1015), (.str (Str.ofString "=CE") 1019), (.str (Str.ofString "=CF") 1023), (.str (Str.ofString "=D0") 1027), (.str (Str.ofString "=D1") 1031), (.str (Str.ofString "=D2") 1035), (.str (Str.ofString "=D3") 1039), (.str (Str.ofString "=D4") 1043), (.str (Str.ofString "=D5") 1047), (.str (Str.ofString "=D6") 1051), (.str (Str.ofString "=D7") 1055), (.str (Str.ofString "=D8") 1059), (.str (Str.ofString "=D9") 1063), (.str (Str.ofString "=DA") 1067), (.str (Str.ofString "=DB") 1071), (.str (Str.ofString "=DC") 1075), (.str (Str.ofString "=DD") 1079), (.str (Str.ofString "=DE") 1083), (.str (Str.ofString "=DF") 1087), (.str (Str.ofString "=E0") 1091), (.str (Str.ofString "=E1") 1095), (.str (Str.ofString "=E2") 1099), (.str (Str.ofString "=E3") 1103), (.str (Str.ofString "=E4") 1107), (.str (Str.ofString "=E5") 1111), (.str (Str.ofString "=E6") 1115), (.str (Str.ofString "=E7") 1119), (.str (Str.ofString "=E8") 1123), (.str (Str.ofString "=E9") 1127), (.str (Str.ofString "=EA") 1131), (.str (Str.ofString "=EB") 1135), (.str (Str.ofString "=EC") 1139), (.str (Str.ofString "=ED") 1143), (.str (Str.ofString "=EE") 1147), (.str (Str.ofString "=EF") 1151), (.str (Str.ofString "=F0") 1155), (.str (Str.ofString "=F1") 1159), (.str (Str.ofString "=F2") 1163), (.str (Str.ofString "=F3") 1167), (.str (Str.ofString "=F4") 1171), (.str (Str.ofString "=F5") 1175), (.str (Str.ofString "=F6") 1179), (.str (Str.ofString "=F7") 1183), (.str (Str.ofString "=F8") 1187), (.str (Str.ofString "=F9") 1191), (.str (Str.ofString "=FA") 1195), (.str (Str.ofString "=FB") 1199), (.str (Str.ofString "=FC") 1203), (.str (Str.ofString "=FD") 1207), (.str (Str.ofString "=FE") 1211), (.str (Str.ofString "=FF") 1215)] 0, #[]⟩
noncomputable def tSe11 (P : Params) : BT := (.node (boot_o_0 P) (.node (boot_o_1 P) (.node (o3v7 P) (.node (boot_o_7 P) (.node (o15 P) .nil .nil) (.node (o23 P) .nil .nil)) (.node (o11 P) (.node (o19 P) .nil .nil) (.node (o27 P) .nil .nil))) (.node (boot_o_5 P) (.node (boot_o_9 P) (.node (o17v16 P) .nil .nil) (.node (o25v4 P) .nil .nil)) (.node (o13 P) (.node (o21 P) .nil .nil) .nil))) (.node (boot_o_2 P) (.node (boot_o_4 P) (.node (boot_o_8 P) (.node (o16v16 P) .nil .nil) (.node (o24 P) .nil .nil)) (.node (o12 P) (.node (o20 P) .nil .nil) .nil)) (.node (boot_o_6 P) (.node (boot_o_10 P) (.node (o18v17 P) .nil .nil) (.node (o26 P) .nil .nil)) (.node (o14 P) (.node (o22v6 P) .nil .nil) .nil))))
noncomputable def Se11 (w : World) (os : OsState) : SharedT := ⟨tSe11 w.params, 28, {}, #[], {}, 1445, os⟩
noncomputable abbrev pSe11 : Pos := ⟨13, 0, 13, 28⟩
noncomputable def en41 (P : Params) : DictEntry := ent P (.str (Str.ofString "c") 1242) (.int (33) 1449)
noncomputable def o3v8 (P : Params) : Obj := ⟨.type "dict", none, .dict #[en28 P, en1 P, en2 P, en3 P, en4 P, en5 P, en6 P, en7 P, en8 P, en9 P, en27 P, en29 P, en30 P, en31 P, en32 P, en33 P, en34 P, en35 P, en41 P] 19, #[]⟩
noncomputable def o24v1 (P : Params) : Obj := ⟨.type "list", none, .seq (mx 256 0 [(32, 32, 1448), (33, 33, 1451)]).toArray 0, #[]⟩
noncomputable def o28 (P : Params) : Obj := ⟨(.type "bytes_iterator"), none, (.fields #[(.bytes #[32, 33, 34, 35, 36, 37, 38, 39, 40, 41, 42, 43, 44, 45, 46, 47, 48, 49, 50, 51, 52, 53, 54, 55, 56, 57, 58, 59, 60, 62, 63, 64, 65, 66, 67, 68, 69, 70, 71, 72, 73, 74, 75, 76, 77, 78, 79, 80, 81, 82, 83, 84, 85, 86, 87, 88, 89, 90, 91, 92, 93, 94, 95, 96, 97, 98, 99, 100, 101, 102, 103, 104, 105, 106, 107, 108, 109, 110, 111, 112, 113, 114, 115, 116, 117, 118, 119, 120, 121, 122, 123, 124, 125, 126, 9] 1445), (.int (2) 0)]), #[]⟩
noncomputable def tSc12_1 (P : Params) : BT := (.node (boot_o_0 P) (.node (boot_o_1 P) (.node (o3v8 P) (.node (boot_o_7 P) (.node (o15 P) .nil .nil) (.node (o23 P) .nil .nil)) (.node (o11 P) (.node (o19 P) .nil .nil) (.node (o27 P) .nil .nil))) (.node (boot_o_5 P) (.node (boot_o_9 P) (.node (o17v16 P) .nil .nil) (.node (o25v4 P) .nil .nil)) (.node (o13 P) (.node (o21 P) .nil .nil) .nil))) (.node (boot_o_2 P) (.node (boot_o_4 P) (.node (boot_o_8 P) (.node (o16v16 P) .nil .nil) (.node (o24v1 P) .nil .nil)) (.node (o12 P) (.node (o20 P) .nil .nil) (.node (o28 P) .nil .nil))) (.node (boot_o_6 P) (.node (boot_o_10 P) (.node (o18v17 P) .nil .nil) (.node (o26 P) .nil .nil)) (.node (o14 P) (.node (o22v6 P) .nil .nil) .nil))))
noncomputable def Sc12_1 (w : World) (os : OsState) : SharedT := ⟨tSc12_1 w.params, 29, {}, #[], {}, 1452, os⟩
noncomputable abbrev pSc12_1 : Pos := ⟨15, 4, 15, 23⟩
noncomputable def en42 (P : Params) : DictEntry := ent P (.str (Str.ofString "c") 1242) (.int (49) 1497)
noncomputable def o3v9 (P : Params) : Obj := ⟨.type "dict", none, .dict #[en28 P, en1 P, en2 P, en3 P, en4 P, en5 P, en6 P, en7 P, en8 P, en9 P, en27 P, en29 P, en30 P, en31 P, en32 P, en33 P, en34 P, en35 P, en42 P] 19, #[]⟩
noncomputable def o24v2 (P : Params) : Obj := ⟨.type "list", none, .seq (mx 256 0 [(32, 32, 1448), (33, 33, 1451), (34, 34, 1454), (35, 35, 1457), (36, 36, 1460), (37, 37, 1463), (38, 38, 1466), (39, 39, 1469), (40, 40, 1472), (41, 41, 1475), (42, 42, 1478), (43, 43, 1481), (44, 44, 1484), (45, 45, 1487), (46, 46, 1490), (47, 47, 1493), (48, 48, 1496), (49, 49, 1499)]).toArray 0, #[]⟩
noncomputable def o28v1 (P : Params) : Obj := ⟨(.type "bytes_iterator"), none, (.fields #[(.bytes #[32, 33, 34, 35, 36, 37, 38, 39, 40, 41, 42, 43, 44, 45, 46, 47, 48, 49, 50, 51, 52, 53, 54, 55, 56, 57, 58, 59, 60, 62, 63, 64, 65, 66, 67, 68, 69, 70, 71, 72, 73, 74, 75, 76, 77, 78, 79, 80, 81, 82, 83, 84, 85, 86, 87, 88, 89, 90, 91, 92, 93, 94, 95, 96, 97, 98, 99, 100, 101, 102, 103, 104, 105, 106, 107, 108, 109, 110, 111, 112, 113, 114, 115, 116, 117, 118, 119, 120, 121, 122, 123, 124, 125, 126, 9] 1445), (.int (18) 0)]), #[]⟩
noncomputable def tSc12_17 (P : Params) : BT := (.node (boot_o_0 P) (.node (boot_o_1 P) (.node (o3v9 P) (.node (boot_o_7 P) (.node (o15 P) .nil .nil) (.node (o23 P) .nil .nil)) (.node (o11 P) (.node (o19 P) .nil .nil) (.node (o27 P) .nil .nil))) (.node (boot_o_5 P) (.node (boot_o_9 P) (.node (o17v16 P) .nil .nil) (.node (o25v4 P) .nil .nil)) (.node (o13 P) (.node (o21 P) .nil .nil) .nil))) (.node (boot_o_2 P) (.node (boot_o_4 P) (.node (boot_o_8 P) (.node (o16v16 P) .nil .nil) (.node (o24v2 P) .nil .nil)) (.node (o12 P) (.node (o20 P) .nil .nil) (.node (o28v1 P) .nil .nil))) (.node (boot_o_6 P) (.node (boot_o_10 P) (.node (o18v17 P) .nil .nil) (.node (o26 P) .nil .nil)) (.node (o14 P) (.node (o22v6 P) .nil .nil) .nil))))
noncomputable def Sc12_17 (w : World) (os : OsState) : SharedT := ⟨tSc12_17 w.params, 29, {}, #[], {}, 1500, os⟩
noncomputable abbrev pSc12_17 : Pos := ⟨15, 4, 15, 23⟩
noncomputable def en43 (P : Params) : DictEntry := ent P (.str (Str.ofString "c") 1242) (.int (66) 1545)
noncomputable def o3v10 (P : Params) : Obj := ⟨.type "dict", none, .dict #[en28 P, en1 P, en2 P, en3 P, en4 P, en5 P, en6 P, en7 P, en8 P, en9 P, en27 P, en29 P, en30 P, en31 P, en32 P, en33 P, en34 P, en35 P, en43 P] 19, #[]⟩
noncomputable def o24v3 (P : Params) : Obj := ⟨.type "list", none, .seq (mx 256 0 [(32, 32, 1448), (33, 33, 1451), (34, 34, 1454), (35, 35, 1457), (36, 36, 1460), (37, 37, 1463), (38, 38, 1466), (39, 39, 1469), (40, 40, 1472), (41, 41, 1475), (42, 42, 1478), (43, 43, 1481), (44, 44, 1484), (45, 45, 1487), (46, 46, 1490), (47, 47, 1493), (48, 48, 1496), (49, 49, 1499), (50, 50, 1502), (51, 51, 1505), (52, 52, 1508), (53, 53, 1511), (54, 54, 1514), (55, 55, 1517), (56, 56, 1520), (57, 57, 1523), (58, 58, 1526), (59, 59, 1529), (60, 60, 1532), (62, 62, 1535), (63, 63, 1538), (64, 64, 1541), (65, 65, 1544), (66, 66, 1547)]).toArray 0, #[]⟩
noncomputable def o28v2 (P : Params) : Obj := ⟨(.type "bytes_iterator"), none, (.fields #[(.bytes #[32, 33, 34, 35, 36, 37, 38, 39, 40, 41, 42, 43, 44, 45, 46, 47, 48, 49, 50, 51, 52, 53, 54, 55, 56, 57, 58, 59, 60, 62, 63, 64, 65, 66, 67, 68, 69, 70, 71, 72, 73, 74, 75, 76, 77, 78, 79, 80, 81, 82, 83, 84, 85, 86, 87, 88, 89, 90, 91, 92, 93, 94, 95, 96, 97, 98, 99, 100, 101, 102, 103, 104, 105, 106, 107, 108, 109, 110, 111, 112, 113, 114, 115, 116, 117, 118, 119, 120, 121, 122, 123, 124, 125, 126, 9] 1445), (.int (34) 0)]), #[]⟩
noncomputable def tSc12_33 (P : Params) : BT := (.node (boot_o_0 P) (.node (boot_o_1 P) (.node (o3v10 P) (.node (boot_o_7 P) (.node (o15 P) .nil .nil) (.node (o23 P) .nil .nil)) (.node (o11 P) (.node (o19 P) .nil .nil) (.node (o27 P) .nil .nil))) (.node (boot_o_5 P) (.node (boot_o_9 P) (.node (o17v16 P) .nil .nil) (.node (o25v4 P) .nil .nil)) (.node (o13 P) (.node (o21 P) .nil .nil) .nil))) (.node (boot_o_2 P) (.node (boot_o_4 P) (.node (boot_o_8 P) (.node (o16v16 P) .nil .nil) (.node (o24v3 P) .nil .nil)) (.node (o12 P) (.node (o20 P) .nil .nil) (.node (o28v2 P) .nil .nil))) (.node (boot_o_6 P) (.node (boot_o_10 P) (.node (o18v17 P) .nil .nil) (.node (o26 P) .nil .nil)) (.node (o14 P) (.node (o22v6 P) .nil .nil) .nil))))
noncomputable def Sc12_33 (w : World) (os : OsState) : SharedT := ⟨tSc12_33 w.params, 29, {}, #[], {}, 1548, os⟩
noncomputable abbrev pSc12_33 : Pos := ⟨15, 4, 15, 23⟩
noncomputable def en44 (P : Params) : DictEntry := ent P (.str (Str.ofString "c") 1242) (.int (82) 1593)
noncomputable def o3v11 (P : Params) : Obj := ⟨.type "dict", none, .dict #[en28 P, en1 P, en2 P, en3 P, en4 P, en5 P, en6 P, en7 P, en8 P, en9 P, en27 P, en29 P, en30 P, en31 P, en32 P, en33 P, en34 P, en35 P, en44 P] 19, #[]⟩
noncomputable def o24v4 (P : Params) : Obj := ⟨.type "list", none, .seq (mx 256 0 [(32, 32, 1448), (33, 33, 1451), (34, 34, 1454), (35, 35, 1457), (36, 36, 1460), (37, 37, 1463), (38, 38, 1466), (39, 39, 1469), (40, 40, 1472), (41, 41, 1475), (42, 42, 1478), (43, 43, 1481), (44, 44, 1484), (45, 45, 1487), (46, 46, 1490), (47, 47, 1493), (48, 48, 1496), (49, 49, 1499), (50, 50, 1502), (51, 51, 1505), (52, 52, 1508), (53, 53, 1511), (54, 54, 1514), (55, 55, 1517), (56, 56, 1520), (57, 57, 1523), (58, 58, 1526), (59, 59, 1529), (60, 60, 1532), (62, 62, 1535), (63, 63, 1538), (64, 64, 1541), (65, 65, 1544), (66, 66, 1547), (67, 67, 1550), (68, 68, 1553), (69, 69, 1556), (70, 70, 1559), (71, 71, 1562), (72, 72, 1565), (73, 73, 1568), (74, 74, 1571), (75, 75, 1574), (76, 76, 1577), (77, 77, 1580), (78, 78, 1583), (79, 79, 1586), (80, 80, 1589), (81, 81, 1592), (82, 82, 1595)]).toArray 0, #[]⟩
noncomputable def o28v3 (P : Params) : Obj := ⟨(.type "bytes_iterator"), none, (.fields #[(.bytes #[32, 33, 34, 35, 36, 37, 38, 39, 40, 41, 42, 43, 44, 45, 46, 47, 48, 49, 50, 51, 52, 53, 54, 55, 56, 57, 58, 59, 60, 62, 63, 64, 65, 66, 67, 68, 69, 70, 71, 72, 73, 74, 75, 76, 77, 78, 79, 80, 81, 82, 83, 84, 85, 86, 87, 88, 89, 90, 91, 92, 93, 94, 95, 96, 97, 98, 99, 100, 101, 102, 103, 104, 105, 106, 107, 108, 109, 110, 111, 112, 113, 114, 115, 116, 117, 118, 119, 120, 121, 122, 123, 124, 125, 126, 9] 1445), (.int (50) 0)]), #[]⟩
noncomputable def tSc12_49 (P : Params) : BT := (.node (boot_o_0 P) (.node (boot_o_1 P) (.node (o3v11 P) (.node (boot_o_7 P) (.node (o15 P) .nil .nil) (.node (o23 P) .nil .nil)) (.node (o11 P) (.node (o19 P) .nil .nil) (.node (o27 P) .nil .nil))) (.node (boot_o_5 P) (.node (boot_o_9 P) (.node (o17v16 P) .nil .nil) (.node (o25v4 P) .nil .nil)) (.node (o13 P) (.node (o21 P) .nil .nil) .nil))) (.node (boot_o_2 P) (.node (boot_o_4 P) (.node (boot_o_8 P) (.node (o16v16 P) .nil .nil) (.node (o24v4 P) .nil .nil)) (.node (o12 P) (.node (o20 P) .nil .nil) (.node (o28v3 P) .nil .nil))) (.node (boot_o_6 P) (.node (boot_o_10 P) (.node (o18v17 P) .nil .nil) (.node (o26 P) .nil .nil)) (.node (o14 P) (.node (o22v6 P) .nil .nil) .nil))))
noncomputable def Sc12_49 (w : World) (os : OsState) : SharedT := ⟨tSc12_49 w.params, 29, {}, #[], {}, 1596, os⟩
noncomputable abbrev pSc12_49 : Pos := ⟨15, 4, 15, 23⟩
noncomputable def en45 (P : Params) : DictEntry := ent P (.str (Str.ofString "c") 1242) (.int (98) 1641)
noncomputable def o3v12 (P : Params) : Obj := ⟨.type "dict", none, .dict #[en28 P, en1 P, en2 P, en3 P, en4 P, en5 P, en6 P, en7 P, en8 P, en9 P, en27 P, en29 P, en30 P, en31 P, en32 P, en33 P, en34 P, en35 P, en45 P] 19, #[]⟩
noncomputable def o24v5 (P : Params) : Obj := ⟨.type "list", none, .seq (mx 256 0 [(32, 32, 1448), (33, 33, 1451), (34, 34, 1454), (35, 35, 1457), (36, 36, 1460), (37, 37, 1463), (38, 38, 1466), (39, 39, 1469), (40, 40, 1472), (41, 41, 1475), (42, 42, 1478), (43, 43, 1481), (44, 44, 1484), (45, 45, 1487), (46, 46, 1490), (47, 47, 1493), (48, 48, 1496), (49, 49, 1499), (50, 50, 1502), (51, 51, 1505), (52, 52, 1508), (53, 53, 1511), (54, 54, 1514), (55, 55, 1517), (56, 56, 1520), (57, 57, 1523), (58, 58, 1526), (59, 59, 1529), (60, 60, 1532), (62, 62, 1535), (63, 63, 1538), (64, 64, 1541), (65, 65, 1544), (66, 66, 1547), (67, 67, 1550), (68, 68, 1553), (69, 69, 1556), (70, 70, 1559), (71, 71, 1562), (72, 72, 1565), (73, 73, 1568), (74, 74, 1571), (75, 75, 1574), (76, 76, 1577), (77, 77, 1580), (78, 78, 1583), (79, 79, 1586), (80, 80, 1589), (81, 81, 1592), (82, 82, 1595), (83, 83, 1598), (84, 84, 1601), (85, 85, 1604), (86, 86, 1607), (87, 87, 1610), (88, 88, 1613), (89, 89, 1616), (90, 90, 1619), (91, 91, 1622), (92, 92, 1625), (93, 93, 1628), (94, 94, 1631), (95, 95, 1634), (96, 96, 1637), (97, 97, 1640), (98, 98, 1643)]).toArray 0, #[]⟩
noncomputable def o28v4 (P : Params) : Obj := ⟨(.type "bytes_iterator"), none, (.fields #[(.bytes #[32, 33, 34, 35, 36, 37, 38, 39, 40, 41, 42, 43, 44, 45, 46, 47, 48, 49, 50, 51, 52, 53, 54, 55, 56, 57, 58, 59, 60, 62, 63, 64, 65, 66, 67, 68, 69, 70, 71, 72, 73, 74, 75, 76, 77, 78, 79, 80, 81, 82, 83, 84, 85, 86, 87, 88, 89, 90, 91, 92, 93, 94, 95, 96, 97, 98, 99, 100, 101, 102, 103, 104, 105, 106, 107, 108, 109, 110, 111, 112, 113, 114, 115, 116, 117, 118, 119, 120, 121, 122, 123, 124, 125, 126, 9] 1445), (.int (66) 0)]), #[]⟩
noncomputable def tSc12_65 (P : Params) : BT := (.node (boot_o_0 P) (.node (boot_o_1 P) (.node (o3v12 P) (.node (boot_o_7 P) (.node (o15 P) .nil .nil) (.node (o23 P) .nil .nil)) (.node (o11 P) (.node (o19 P) .nil .nil) (.node (o27 P) .nil .nil))) (.node (boot_o_5 P) (.node (boot_o_9 P) (.node (o17v16 P) .nil .nil) (.node (o25v4 P) .nil .nil)) (.node (o13 P) (.node (o21 P) .nil .nil) .nil))) (.node (boot_o_2 P) (.node (boot_o_4 P) (.node (boot_o_8 P) (.node (o16v16 P) .nil .nil) (.node (o24v5 P) .nil .nil)) (.node (o12 P) (.node (o20 P) .nil .nil) (.node (o28v4 P) .nil .nil))) (.node (boot_o_6 P) (.node (boot_o_10 P) (.node (o18v17 P) .nil .nil) (.node (o26 P) .nil .nil)) (.node (o14 P) (.node (o22v6 P) .nil .nil) .nil))))
noncomputable def Sc12_65 (w : World) (os : OsState) : SharedT := ⟨tSc12_65 w.params, 29, {}, #[], {}, 1644, os⟩
noncomputable abbrev pSc12_65 : Pos := ⟨15, 4, 15, 23⟩
noncomputable def en46 (P : Params) : DictEntry := ent P (.str (Str.ofString "c") 1242) (.int (114) 1689)
noncomputable def o3v13 (P : Params) : Obj := ⟨.type "dict", none, .dict #[en28 P, en1 P, en2 P, en3 P, en4 P, en5 P, en6 P, en7 P, en8 P, en9 P, en27 P, en29 P, en30 P, en31 P, en32 P, en33 P, en34 P, en35 P, en46 P] 19, #[]⟩
noncomputable def o24v6 (P : Params) : Obj := ⟨.type "list", none, .seq (mx 256 0 [(32, 32, 1448), (33, 33, 1451), (34, 34, 1454), (35, 35, 1457), (36, 36, 1460), (37, 37, 1463), (38, 38, 1466), (39, 39, 1469), (40, 40, 1472), (41, 41, 1475), (42, 42, 1478), (43, 43, 1481), (44, 44, 1484), (45, 45, 1487), (46, 46, 1490), (47, 47, 1493), (48, 48, 1496), (49, 49, 1499), (50, 50, 1502), (51, 51, 1505), (52, 52, 1508), (53, 53, 1511), (54, 54, 1514), (55, 55, 1517), (56, 56, 1520), (57, 57, 1523), (58, 58, 1526), (59, 59, 1529), (60, 60, 1532), (62, 62, 1535), (63, 63, 1538), (64, 64, 1541), (65, 65, 1544), (66, 66, 1547), (67, 67, 1550), (68, 68, 1553), (69, 69, 1556), (70, 70, 1559), (71, 71, 1562), (72, 72, 1565), (73, 73, 1568), (74, 74, 1571), (75, 75, 1574), (76, 76, 1577), (77, 77, 1580), (78, 78, 1583), (79, 79, 1586), (80, 80, 1589), (81, 81, 1592), (82, 82, 1595), (83, 83, 1598), (84, 84, 1601), (85, 85, 1604), (86, 86, 1607), (87, 87, 1610), (88, 88, 1613), (89, 89, 1616), (90, 90, 1619), (91, 91, 1622), (92, 92, 1625), (93, 93, 1628), (94, 94, 1631), (95, 95, 1634), (96, 96, 1637), (97, 97, 1640), (98, 98, 1643), (99, 99, 1646), (100, 100, 1649), (101, 101, 1652), (102, 102, 1655), (103, 103, 1658), (104, 104, 1661), (105, 105, 1664), (106, 106, 1667), (107, 107, 1670), (108, 108, 1673), (109, 109, 1676), (110, 110, 1679), (111, 111, 1682), (112, 112, 1685), (113, 113, 1688), (114, 114, 1691)]).toArray 0, #[]⟩
noncomputable def o28v5 (P : Params) : Obj := ⟨(.type "bytes_iterator"), none, (.fields #[(.bytes #[32, 33, 34, 35, 36, 37, 38, 39, 40, 41, 42, 43, 44, 45, 46, 47, 48, 49, 50, 51, 52, 53, 54, 55, 56, 57, 58, 59, 60, 62, 63, 64, 65, 66, 67, 68, 69, 70, 71, 72, 73, 74, 75, 76, 77, 78, 79, 80, 81, 82, 83, 84, 85, 86, 87, 88, 89, 90, 91, 92, 93, 94, 95, 96, 97, 98, 99, 100, 101, 102, 103, 104, 105, 106, 107, 108, 109, 110, 111, 112, 113, 114, 115, 116, 117, 118, 119, 120, 121, 122, 123, 124, 125, 126, 9] 1445), (.int (82) 0)]), #[]⟩
noncomputable def tSc12_81 (P : Params) : BT := (.node (boot_o_0 P) (.node (boot_o_1 P) (.node (o3v13 P) (.node (boot_o_7 P) (.node (o15 P) .nil .nil) (.node (o23 P) .nil .nil)) (.node (o11 P) (.node (o19 P) .nil .nil) (.node (o27 P) .nil .nil))) (.node (boot_o_5 P) (.node (boot_o_9 P) (.node (o17v16 P) .nil .nil) (.node (o25v4 P) .nil .nil)) (.node (o13 P) (.node (o21 P) .nil .nil) .nil))) (.node (boot_o_2 P) (.node (boot_o_4 P) (.node (boot_o_8 P) (.node (o16v16 P) .nil .nil) (.node (o24v6 P) .nil .nil)) (.node (o12 P) (.node (o20 P) .nil .nil) (.node (o28v5 P) .nil .nil))) (.node (boot_o_6 P) (.node (boot_o_10 P) (.node (o18v17 P) .nil .nil) (.node (o26 P) .nil .nil)) (.node (o14 P) (.node (o22v6 P) .nil .nil) .nil))))
noncomputable def Sc12_81 (w : World) (os : OsState) : SharedT := ⟨tSc12_81 w.params, 29, {}, #[], {}, 1692, os⟩
noncomputable abbrev pSc12_81 : Pos := ⟨15, 4, 15, 23⟩
noncomputable def en47 (P : Params) : DictEntry := ent P (.str (Str.ofString "c") 1242) (.int (9) 1728)
noncomputable def o3v14 (P : Params) : Obj := ⟨.type "dict", none, .dict #[en28 P, en1 P, en2 P, en3 P, en4 P, en5 P, en6 P, en7 P, en8 P, en9 P, en27 P, en29 P, en30 P, en31 P, en32 P, en33 P, en34 P, en35 P, en47 P] 19, #[]⟩
noncomputable def o24v7 (P : Params) : Obj := ⟨.type "list", none, .seq (mx 256 0 [(9, 9, 1730), (32, 32, 1448), (33, 33, 1451), (34, 34, 1454), (35, 35, 1457), (36, 36, 1460), (37, 37, 1463), (38, 38, 1466), (39, 39, 1469), (40, 40, 1472), (41, 41, 1475), (42, 42, 1478), (43, 43, 1481), (44, 44, 1484), (45, 45, 1487), (46, 46, 1490), (47, 47, 1493), (48, 48, 1496), (49, 49, 1499), (50, 50, 1502), (51, 51, 1505), (52, 52, 1508), (53, 53, 1511), (54, 54, 1514), (55, 55, 1517), (56, 56, 1520), (57, 57, 1523), (58, 58, 1526), (59, 59, 1529), (60, 60, 1532), (62, 62, 1535), (63, 63, 1538), (64, 64, 1541), (65, 65, 1544), (66, 66, 1547), (67, 67, 1550), (68, 68, 1553), (69, 69, 1556), (70, 70, 1559), (71, 71, 1562), (72, 72, 1565), (73, 73, 1568), (74, 74, 1571), (75, 75, 1574), (76, 76, 1577), (77, 77, 1580), (78, 78, 1583), (79, 79, 1586), (80, 80, 1589), (81, 81, 1592), (82, 82, 1595), (83, 83, 1598), (84, 84, 1601), (85, 85, 1604), (86, 86, 1607), (87, 87, 1610), (88, 88, 1613), (89, 89, 1616), (90, 90, 1619), (91, 91, 1622), (92, 92, 1625), (93, 93, 1628), (94, 94, 1631), (95, 95, 1634), (96, 96, 1637), (97, 97, 1640), (98, 98, 1643), (99, 99, 1646), (100, 100, 1649), (101, 101, 1652), (102, 102, 1655), (103, 103, 1658), (104, 104, 1661), (105, 105, 1664), (106, 106, 1667), (107, 107, 1670), (108, 108, 1673), (109, 109, 1676), (110, 110, 1679), (111, 111, 1682), (112, 112, 1685), (113, 113, 1688), (114, 114, 1691), (115, 115, 1694), (116, 116, 1697), (117, 117, 1700), (118, 118, 1703), (119, 119, 1706), (120, 120, 1709), (121, 121, 1712), (122, 122, 1715), (123, 123, 1718), (124, 124, 1721), (125, 125, 1724), (126, 126, 1727)]).toArray 0, #[]⟩
noncomputable def o28v6 (P : Params) : Obj := ⟨(.type "bytes_iterator"), none, (.fields #[(.none), (.int (95) 0)]), #[]⟩
noncomputable def o29 (P : Params) : Obj := ⟨(.type "tuple"), none, (.seq #[] 0), #[]⟩
noncomputable def o30 (P : Params) : Obj := ⟨(.type "StopIteration"), none, (.fields #[(.ref 29), (.none), (.none), (.none), (.bool false), (.none)]), #[]⟩
noncomputable def tSe12 (P : Params) : BT := (.node (boot_o_0 P) (.node (boot_o_1 P) (.node (o3v14 P) (.node (boot_o_7 P) (.node (o15 P) .nil .nil) (.node (o23 P) .nil .nil)) (.node (o11 P) (.node (o19 P) .nil .nil) (.node (o27 P) .nil .nil))) (.node (boot_o_5 P) (.node (boot_o_9 P) (.node (o17v16 P) .nil .nil) (.node (o25v4 P) .nil .nil)) (.node (o13 P) (.node (o21 P) .nil .nil) (.node (o29 P) .nil .nil)))) (.node (boot_o_2 P) (.node (boot_o_4 P) (.node (boot_o_8 P) (.node (o16v16 P) .nil .nil) (.node (o24v7 P) .nil .nil)) (.node (o12 P) (.node (o20 P) .nil .nil) (.node (o28v6 P) .nil .nil))) (.node (boot_o_6 P) (.node (boot_o_10 P) (.node (o18v17 P) .nil .nil) (.node (o26 P) .nil .nil)) (.node (o14 P) (.node (o22v6 P) .nil .nil) (.node (o30 P) .nil .nil)))))
noncomputable def Se12 (w : World) (os : OsState) : SharedT := ⟨tSe12 w.params, 31, {}, #[], {}, 1731, os⟩
noncomputable abbrev pSe12 : Pos := ⟨14, 9, 14, 110⟩
noncomputable def en48 (P : Params) : DictEntry := ent P (.str (Str.ofString "unquote") 1737) (.ref 37)
noncomputable def en49 (P : Params) : DictEntry := ent P (.str (Str.ofString "header_encode") 1747) (.ref 45)
noncomputable def en50 (P : Params) : DictEntry := ent P (.str (Str.ofString "_QUOPRI_BODY_ENCODE_MAP") 1748) (.ref 47)
noncomputable def o3v15 (P : Params) : Obj := ⟨.type "dict", none, .dict #[en28 P, en1 P, en2 P, en3 P, en4 P, en5 P, en6 P, en7 P, en8 P, en9 P, en27 P, en29 P, en30 P, en31 P, en32 P, en33 P, en34 P, en35 P, en48 P, en49 P, en50 P] 23, #[]⟩
noncomputable def o12v1 (P : Params) : Obj := ⟨(.none), none, (.fields #[(.int (16) 0), (.int (0) 0), (.ref 36), (.int (18) 0), (.int (0) 0), (.ref 44)]), #[]⟩
noncomputable def o31 (P : Params) : Obj := ⟨(.type "tuple"), none, (.seq #[] 0), #[]⟩
noncomputable def o32 (P : Params) : Obj := ⟨(.none), none, (.fields #[]), #[]⟩
noncomputable def o33 (P : Params) : Obj := ⟨(.type "tuple"), none, (.seq #[(.str (Str.ofString "s") 1734)] 0), #[]⟩
noncomputable def o34 (P : Params) : Obj := ⟨(.type "tuple"), none, (.seq #[] 0), #[]⟩
noncomputable def o35 (P : Params) : Obj := ⟨(.none), none, .func ⟨Str.ofString "unquote", Str.ofString "unquote", a13.1, .stmts b13.1, c13.1, 0, [], (.none), (.none), (.none), (.none), none, (.none), (.none), 0⟩, #[]⟩
noncomputable def o36 (P : Params) : Obj := ⟨(.type "code"), none, (.fields #[(.str (Str.ofString "unquote") 1731), (.str (Str.ofString "unquote") 1732), (.str (Str.ofString "/claim/cut.py") 1733), (.int (16) 0), (.int (1) 0), (.int (0) 0), (.int (0) 0), (.int (3) 0), (.ref 31), (.bool true), (.int (181) 0), (.ref 32), (.none), (.ref 33), (.ref 34), (.ref 35), (.int (1735) 0), (.int (16) 0), (.str (Str.ofString "/claim/cut.py") 1736)]), #[]⟩
noncomputable def o37 (P : Params) : Obj := ⟨(.type "function"), none, .func ⟨Str.ofString "unquote", Str.ofString "unquote", a13.1, .stmts b13.1, c13.1, 3, [], (.none), (.none), (.none), (.str (Str.ofString "cpy313.email.quoprimime") 1232), none, (.ref 36), (.none), 0⟩, #[]⟩
noncomputable def o38 (P : Params) : Obj := ⟨(.type "tuple"), none, (.seq #[(.str (Str.ofString "iso-8859-1") 1738)] 0), #[]⟩
noncomputable def o39 (P : Params) : Obj := ⟨(.type "tuple"), none, (.seq #[] 0), #[]⟩
noncomputable def o40 (P : Params) : Obj := ⟨(.none), none, (.fields #[]), #[]⟩
noncomputable def o41 (P : Params) : Obj := ⟨(.type "tuple"), none, (.seq #[(.str (Str.ofString "header_bytes") 1742), (.str (Str.ofString "charset") 1743), (.str (Str.ofString "encoded") 1744)] 0), #[]⟩
noncomputable def o42 (P : Params) : Obj := ⟨(.type "tuple"), none, (.seq #[] 0), #[]⟩
noncomputable def o43 (P : Params) : Obj := ⟨(.none), none, .func ⟨Str.ofString "header_encode", Str.ofString "header_encode", a14.1, .stmts b14.1, c14.1, 0, [], (.none), (.none), (.none), (.none), none, (.none), (.none), 0⟩, #[]⟩
noncomputable def o44 (P : Params) : Obj := ⟨(.type "code"), none, (.fields #[(.str (Str.ofString "header_encode") 1739), (.str (Str.ofString "header_encode") 1740), (.str (Str.ofString "/claim/cut.py") 1741), (.int (18) 0), (.int (2) 0), (.int (0) 0), (.int (0) 0), (.int (3) 0), (.ref 39), (.bool true), (.int (181) 0), (.ref 40), (.none), (.ref 41), (.ref 42), (.ref 43), (.int (1745) 0), (.int (18) 0), (.str (Str.ofString "/claim/cut.py") 1746)]), #[]⟩
noncomputable def o45 (P : Params) : Obj := ⟨(.type "function"), none, .func ⟨Str.ofString "header_encode", Str.ofString "header_encode", a14.1, .stmts b14.1, c14.1, 3, [], (.ref 38), (.none), (.none), (.str (Str.ofString "cpy313.email.quoprimime") 1232), none, (.ref 44), (.none), 0⟩, #[]⟩
noncomputable def o46 (P : Params) : Obj := ⟨(.type "slice"), none, (.fields #[(.none), (.none), (.none)]), #[]⟩
noncomputable def o47 (P : Params) : Obj := ⟨.type "list", none, .seq (mx 256 0 [(9, 9, 1730), (10, 10, 1755), (13, 13, 1752), (32, 32, 1448), (33, 33, 1451), (34, 34, 1454), (35, 35, 1457), (36, 36, 1460), (37, 37, 1463), (38, 38, 1466), (39, 39, 1469), (40, 40, 1472), (41, 41, 1475), (42, 42, 1478), (43, 43, 1481), (44, 44, 1484), (45, 45, 1487), (46, 46, 1490), (47, 47, 1493), (48, 48, 1496), (49, 49, 1499), (50, 50, 1502), (51, 51, 1505), (52, 52, 1508), (53, 53, 1511), (54, 54, 1514), (55, 55, 1517), (56, 56, 1520), (57, 57, 1523), (58, 58, 1526), (59, 59, 1529), (60, 60, 1532), (62, 62, 1535), (63, 63, 1538), (64, 64, 1541), (65, 65, 1544), (66, 66, 1547), (67, 67, 1550), (68, 68, 1553), (69, 69, 1556), (70, 70, 1559), (71, 71, 1562), (72, 72, 1565), (73, 73, 1568), (74, 74, 1571), (75, 75, 1574), (76, 76, 1577), (77, 77, 1580), (78, 78, 1583), (79, 79, 1586), (80, 80, 1589), (81, 81, 1592), (82, 82, 1595), (83, 83, 1598), (84, 84, 1601), (85, 85, 1604), (86, 86, 1607), (87, 87, 1610), (88, 88, 1613), (89, 89, 1616), (90, 90, 1619), (91, 91, 1622), (92, 92, 1625), (93, 93, 1628), (94, 94, 1631), (95, 95, 1634), (96, 96, 1637), (97, 97, 1640), (98, 98, 1643), (99, 99, 1646), (100, 100, 1649), (101, 101, 1652), (102, 102, 1655), (103, 103, 1658), (104, 104, 1661), (105, 105, 1664), (106, 106, 1667), (107, 107, 1670), (108, 108, 1673), (109, 109, 1676), (110, 110, 1679), (111, 111, 1682), (112, 112, 1685), (113, 113, 1688), (114, 114, 1691), (115, 115, 1694), (116, 116, 1697), (117, 117, 1700), (118, 118, 1703), (119, 119, 1706), (120, 120, 1709), (121, 121, 1712), (122, 122, 1715), (123, 123, 1718), (124, 124, 1721), (125, 125, 1724), (126, 126, 1727)]).toArray 0, #[]⟩
noncomputable def o48 (P : Params) : Obj := ⟨(.type "bytes_iterator"), none, (.fields #[(.none), (.int (2) 0)]), #[]⟩
noncomputable def o49 (P : Params) : Obj := ⟨(.type "tuple"), none, (.seq #[] 0), #[]⟩
noncomputable def o50 (P : Params) : Obj := ⟨(.type "StopIteration"), none, (.fields #[(.ref 49), (.none), (.none), (.none), (.bool false), (.none)]), #[]⟩
noncomputable def tSe17 (P : Params) : BT := (.node (boot_o_0 P) (.node (boot_o_1 P) (.node (o3v15 P) (.node (boot_o_7 P) (.node (o15 P) (.node (o31 P) .nil .nil) (.node (o47 P) .nil .nil)) (.node (o23 P) (.node (o39 P) .nil .nil) .nil)) (.node (o11 P) (.node (o19 P) (.node (o35 P) .nil .nil) .nil) (.node (o27 P) (.node (o43 P) .nil .nil) .nil))) (.node (boot_o_5 P) (.node (boot_o_9 P) (.node (o17v16 P) (.node (o33 P) .nil .nil) (.node (o49 P) .nil .nil)) (.node (o25v4 P) (.node (o41 P) .nil .nil) .nil)) (.node (o13 P) (.node (o21 P) (.node (o37 P) .nil .nil) .nil) (.node (o29 P) (.node (o45 P) .nil .nil) .nil)))) (.node (boot_o_2 P) (.node (boot_o_4 P) (.node (boot_o_8 P) (.node (o16v16 P) (.node (o32 P) .nil .nil) (.node (o48 P) .nil .nil)) (.node (o24v7 P) (.node (o40 P) .nil .nil) .nil)) (.node (o12v1 P) (.node (o20 P) (.node (o36 P) .nil .nil) .nil) (.node (o28v6 P) (.node (o44 P) .nil .nil) .nil))) (.node (boot_o_6 P) (.node (boot_o_10 P) (.node (o18v17 P) (.node (o34 P) .nil .nil) (.node (o50 P) .nil .nil)) (.node (o26 P) (.node (o42 P) .nil .nil) .nil)) (.node (o14 P) (.node (o22v6 P) (.node (o38 P) .nil .nil) .nil) (.node (o30 P) (.node (o46 P) .nil .nil) .nil)))))
noncomputable def Se17 (w : World) (os : OsState) : SharedT := ⟨tSe17 w.params, 51, {}, #[], {}, 1756, os⟩
noncomputable abbrev pSe17 : Pos := ⟨26, 4, 26, 5⟩
noncomputable def en51 (P : Params) : DictEntry := ent P (.str (Str.ofString "__name__") 165) (.str (Str.ofString "cpy313.stat") 1793)
noncomputable def en52 (P : Params) : DictEntry := ent P (.str (Str.ofString "decode") 1768) (.ref 58)
noncomputable def en53 (P : Params) : DictEntry := ent P (.str (Str.ofString "sorted_list_difference") 1784) (.ref 65)
noncomputable def en54 (P : Params) : DictEntry := ent P (.str (Str.ofString "three_way_cmp") 1792) (.ref 72)
noncomputable def o3v16 (P : Params) : Obj := ⟨.type "dict", none, .dict #[en51 P, en1 P, en2 P, en3 P, en4 P, en5 P, en6 P, en7 P, en8 P, en9 P, en27 P, en29 P, en30 P, en31 P, en32 P, en33 P, en34 P, en35 P, en48 P, en49 P, en50 P, en52 P, en53 P, en54 P] 26, #[]⟩
noncomputable def o12v2 (P : Params) : Obj := ⟨(.none), none, (.fields #[(.int (16) 0), (.int (0) 0), (.ref 36), (.int (18) 0), (.int (0) 0), (.ref 44), (.int (27) 0), (.int (0) 0), (.ref 57), (.int (58) 0), (.int (0) 0), (.ref 64), (.int (90) 0), (.int (0) 0), (.ref 71)]), #[]⟩
noncomputable def o51 (P : Params) : Obj := ⟨(.type "tuple"), none, (.seq #[(.str ⟨#[10]⟩ 187)] 0), #[]⟩
noncomputable def o52 (P : Params) : Obj := ⟨(.type "tuple"), none, (.seq #[] 0), #[]⟩
noncomputable def o53 (P : Params) : Obj := ⟨(.none), none, (.fields #[]), #[]⟩
noncomputable def o54 (P : Params) : Obj := ⟨(.type "tuple"), none, (.seq #[(.str (Str.ofString "encoded") 1759), (.str (Str.ofString "eol") 1760), (.str (Str.ofString "decoded") 1761), (.str (Str.ofString "line") 1762), (.str (Str.ofString "i") 1763), (.str (Str.ofString "n") 1764), (.str (Str.ofString "c") 1765)] 0), #[]⟩
noncomputable def o55 (P : Params) : Obj := ⟨(.type "tuple"), none, (.seq #[] 0), #[]⟩
noncomputable def o56 (P : Params) : Obj := ⟨(.none), none, .func ⟨Str.ofString "decode", Str.ofString "decode", a18.1, .stmts b18.1, c18.1, 0, [], (.none), (.none), (.none), (.none), none, (.none), (.none), 0⟩, #[]⟩
noncomputable def o57 (P : Params) : Obj := ⟨(.type "code"), none, (.fields #[(.str (Str.ofString "decode") 1756), (.str (Str.ofString "decode") 1757), (.str (Str.ofString "/claim/cut.py") 1758), (.int (27) 0), (.int (2) 0), (.int (0) 0), (.int (0) 0), (.int (3) 0), (.ref 52), (.bool true), (.int (181) 0), (.ref 53), (.none), (.ref 54), (.ref 55), (.ref 56), (.int (1766) 0), (.int (27) 0), (.str (Str.ofString "/claim/cut.py") 1767)]), #[]⟩
noncomputable def o58 (P : Params) : Obj := ⟨(.type "function"), none, .func ⟨Str.ofString "decode", Str.ofString "decode", a18.1, .stmts b18.1, c18.1, 3, [], (.ref 51), (.none), (.none), (.str (Str.ofString "cpy313.email.quoprimime") 1232), none, (.ref 57), (.none), 0⟩, #[]⟩
noncomputable def o59 (P : Params) : Obj := ⟨(.type "tuple"), none, (.seq #[] 0), #[]⟩
noncomputable def o60 (P : Params) : Obj := ⟨(.none), none, (.fields #[]), #[]⟩
noncomputable def o61 (P : Params) : Obj := ⟨(.type "tuple"), none, (.seq #[(.str (Str.ofString "expected") 1774), (.str (Str.ofString "actual") 1775), (.str (Str.ofString "i") 1776), (.str (Str.ofString "j") 1777), (.str (Str.ofString "missing") 1778), (.str (Str.ofString "unexpected") 1779), (.str (Str.ofString "e") 1780), (.str (Str.ofString "a") 1781)] 0), #[]⟩
noncomputable def o62 (P : Params) : Obj := ⟨(.type "tuple"), none, (.seq #[] 0), #[]⟩
noncomputable def o63 (P : Params) : Obj := ⟨(.none), none, .func ⟨Str.ofString "sorted_list_difference", Str.ofString "sorted_list_difference", a20.1, .stmts b20.1, c20.1, 0, [], (.none), (.none), (.none), (.none), none, (.none), (.none), 0⟩, #[]⟩
noncomputable def o64 (P : Params) : Obj := ⟨(.type "code"), none, (.fields #[(.str (Str.ofString "sorted_list_difference") 1771), (.str (Str.ofString "sorted_list_difference") 1772), (.str (Str.ofString "/claim/cut.py") 1773), (.int (58) 0), (.int (2) 0), (.int (0) 0), (.int (0) 0), (.int (3) 0), (.ref 59), (.bool true), (.int (181) 0), (.ref 60), (.none), (.ref 61), (.ref 62), (.ref 63), (.int (1782) 0), (.int (58) 0), (.str (Str.ofString "/claim/cut.py") 1783)]), #[]⟩
noncomputable def o65 (P : Params) : Obj := ⟨(.type "function"), none, .func ⟨Str.ofString "sorted_list_difference", Str.ofString "sorted_list_difference", a20.1, .stmts b20.1, c20.1, 3, [], (.none), (.none), (.none), (.str (Str.ofString "cpy313.unittest.util") 1769), none, (.ref 64), (.none), 0⟩, #[]⟩
noncomputable def o66 (P : Params) : Obj := ⟨(.type "tuple"), none, (.seq #[] 0), #[]⟩
noncomputable def o67 (P : Params) : Obj := ⟨(.none), none, (.fields #[]), #[]⟩
noncomputable def o68 (P : Params) : Obj := ⟨(.type "tuple"), none, (.seq #[(.str (Str.ofString "x") 1788), (.str (Str.ofString "y") 1789)] 0), #[]⟩
noncomputable def o69 (P : Params) : Obj := ⟨(.type "tuple"), none, (.seq #[] 0), #[]⟩
noncomputable def o70 (P : Params) : Obj := ⟨(.none), none, .func ⟨Str.ofString "three_way_cmp", Str.ofString "three_way_cmp", a21.1, .stmts b21.1, c21.1, 0, [], (.none), (.none), (.none), (.none), none, (.none), (.none), 0⟩, #[]⟩
noncomputable def o71 (P : Params) : Obj := ⟨(.type "code"), none, (.fields #[(.str (Str.ofString "three_way_cmp") 1785), (.str (Str.ofString "three_way_cmp") 1786), (.str (Str.ofString "/claim/cut.py") 1787), (.int (90) 0), (.int (2) 0), (.int (0) 0), (.int (0) 0), (.int (3) 0), (.ref 66), (.bool true), (.int (181) 0), (.ref 67), (.none), (.ref 68), (.ref 69), (.ref 70), (.int (1790) 0), (.int (90) 0), (.str (Str.ofString "/claim/cut.py") 1791)]), #[]⟩
noncomputable def o72 (P : Params) : Obj := ⟨(.type "function"), none, .func ⟨Str.ofString "three_way_cmp", Str.ofString "three_way_cmp", a21.1, .stmts b21.1, c21.1, 3, [], (.none), (.none), (.none), (.str (Str.ofString "cpy313.unittest.util") 1769), none, (.ref 71), (.none), 0⟩, #[]⟩
noncomputable def tSe22 (P : Params) : BT := (.node (boot_o_0 P) (.node (boot_o_1 P) (.node (o3v16 P) (.node (boot_o_7 P) (.node (o15 P) (.node (o31 P) (.node (o63 P) .nil .nil) .nil) (.node (o47 P) .nil .nil)) (.node (o23 P) (.node (o39 P) (.node (o71 P) .nil .nil) .nil) (.node (o55 P) .nil .nil))) (.node (o11 P) (.node (o19 P) (.node (o35 P) (.node (o67 P) .nil .nil) .nil) (.node (o51 P) .nil .nil)) (.node (o27 P) (.node (o43 P) .nil .nil) (.node (o59 P) .nil .nil)))) (.node (boot_o_5 P) (.node (boot_o_9 P) (.node (o17v16 P) (.node (o33 P) (.node (o65 P) .nil .nil) .nil) (.node (o49 P) .nil .nil)) (.node (o25v4 P) (.node (o41 P) .nil .nil) (.node (o57 P) .nil .nil))) (.node (o13 P) (.node (o21 P) (.node (o37 P) (.node (o69 P) .nil .nil) .nil) (.node (o53 P) .nil .nil)) (.node (o29 P) (.node (o45 P) .nil .nil) (.node (o61 P) .nil .nil))))) (.node (boot_o_2 P) (.node (boot_o_4 P) (.node (boot_o_8 P) (.node (o16v16 P) (.node (o32 P) (.node (o64 P) .nil .nil) .nil) (.node (o48 P) .nil .nil)) (.node (o24v7 P) (.node (o40 P) (.node (o72 P) .nil .nil) .nil) (.node (o56 P) .nil .nil))) (.node (o12v2 P) (.node (o20 P) (.node (o36 P) (.node (o68 P) .nil .nil) .nil) (.node (o52 P) .nil .nil)) (.node (o28v6 P) (.node (o44 P) .nil .nil) (.node (o60 P) .nil .nil)))) (.node (boot_o_6 P) (.node (boot_o_10 P) (.node (o18v17 P) (.node (o34 P) (.node (o66 P) .nil .nil) .nil) (.node (o50 P) .nil .nil)) (.node (o26 P) (.node (o42 P) .nil .nil) (.node (o58 P) .nil .nil))) (.node (o14 P) (.node (o22v6 P) (.node (o38 P) (.node (o70 P) .nil .nil) .nil) (.node (o54 P) .nil .nil)) (.node (o30 P) (.node (o46 P) .nil .nil) (.node (o62 P) .nil .nil))))))
noncomputable def Se22 (w : World) (os : OsState) : SharedT := ⟨tSe22 w.params, 73, {}, #[], {}, 1795, os⟩
noncomputable abbrev pSe22 : Pos := ⟨92, 0, 92, 8⟩
noncomputable def en55 (P : Params) : DictEntry := ent P (.str (Str.ofString "S_IFMT") 1801) (.ref 79)
noncomputable def en56 (P : Params) : DictEntry := ent P (.str (Str.ofString "S_IFDIR") 1803) (.int (16384) 1802)
noncomputable def en57 (P : Params) : DictEntry := ent P (.str (Str.ofString "S_IFCHR") 1805) (.int (8192) 1804)
noncomputable def en58 (P : Params) : DictEntry := ent P (.str (Str.ofString "S_IFBLK") 1807) (.int (24576) 1806)
noncomputable def en59 (P : Params) : DictEntry := ent P (.str (Str.ofString "S_IFREG") 1809) (.int (32768) 1808)
noncomputable def en60 (P : Params) : DictEntry := ent P (.str (Str.ofString "S_IFIFO") 1811) (.int (4096) 1810)
noncomputable def en61 (P : Params) : DictEntry := ent P (.str (Str.ofString "S_IFLNK") 1813) (.int (40960) 1812)
noncomputable def o3v17 (P : Params) : Obj := ⟨.type "dict", none, .dict #[en51 P, en1 P, en2 P, en3 P, en4 P, en5 P, en6 P, en7 P, en8 P, en9 P, en27 P, en29 P, en30 P, en31 P, en32 P, en33 P, en34 P, en35 P, en48 P, en49 P, en50 P, en52 P, en53 P, en54 P, en55 P, en56 P, en57 P, en58 P, en59 P, en60 P, en61 P] 33, #[]⟩
noncomputable def o12v3 (P : Params) : Obj := ⟨(.none), none, (.fields #[(.int (16) 0), (.int (0) 0), (.ref 36), (.int (18) 0), (.int (0) 0), (.ref 44), (.int (27) 0), (.int (0) 0), (.ref 57), (.int (58) 0), (.int (0) 0), (.ref 64), (.int (90) 0), (.int (0) 0), (.ref 71), (.int (93) 0), (.int (0) 0), (.ref 78)]), #[]⟩
noncomputable def o73 (P : Params) : Obj := ⟨(.type "tuple"), none, (.seq #[] 0), #[]⟩
noncomputable def o74 (P : Params) : Obj := ⟨(.none), none, (.fields #[]), #[]⟩
noncomputable def o75 (P : Params) : Obj := ⟨(.type "tuple"), none, (.seq #[(.str (Str.ofString "mode") 1798)] 0), #[]⟩
noncomputable def o76 (P : Params) : Obj := ⟨(.type "tuple"), none, (.seq #[] 0), #[]⟩
noncomputable def o77 (P : Params) : Obj := ⟨(.none), none, .func ⟨Str.ofString "S_IFMT", Str.ofString "S_IFMT", a23.1, .stmts b23.1, c23.1, 0, [], (.none), (.none), (.none), (.none), none, (.none), (.none), 0⟩, #[]⟩
noncomputable def o78 (P : Params) : Obj := ⟨(.type "code"), none, (.fields #[(.str (Str.ofString "S_IFMT") 1795), (.str (Str.ofString "S_IFMT") 1796), (.str (Str.ofString "/claim/cut.py") 1797), (.int (93) 0), (.int (1) 0), (.int (0) 0), (.int (0) 0), (.int (3) 0), (.ref 73), (.bool true), (.int (181) 0), (.ref 74), (.none), (.ref 75), (.ref 76), (.ref 77), (.int (1799) 0), (.int (93) 0), (.str (Str.ofString "/claim/cut.py") 1800)]), #[]⟩
noncomputable def o79 (P : Params) : Obj := ⟨(.type "function"), none, .func ⟨Str.ofString "S_IFMT", Str.ofString "S_IFMT", a23.1, .stmts b23.1, c23.1, 3, [], (.none), (.none), (.none), (.str (Str.ofString "cpy313.stat") 1793), none, (.ref 78), (.none), 0⟩, #[]⟩
noncomputable def tSe29 (P : Params) : BT := (.node (boot_o_0 P) (.node (boot_o_1 P) (.node (o3v17 P) (.node (boot_o_7 P) (.node (o15 P) (.node (o31 P) (.node (o63 P) .nil .nil) .nil) (.node (o47 P) (.node (o79 P) .nil .nil) .nil)) (.node (o23 P) (.node (o39 P) (.node (o71 P) .nil .nil) .nil) (.node (o55 P) .nil .nil))) (.node (o11 P) (.node (o19 P) (.node (o35 P) (.node (o67 P) .nil .nil) .nil) (.node (o51 P) .nil .nil)) (.node (o27 P) (.node (o43 P) (.node (o75 P) .nil .nil) .nil) (.node (o59 P) .nil .nil)))) (.node (boot_o_5 P) (.node (boot_o_9 P) (.node (o17v16 P) (.node (o33 P) (.node (o65 P) .nil .nil) .nil) (.node (o49 P) .nil .nil)) (.node (o25v4 P) (.node (o41 P) (.node (o73 P) .nil .nil) .nil) (.node (o57 P) .nil .nil))) (.node (o13 P) (.node (o21 P) (.node (o37 P) (.node (o69 P) .nil .nil) .nil) (.node (o53 P) .nil .nil)) (.node (o29 P) (.node (o45 P) (.node (o77 P) .nil .nil) .nil) (.node (o61 P) .nil .nil))))) (.node (boot_o_2 P) (.node (boot_o_4 P) (.node (boot_o_8 P) (.node (o16v16 P) (.node (o32 P) (.node (o64 P) .nil .nil) .nil) (.node (o48 P) .nil .nil)) (.node (o24v7 P) (.node (o40 P) (.node (o72 P) .nil .nil) .nil) (.node (o56 P) .nil .nil))) (.node (o12v3 P) (.node (o20 P) (.node (o36 P) (.node (o68 P) .nil .nil) .nil) (.node (o52 P) .nil .nil)) (.node (o28v6 P) (.node (o44 P) (.node (o76 P) .nil .nil) .nil) (.node (o60 P) .nil .nil)))) (.node (boot_o_6 P) (.node (boot_o_10 P) (.node (o18v17 P) (.node (o34 P) (.node (o66 P) .nil .nil) .nil) (.node (o50 P) .nil .nil)) (.node (o26 P) (.node (o42 P) (.node (o74 P) .nil .nil) .nil) (.node (o58 P) .nil .nil))) (.node (o14 P) (.node (o22v6 P) (.node (o38 P) (.node (o70 P) .nil .nil) .nil) (.node (o54 P) .nil .nil)) (.node (o30 P) (.node (o46 P) (.node (o78 P) .nil .nil) .nil) (.node (o62 P) .nil .nil))))))
noncomputable def Se29 (w : World) (os : OsState) : SharedT := ⟨tSe29 w.params, 80, {}, #[], {}, 1814, os⟩
noncomputable abbrev pSe29 : Pos := ⟨100, 0, 100, 7⟩
noncomputable def en62 (P : Params) : DictEntry := ent P (.str (Str.ofString "S_IFSOCK") 1815) (.int (49152) 1814)
noncomputable def en63 (P : Params) : DictEntry := ent P (.str (Str.ofString "S_ISUID") 1817) (.int (2048) 1816)
noncomputable def en64 (P : Params) : DictEntry := ent P (.str (Str.ofString "S_ISGID") 1819) (.int (1024) 1818)
noncomputable def en65 (P : Params) : DictEntry := ent P (.str (Str.ofString "S_ISVTX") 1821) (.int (512) 1820)
noncomputable def en66 (P : Params) : DictEntry := ent P (.str (Str.ofString "S_IRUSR") 1823) (.int (256) 1822)
noncomputable def en67 (P : Params) : DictEntry := ent P (.str (Str.ofString "S_IWUSR") 1825) (.int (128) 1824)
noncomputable def en68 (P : Params) : DictEntry := ent P (.str (Str.ofString "S_IXUSR") 1827) (.int (64) 1826)
noncomputable def en69 (P : Params) : DictEntry := ent P (.str (Str.ofString "S_IRGRP") 1829) (.int (32) 1828)
noncomputable def en70 (P : Params) : DictEntry := ent P (.str (Str.ofString "S_IWGRP") 1831) (.int (16) 1830)
noncomputable def en71 (P : Params) : DictEntry := ent P (.str (Str.ofString "S_IXGRP") 1833) (.int (8) 1832)
noncomputable def en72 (P : Params) : DictEntry := ent P (.str (Str.ofString "S_IROTH") 1835) (.int (4) 1834)
noncomputable def en73 (P : Params) : DictEntry := ent P (.str (Str.ofString "S_IWOTH") 1837) (.int (2) 1836)
noncomputable def en74 (P : Params) : DictEntry := ent P (.str (Str.ofString "S_IXOTH") 1839) (.int (1) 1838)
noncomputable def o3v18 (P : Params) : Obj := ⟨.type "dict", none, .dict #[en51 P, en1 P, en2 P, en3 P, en4 P, en5 P, en6 P, en7 P, en8 P, en9 P, en27 P, en29 P, en30 P, en31 P, en32 P, en33 P, en34 P, en35 P, en48 P, en49 P, en50 P, en52 P, en53 P, en54 P, en55 P, en56 P, en57 P, en58 P, en59 P, en60 P, en61 P, en62 P, en63 P, en64 P, en65 P, en66 P, en67 P, en68 P, en69 P, en70 P, en71 P, en72 P, en73 P, en74 P] 46, #[]⟩
noncomputable def tSe42 (P : Params) : BT := (.node (boot_o_0 P) (.node (boot_o_1 P) (.node (o3v18 P) (.node (boot_o_7 P) (.node (o15 P) (.node (o31 P) (.node (o63 P) .nil .nil) .nil) (.node (o47 P) (.node (o79 P) .nil .nil) .nil)) (.node (o23 P) (.node (o39 P) (.node (o71 P) .nil .nil) .nil) (.node (o55 P) .nil .nil))) (.node (o11 P) (.node (o19 P) (.node (o35 P) (.node (o67 P) .nil .nil) .nil) (.node (o51 P) .nil .nil)) (.node (o27 P) (.node (o43 P) (.node (o75 P) .nil .nil) .nil) (.node (o59 P) .nil .nil)))) (.node (boot_o_5 P) (.node (boot_o_9 P) (.node (o17v16 P) (.node (o33 P) (.node (o65 P) .nil .nil) .nil) (.node (o49 P) .nil .nil)) (.node (o25v4 P) (.node (o41 P) (.node (o73 P) .nil .nil) .nil) (.node (o57 P) .nil .nil))) (.node (o13 P) (.node (o21 P) (.node (o37 P) (.node (o69 P) .nil .nil) .nil) (.node (o53 P) .nil .nil)) (.node (o29 P) (.node (o45 P) (.node (o77 P) .nil .nil) .nil) (.node (o61 P) .nil .nil))))) (.node (boot_o_2 P) (.node (boot_o_4 P) (.node (boot_o_8 P) (.node (o16v16 P) (.node (o32 P) (.node (o64 P) .nil .nil) .nil) (.node (o48 P) .nil .nil)) (.node (o24v7 P) (.node (o40 P) (.node (o72 P) .nil .nil) .nil) (.node (o56 P) .nil .nil))) (.node (o12v3 P) (.node (o20 P) (.node (o36 P) (.node (o68 P) .nil .nil) .nil) (.node (o52 P) .nil .nil)) (.node (o28v6 P) (.node (o44 P) (.node (o76 P) .nil .nil) .nil) (.node (o60 P) .nil .nil)))) (.node (boot_o_6 P) (.node (boot_o_10 P) (.node (o18v17 P) (.node (o34 P) (.node (o66 P) .nil .nil) .nil) (.node (o50 P) .nil .nil)) (.node (o26 P) (.node (o42 P) (.node (o74 P) .nil .nil) .nil) (.node (o58 P) .nil .nil))) (.node (o14 P) (.node (o22v6 P) (.node (o38 P) (.node (o70 P) .nil .nil) .nil) (.node (o54 P) .nil .nil)) (.node (o30 P) (.node (o46 P) (.node (o78 P) .nil .nil) .nil) (.node (o62 P) .nil .nil))))))
noncomputable def Se42 (w : World) (os : OsState) : SharedT := ⟨tSe42 w.params, 80, {}, #[], {}, 1840, os⟩
noncomputable abbrev pSe42 : Pos := ⟨113, 0, 113, 7⟩
noncomputable def en75 (P : Params) : DictEntry := ent P (.str (Str.ofString "_filemode_table") 1865) (.ref 112)
noncomputable def o3v19 (P : Params) : Obj := ⟨.type "dict", none, .dict #[en51 P, en1 P, en2 P, en3 P, en4 P, en5 P, en6 P, en7 P, en8 P, en9 P, en27 P, en29 P, en30 P, en31 P, en32 P, en33 P, en34 P, en35 P, en48 P, en49 P, en50 P, en52 P, en53 P, en54 P, en55 P, en56 P, en57 P, en58 P, en59 P, en60 P, en61 P, en62 P, en63 P, en64 P, en65 P, en66 P, en67 P, en68 P, en69 P, en70 P, en71 P, en72 P, en73 P, en74 P, en75 P] 47, #[]⟩
noncomputable def o80 (P : Params) : Obj := ⟨(.type "tuple"), none, (.seq #[(.int (40960) 1812), (.str (Str.ofString "l") 1840)] 0), #[]⟩
noncomputable def o81 (P : Params) : Obj := ⟨(.type "tuple"), none, (.seq #[(.int (49152) 1814), (.str (Str.ofString "s") 1841)] 0), #[]⟩
noncomputable def o82 (P : Params) : Obj := ⟨(.type "tuple"), none, (.seq #[(.int (32768) 1808), (.str (Str.ofString "-") 1842)] 0), #[]⟩
noncomputable def o83 (P : Params) : Obj := ⟨(.type "tuple"), none, (.seq #[(.int (24576) 1806), (.str (Str.ofString "b") 1843)] 0), #[]⟩
noncomputable def o84 (P : Params) : Obj := ⟨(.type "tuple"), none, (.seq #[(.int (16384) 1802), (.str (Str.ofString "d") 1844)] 0), #[]⟩
noncomputable def o85 (P : Params) : Obj := ⟨(.type "tuple"), none, (.seq #[(.int (8192) 1804), (.str (Str.ofString "c") 1845)] 0), #[]⟩
noncomputable def o86 (P : Params) : Obj := ⟨(.type "tuple"), none, (.seq #[(.int (4096) 1810), (.str (Str.ofString "p") 1846)] 0), #[]⟩
noncomputable def o87 (P : Params) : Obj := ⟨(.type "tuple"), none, (.seq #[(.ref 80), (.ref 81), (.ref 82), (.ref 83), (.ref 84), (.ref 85), (.ref 86)] 0), #[]⟩
noncomputable def o88 (P : Params) : Obj := ⟨(.type "tuple"), none, (.seq #[(.int (256) 1822), (.str (Str.ofString "r") 1847)] 0), #[]⟩
noncomputable def o89 (P : Params) : Obj := ⟨(.type "tuple"), none, (.seq #[(.ref 88)] 0), #[]⟩
noncomputable def o90 (P : Params) : Obj := ⟨(.type "tuple"), none, (.seq #[(.int (128) 1824), (.str (Str.ofString "w") 1848)] 0), #[]⟩
noncomputable def o91 (P : Params) : Obj := ⟨(.type "tuple"), none, (.seq #[(.ref 90)] 0), #[]⟩
noncomputable def o92 (P : Params) : Obj := ⟨(.type "tuple"), none, (.seq #[(.int (2112) 1849), (.str (Str.ofString "s") 1850)] 0), #[]⟩
noncomputable def o93 (P : Params) : Obj := ⟨(.type "tuple"), none, (.seq #[(.int (2048) 1816), (.str (Str.ofString "S") 1851)] 0), #[]⟩
noncomputable def o94 (P : Params) : Obj := ⟨(.type "tuple"), none, (.seq #[(.int (64) 1826), (.str (Str.ofString "x") 1852)] 0), #[]⟩
noncomputable def o95 (P : Params) : Obj := ⟨(.type "tuple"), none, (.seq #[(.ref 92), (.ref 93), (.ref 94)] 0), #[]⟩
noncomputable def o96 (P : Params) : Obj := ⟨(.type "tuple"), none, (.seq #[(.int (32) 1828), (.str (Str.ofString "r") 1853)] 0), #[]⟩
noncomputable def o97 (P : Params) : Obj := ⟨(.type "tuple"), none, (.seq #[(.ref 96)] 0), #[]⟩
noncomputable def o98 (P : Params) : Obj := ⟨(.type "tuple"), none, (.seq #[(.int (16) 1830), (.str (Str.ofString "w") 1854)] 0), #[]⟩
noncomputable def o99 (P : Params) : Obj := ⟨(.type "tuple"), none, (.seq #[(.ref 98)] 0), #[]⟩
noncomputable def o100 (P : Params) : Obj := ⟨(.type "tuple"), none, (.seq #[(.int (1032) 1855), (.str (Str.ofString "s") 1856)] 0), #[]⟩
noncomputable def o101 (P : Params) : Obj := ⟨(.type "tuple"), none, (.seq #[(.int (1024) 1818), (.str (Str.ofString "S") 1857)] 0), #[]⟩
noncomputable def o102 (P : Params) : Obj := ⟨(.type "tuple"), none, (.seq #[(.int (8) 1832), (.str (Str.ofString "x") 1858)] 0), #[]⟩
noncomputable def o103 (P : Params) : Obj := ⟨(.type "tuple"), none, (.seq #[(.ref 100), (.ref 101), (.ref 102)] 0), #[]⟩
noncomputable def o104 (P : Params) : Obj := ⟨(.type "tuple"), none, (.seq #[(.int (4) 1834), (.str (Str.ofString "r") 1859)] 0), #[]⟩
noncomputable def o105 (P : Params) : Obj := ⟨(.type "tuple"), none, (.seq #[(.ref 104)] 0), #[]⟩
noncomputable def o106 (P : Params) : Obj := ⟨(.type "tuple"), none, (.seq #[(.int (2) 1836), (.str (Str.ofString "w") 1860)] 0), #[]⟩
noncomputable def o107 (P : Params) : Obj := ⟨(.type "tuple"), none, (.seq #[(.ref 106)] 0), #[]⟩
noncomputable def o108 (P : Params) : Obj := ⟨(.type "tuple"), none, (.seq #[(.int (513) 1861), (.str (Str.ofString "t") 1862)] 0), #[]⟩
noncomputable def o109 (P : Params) : Obj := ⟨(.type "tuple"), none, (.seq #[(.int (512) 1820), (.str (Str.ofString "T") 1863)] 0), #[]⟩
noncomputable def o110 (P : Params) : Obj := ⟨(.type "tuple"), none, (.seq #[(.int (1) 1838), (.str (Str.ofString "x") 1864)] 0), #[]⟩
noncomputable def o111 (P : Params) : Obj := ⟨(.type "tuple"), none, (.seq #[(.ref 108), (.ref 109), (.ref 110)] 0), #[]⟩
noncomputable def o112 (P : Params) : Obj := ⟨(.type "tuple"), none, (.seq #[(.ref 87), (.ref 89), (.ref 91), (.ref 95), (.ref 97), (.ref 99), (.ref 103), (.ref 105), (.ref 107), (.ref 111)] 0), #[]⟩
noncomputable def tSe43 (P : Params) : BT := (.node (boot_o_0 P) (.node (boot_o_1 P) (.node (o3v19 P) (.node (boot_o_7 P) (.node (o15 P) (.node (o31 P) (.node (o63 P) .nil .nil) (.node (o95 P) .nil .nil)) (.node (o47 P) (.node (o79 P) .nil .nil) (.node (o111 P) .nil .nil))) (.node (o23 P) (.node (o39 P) (.node (o71 P) .nil .nil) (.node (o103 P) .nil .nil)) (.node (o55 P) (.node (o87 P) .nil .nil) .nil))) (.node (o11 P) (.node (o19 P) (.node (o35 P) (.node (o67 P) .nil .nil) (.node (o99 P) .nil .nil)) (.node (o51 P) (.node (o83 P) .nil .nil) .nil)) (.node (o27 P) (.node (o43 P) (.node (o75 P) .nil .nil) (.node (o107 P) .nil .nil)) (.node (o59 P) (.node (o91 P) .nil .nil) .nil)))) (.node (boot_o_5 P) (.node (boot_o_9 P) (.node (o17v16 P) (.node (o33 P) (.node (o65 P) .nil .nil) (.node (o97 P) .nil .nil)) (.node (o49 P) (.node (o81 P) .nil .nil) .nil)) (.node (o25v4 P) (.node (o41 P) (.node (o73 P) .nil .nil) (.node (o105 P) .nil .nil)) (.node (o57 P) (.node (o89 P) .nil .nil) .nil))) (.node (o13 P) (.node (o21 P) (.node (o37 P) (.node (o69 P) .nil .nil) (.node (o101 P) .nil .nil)) (.node (o53 P) (.node (o85 P) .nil .nil) .nil)) (.node (o29 P) (.node (o45 P) (.node (o77 P) .nil .nil) (.node (o109 P) .nil .nil)) (.node (o61 P) (.node (o93 P) .nil .nil) .nil))))) (.node (boot_o_2 P) (.node (boot_o_4 P) (.node (boot_o_8 P) (.node (o16v16 P) (.node (o32 P) (.node (o64 P) .nil .nil) (.node (o96 P) .nil .nil)) (.node (o48 P) (.node (o80 P) .nil .nil) (.node (o112 P) .nil .nil))) (.node (o24v7 P) (.node (o40 P) (.node (o72 P) .nil .nil) (.node (o104 P) .nil .nil)) (.node (o56 P) (.node (o88 P) .nil .nil) .nil))) (.node (o12v3 P) (.node (o20 P) (.node (o36 P) (.node (o68 P) .nil .nil) (.node (o100 P) .nil .nil)) (.node (o52 P) (.node (o84 P) .nil .nil) .nil)) (.node (o28v6 P) (.node (o44 P) (.node (o76 P) .nil .nil) (.node (o108 P) .nil .nil)) (.node (o60 P) (.node (o92 P) .nil .nil) .nil)))) (.node (boot_o_6 P) (.node (boot_o_10 P) (.node (o18v17 P) (.node (o34 P) (.node (o66 P) .nil .nil) (.node (o98 P) .nil .nil)) (.node (o50 P) (.node (o82 P) .nil .nil) .nil)) (.node (o26 P) (.node (o42 P) (.node (o74 P) .nil .nil) (.node (o106 P) .nil .nil)) (.node (o58 P) (.node (o90 P) .nil .nil) .nil))) (.node (o14 P) (.node (o22v6 P) (.node (o38 P) (.node (o70 P) .nil .nil) (.node (o102 P) .nil .nil)) (.node (o54 P) (.node (o86 P) .nil .nil) .nil)) (.node (o30 P) (.node (o46 P) (.node (o78 P) .nil .nil) (.node (o110 P) .nil .nil)) (.node (o62 P) (.node (o94 P) .nil .nil) .nil))))))
noncomputable def Se43 (w : World) (os : OsState) : SharedT := ⟨tSe43 w.params, 113, {}, #[], {}, 1866, os⟩
noncomputable abbrev pSe43 : Pos := ⟨114, 0, 114, 15⟩
noncomputable def en76 (P : Params) : DictEntry := ent P (.str (Str.ofString "__name__") 165) (.str (Str.ofString "law_oc0137_01") 1878)
noncomputable def en77 (P : Params) : DictEntry := ent P (.str (Str.ofString "filemode") 1877) (.ref 119)
noncomputable def o3v20 (P : Params) : Obj := ⟨.type "dict", none, .dict #[en76 P, en1 P, en2 P, en3 P, en4 P, en5 P, en6 P, en7 P, en8 P, en9 P, en27 P, en29 P, en30 P, en31 P, en32 P, en33 P, en34 P, en35 P, en48 P, en49 P, en50 P, en52 P, en53 P, en54 P, en55 P, en56 P, en57 P, en58 P, en59 P, en60 P, en61 P, en62 P, en63 P, en64 P, en65 P, en66 P, en67 P, en68 P, en69 P, en70 P, en71 P, en72 P, en73 P, en74 P, en75 P, en77 P] 48, #[]⟩
noncomputable def o12v4 (P : Params) : Obj := ⟨(.none), none, (.fields #[(.int (16) 0), (.int (0) 0), (.ref 36), (.int (18) 0), (.int (0) 0), (.ref 44), (.int (27) 0), (.int (0) 0), (.ref 57), (.int (58) 0), (.int (0) 0), (.ref 64), (.int (90) 0), (.int (0) 0), (.ref 71), (.int (93) 0), (.int (0) 0), (.ref 78), (.int (115) 0), (.int (0) 0), (.ref 118)]), #[]⟩
noncomputable def o113 (P : Params) : Obj := ⟨(.type "tuple"), none, (.seq #[] 0), #[]⟩
noncomputable def o114 (P : Params) : Obj := ⟨(.none), none, (.fields #[]), #[]⟩
noncomputable def o115 (P : Params) : Obj := ⟨(.type "tuple"), none, (.seq #[(.str (Str.ofString "mode") 1869), (.str (Str.ofString "perm") 1870), (.str (Str.ofString "index") 1871), (.str (Str.ofString "table") 1872), (.str (Str.ofString "bit") 1873), (.str (Str.ofString "char") 1874)] 0), #[]⟩
noncomputable def o116 (P : Params) : Obj := ⟨(.type "tuple"), none, (.seq #[] 0), #[]⟩
noncomputable def o117 (P : Params) : Obj := ⟨(.none), none, .func ⟨Str.ofString "filemode", Str.ofString "filemode", a44.1, .stmts b44.1, c44.1, 0, [], (.none), (.none), (.none), (.none), none, (.none), (.none), 0⟩, #[]⟩
noncomputable def o118 (P : Params) : Obj := ⟨(.type "code"), none, (.fields #[(.str (Str.ofString "filemode") 1866), (.str (Str.ofString "filemode") 1867), (.str (Str.ofString "/claim/cut.py") 1868), (.int (115) 0), (.int (1) 0), (.int (0) 0), (.int (0) 0), (.int (3) 0), (.ref 113), (.bool true), (.int (181) 0), (.ref 114), (.none), (.ref 115), (.ref 116), (.ref 117), (.int (1875) 0), (.int (115) 0), (.str (Str.ofString "/claim/cut.py") 1876)]), #[]⟩
noncomputable def o119 (P : Params) : Obj := ⟨(.type "function"), none, .func ⟨Str.ofString "filemode", Str.ofString "filemode", a44.1, .stmts b44.1, c44.1, 3, [], (.none), (.none), (.none), (.str (Str.ofString "cpy313.stat") 1793), none, (.ref 118), (.none), 0⟩, #[]⟩
noncomputable def tSe45 (P : Params) : BT := (.node (boot_o_0 P) (.node (boot_o_1 P) (.node (o3v20 P) (.node (boot_o_7 P) (.node (o15 P) (.node (o31 P) (.node (o63 P) .nil .nil) (.node (o95 P) .nil .nil)) (.node (o47 P) (.node (o79 P) .nil .nil) (.node (o111 P) .nil .nil))) (.node (o23 P) (.node (o39 P) (.node (o71 P) .nil .nil) (.node (o103 P) .nil .nil)) (.node (o55 P) (.node (o87 P) .nil .nil) (.node (o119 P) .nil .nil)))) (.node (o11 P) (.node (o19 P) (.node (o35 P) (.node (o67 P) .nil .nil) (.node (o99 P) .nil .nil)) (.node (o51 P) (.node (o83 P) .nil .nil) (.node (o115 P) .nil .nil))) (.node (o27 P) (.node (o43 P) (.node (o75 P) .nil .nil) (.node (o107 P) .nil .nil)) (.node (o59 P) (.node (o91 P) .nil .nil) .nil)))) (.node (boot_o_5 P) (.node (boot_o_9 P) (.node (o17v16 P) (.node (o33 P) (.node (o65 P) .nil .nil) (.node (o97 P) .nil .nil)) (.node (o49 P) (.node (o81 P) .nil .nil) (.node (o113 P) .nil .nil))) (.node (o25v4 P) (.node (o41 P) (.node (o73 P) .nil .nil) (.node (o105 P) .nil .nil)) (.node (o57 P) (.node (o89 P) .nil .nil) .nil))) (.node (o13 P) (.node (o21 P) (.node (o37 P) (.node (o69 P) .nil .nil) (.node (o101 P) .nil .nil)) (.node (o53 P) (.node (o85 P) .nil .nil) (.node (o117 P) .nil .nil))) (.node (o29 P) (.node (o45 P) (.node (o77 P) .nil .nil) (.node (o109 P) .nil .nil)) (.node (o61 P) (.node (o93 P) .nil .nil) .nil))))) (.node (boot_o_2 P) (.node (boot_o_4 P) (.node (boot_o_8 P) (.node (o16v16 P) (.node (o32 P) (.node (o64 P) .nil .nil) (.node (o96 P) .nil .nil)) (.node (o48 P) (.node (o80 P) .nil .nil) (.node (o112 P) .nil .nil))) (.node (o24v7 P) (.node (o40 P) (.node (o72 P) .nil .nil) (.node (o104 P) .nil .nil)) (.node (o56 P) (.node (o88 P) .nil .nil) .nil))) (.node (o12v4 P) (.node (o20 P) (.node (o36 P) (.node (o68 P) .nil .nil) (.node (o100 P) .nil .nil)) (.node (o52 P) (.node (o84 P) .nil .nil) (.node (o116 P) .nil .nil))) (.node (o28v6 P) (.node (o44 P) (.node (o76 P) .nil .nil) (.node (o108 P) .nil .nil)) (.node (o60 P) (.node (o92 P) .nil .nil) .nil)))) (.node (boot_o_6 P) (.node (boot_o_10 P) (.node (o18v17 P) (.node (o34 P) (.node (o66 P) .nil .nil) (.node (o98 P) .nil .nil)) (.node (o50 P) (.node (o82 P) .nil .nil) (.node (o114 P) .nil .nil))) (.node (o26 P) (.node (o42 P) (.node (o74 P) .nil .nil) (.node (o106 P) .nil .nil)) (.node (o58 P) (.node (o90 P) .nil .nil) .nil))) (.node (o14 P) (.node (o22v6 P) (.node (o38 P) (.node (o70 P) .nil .nil) (.node (o102 P) .nil .nil)) (.node (o54 P) (.node (o86 P) .nil .nil) (.node (o118 P) .nil .nil))) (.node (o30 P) (.node (o46 P) (.node (o78 P) .nil .nil) (.node (o110 P) .nil .nil)) (.node (o62 P) (.node (o94 P) .nil .nil) .nil))))))
noncomputable def Se45 (w : World) (os : OsState) : SharedT := ⟨tSe45 w.params, 120, {}, #[], {}, 1880, os⟩
noncomputable abbrev pSe45 : Pos := ⟨132, 0, 132, 8⟩
noncomputable def en78 (P : Params) : DictEntry := ent P (.str (Str.ofString "_law_place") 1890) (.ref 126)
noncomputable def en79 (P : Params) : DictEntry := ent P (.str (Str.ofString "_law_signs") 1900) (.ref 133)
noncomputable def en80 (P : Params) : DictEntry := ent P (.str (Str.ofString "_law_word") 1907) (.ref 140)
noncomputable def en81 (P : Params) : DictEntry := ent P (.str (Str.ofString "_law_once") 1916) (.ref 147)
noncomputable def en82 (P : Params) : DictEntry := ent P (.str (Str.ofString "_law_order") 1926) (.ref 154)
noncomputable def en83 (P : Params) : DictEntry := ent P (.str (Str.ofString "law") 1932) (.ref 159)
noncomputable def o3v21 (P : Params) : Obj := ⟨.type "dict", none, .dict #[en76 P, en1 P, en2 P, en3 P, en4 P, en5 P, en6 P, en7 P, en8 P, en9 P, en27 P, en29 P, en30 P, en31 P, en32 P, en33 P, en34 P, en35 P, en48 P, en49 P, en50 P, en52 P, en53 P, en54 P, en55 P, en56 P, en57 P, en58 P, en59 P, en60 P, en61 P, en62 P, en63 P, en64 P, en65 P, en66 P, en67 P, en68 P, en69 P, en70 P, en71 P, en72 P, en73 P, en74 P, en75 P, en77 P, en78 P, en79 P, en80 P, en81 P, en82 P, en83 P] 54, #[]⟩
noncomputable def o12v5 (P : Params) : Obj := ⟨(.none), none, (.fields #[(.int (16) 0), (.int (0) 0), (.ref 36), (.int (18) 0), (.int (0) 0), (.ref 44), (.int (27) 0), (.int (0) 0), (.ref 57), (.int (58) 0), (.int (0) 0), (.ref 64), (.int (90) 0), (.int (0) 0), (.ref 71), (.int (93) 0), (.int (0) 0), (.ref 78), (.int (115) 0), (.int (0) 0), (.ref 118), (.int (133) 0), (.int (0) 0), (.ref 125), (.int (140) 0), (.int (0) 0), (.ref 132), (.int (147) 0), (.int (0) 0), (.ref 139), (.int (149) 0), (.int (0) 0), (.ref 146), (.int (155) 0), (.int (0) 0), (.ref 153), (.int (162) 0), (.int (0) 0), (.ref 158)]), #[]⟩
noncomputable def o120 (P : Params) : Obj := ⟨(.type "tuple"), none, (.seq #[] 0), #[]⟩
noncomputable def o121 (P : Params) : Obj := ⟨(.none), none, (.fields #[]), #[]⟩
noncomputable def o122 (P : Params) : Obj := ⟨(.type "tuple"), none, (.seq #[(.str (Str.ofString "m") 1883), (.str (Str.ofString "place") 1884), (.str (Str.ofString "k") 1885), (.str (Str.ofString "figure") 1886), (.str (Str.ofString "above") 1887)] 0), #[]⟩
noncomputable def o123 (P : Params) : Obj := ⟨(.type "tuple"), none, (.seq #[] 0), #[]⟩
noncomputable def o124 (P : Params) : Obj := ⟨(.none), none, .func ⟨Str.ofString "_law_place", Str.ofString "_law_place", a46.1, .stmts b46.1, c46.1, 0, [], (.none), (.none), (.none), (.none), none, (.none), (.none), 0⟩, #[]⟩
noncomputable def o125 (P : Params) : Obj := ⟨(.type "code"), none, (.fields #[(.str (Str.ofString "_law_place") 1880), (.str (Str.ofString "_law_place") 1881), (.str (Str.ofString "/claim/cut.py") 1882), (.int (133) 0), (.int (1) 0), (.int (0) 0), (.int (0) 0), (.int (3) 0), (.ref 120), (.bool true), (.int (181) 0), (.ref 121), (.none), (.ref 122), (.ref 123), (.ref 124), (.int (1888) 0), (.int (133) 0), (.str (Str.ofString "/claim/cut.py") 1889)]), #[]⟩
noncomputable def o126 (P : Params) : Obj := ⟨(.type "function"), none, .func ⟨Str.ofString "_law_place", Str.ofString "_law_place", a46.1, .stmts b46.1, c46.1, 3, [], (.none), (.none), (.none), (.str (Str.ofString "law_oc0137_01") 1878), none, (.ref 125), (.none), 0⟩, #[]⟩
noncomputable def o127 (P : Params) : Obj := ⟨(.type "tuple"), none, (.seq #[] 0), #[]⟩
noncomputable def o128 (P : Params) : Obj := ⟨(.none), none, (.fields #[]), #[]⟩
noncomputable def o129 (P : Params) : Obj := ⟨(.type "tuple"), none, (.seq #[(.str (Str.ofString "place") 1894), (.str (Str.ofString "signs") 1895), (.str (Str.ofString "rest") 1896), (.str (Str.ofString "row") 1897)] 0), #[]⟩
noncomputable def o130 (P : Params) : Obj := ⟨(.type "tuple"), none, (.seq #[] 0), #[]⟩
noncomputable def o131 (P : Params) : Obj := ⟨(.none), none, .func ⟨Str.ofString "_law_signs", Str.ofString "_law_signs", a47.1, .stmts b47.1, c47.1, 0, [], (.none), (.none), (.none), (.none), none, (.none), (.none), 0⟩, #[]⟩
noncomputable def o132 (P : Params) : Obj := ⟨(.type "code"), none, (.fields #[(.str (Str.ofString "_law_signs") 1891), (.str (Str.ofString "_law_signs") 1892), (.str (Str.ofString "/claim/cut.py") 1893), (.int (140) 0), (.int (1) 0), (.int (0) 0), (.int (0) 0), (.int (3) 0), (.ref 127), (.bool true), (.int (181) 0), (.ref 128), (.none), (.ref 129), (.ref 130), (.ref 131), (.int (1898) 0), (.int (140) 0), (.str (Str.ofString "/claim/cut.py") 1899)]), #[]⟩
noncomputable def o133 (P : Params) : Obj := ⟨(.type "function"), none, .func ⟨Str.ofString "_law_signs", Str.ofString "_law_signs", a47.1, .stmts b47.1, c47.1, 3, [], (.none), (.none), (.none), (.str (Str.ofString "law_oc0137_01") 1878), none, (.ref 132), (.none), 0⟩, #[]⟩
noncomputable def o134 (P : Params) : Obj := ⟨(.type "tuple"), none, (.seq #[] 0), #[]⟩
noncomputable def o135 (P : Params) : Obj := ⟨(.none), none, (.fields #[]), #[]⟩
noncomputable def o136 (P : Params) : Obj := ⟨(.type "tuple"), none, (.seq #[(.str (Str.ofString "place") 1904)] 0), #[]⟩
noncomputable def o137 (P : Params) : Obj := ⟨(.type "tuple"), none, (.seq #[] 0), #[]⟩
noncomputable def o138 (P : Params) : Obj := ⟨(.none), none, .func ⟨Str.ofString "_law_word", Str.ofString "_law_word", a48.1, .stmts b48.1, c48.1, 0, [], (.none), (.none), (.none), (.none), none, (.none), (.none), 0⟩, #[]⟩
noncomputable def o139 (P : Params) : Obj := ⟨(.type "code"), none, (.fields #[(.str (Str.ofString "_law_word") 1901), (.str (Str.ofString "_law_word") 1902), (.str (Str.ofString "/claim/cut.py") 1903), (.int (147) 0), (.int (1) 0), (.int (0) 0), (.int (0) 0), (.int (3) 0), (.ref 134), (.bool true), (.int (181) 0), (.ref 135), (.none), (.ref 136), (.ref 137), (.ref 138), (.int (1905) 0), (.int (147) 0), (.str (Str.ofString "/claim/cut.py") 1906)]), #[]⟩
noncomputable def o140 (P : Params) : Obj := ⟨(.type "function"), none, .func ⟨Str.ofString "_law_word", Str.ofString "_law_word", a48.1, .stmts b48.1, c48.1, 3, [], (.none), (.none), (.none), (.str (Str.ofString "law_oc0137_01") 1878), none, (.ref 139), (.none), 0⟩, #[]⟩
noncomputable def o141 (P : Params) : Obj := ⟨(.type "tuple"), none, (.seq #[] 0), #[]⟩
noncomputable def o142 (P : Params) : Obj := ⟨(.none), none, (.fields #[]), #[]⟩
noncomputable def o143 (P : Params) : Obj := ⟨(.type "tuple"), none, (.seq #[(.str (Str.ofString "row") 1911), (.str (Str.ofString "kept") 1912), (.str (Str.ofString "x") 1913)] 0), #[]⟩
noncomputable def o144 (P : Params) : Obj := ⟨(.type "tuple"), none, (.seq #[] 0), #[]⟩
noncomputable def o145 (P : Params) : Obj := ⟨(.none), none, .func ⟨Str.ofString "_law_once", Str.ofString "_law_once", a49.1, .stmts b49.1, c49.1, 0, [], (.none), (.none), (.none), (.none), none, (.none), (.none), 0⟩, #[]⟩
noncomputable def o146 (P : Params) : Obj := ⟨(.type "code"), none, (.fields #[(.str (Str.ofString "_law_once") 1908), (.str (Str.ofString "_law_once") 1909), (.str (Str.ofString "/claim/cut.py") 1910), (.int (149) 0), (.int (1) 0), (.int (0) 0), (.int (0) 0), (.int (3) 0), (.ref 141), (.bool true), (.int (181) 0), (.ref 142), (.none), (.ref 143), (.ref 144), (.ref 145), (.int (1914) 0), (.int (149) 0), (.str (Str.ofString "/claim/cut.py") 1915)]), #[]⟩
noncomputable def o147 (P : Params) : Obj := ⟨(.type "function"), none, .func ⟨Str.ofString "_law_once", Str.ofString "_law_once", a49.1, .stmts b49.1, c49.1, 3, [], (.none), (.none), (.none), (.str (Str.ofString "law_oc0137_01") 1878), none, (.ref 146), (.none), 0⟩, #[]⟩
noncomputable def o148 (P : Params) : Obj := ⟨(.type "tuple"), none, (.seq #[] 0), #[]⟩
noncomputable def o149 (P : Params) : Obj := ⟨(.none), none, (.fields #[]), #[]⟩
noncomputable def o150 (P : Params) : Obj := ⟨(.type "tuple"), none, (.seq #[(.str (Str.ofString "one") 1920), (.str (Str.ofString "other") 1921), (.str (Str.ofString "p") 1922), (.str (Str.ofString "q") 1923)] 0), #[]⟩
noncomputable def o151 (P : Params) : Obj := ⟨(.type "tuple"), none, (.seq #[] 0), #[]⟩
noncomputable def o152 (P : Params) : Obj := ⟨(.none), none, .func ⟨Str.ofString "_law_order", Str.ofString "_law_order", a50.1, .stmts b50.1, c50.1, 0, [], (.none), (.none), (.none), (.none), none, (.none), (.none), 0⟩, #[]⟩
noncomputable def o153 (P : Params) : Obj := ⟨(.type "code"), none, (.fields #[(.str (Str.ofString "_law_order") 1917), (.str (Str.ofString "_law_order") 1918), (.str (Str.ofString "/claim/cut.py") 1919), (.int (155) 0), (.int (2) 0), (.int (0) 0), (.int (0) 0), (.int (3) 0), (.ref 148), (.bool true), (.int (181) 0), (.ref 149), (.none), (.ref 150), (.ref 151), (.ref 152), (.int (1924) 0), (.int (155) 0), (.str (Str.ofString "/claim/cut.py") 1925)]), #[]⟩
noncomputable def o154 (P : Params) : Obj := ⟨(.type "function"), none, .func ⟨Str.ofString "_law_order", Str.ofString "_law_order", a50.1, .stmts b50.1, c50.1, 3, [], (.none), (.none), (.none), (.str (Str.ofString "law_oc0137_01") 1878), none, (.ref 153), (.none), 0⟩, #[]⟩
noncomputable def o155 (P : Params) : Obj := ⟨(.type "tuple"), none, (.seq #[] 0), #[]⟩
noncomputable def o156 (P : Params) : Obj := ⟨(.none), none, (.fields #[]), #[]⟩
noncomputable def o157 (P : Params) : Obj := ⟨(.none), none, .func ⟨Str.ofString "law", Str.ofString "law", a51.1, .stmts b51.1, c51.1, 0, [], (.none), (.none), (.none), (.none), none, (.none), (.none), 0⟩, #[]⟩
noncomputable def o158 (P : Params) : Obj := ⟨(.type "code"), none, (.fields #[(.str (Str.ofString "law") 1927), (.str (Str.ofString "law") 1928), (.str (Str.ofString "/claim/cut.py") 1929), (.int (162) 0), (.int (1) 0), (.int (0) 0), (.int (0) 0), (.int (3) 0), (.ref 155), (.bool true), (.int (181) 0), (.ref 156), (.none), (.none), (.none), (.ref 157), (.int (1930) 0), (.int (162) 0), (.str (Str.ofString "/claim/cut.py") 1931)]), #[]⟩
noncomputable def o159 (P : Params) : Obj := ⟨(.type "function"), none, .func ⟨Str.ofString "law", Str.ofString "law", a51.1, .stmts b51.1, c51.1, 3, [], (.none), (.none), (.none), (.str (Str.ofString "law_oc0137_01") 1878), none, (.ref 158), (.none), 0⟩, #[]⟩
noncomputable def tSe51 (P : Params) : BT := (.node (boot_o_0 P) (.node (boot_o_1 P) (.node (o3v21 P) (.node (boot_o_7 P) (.node (o15 P) (.node (o31 P) (.node (o63 P) (.node (o127 P) .nil .nil) .nil) (.node (o95 P) (.node (o159 P) .nil .nil) .nil)) (.node (o47 P) (.node (o79 P) (.node (o143 P) .nil .nil) .nil) (.node (o111 P) .nil .nil))) (.node (o23 P) (.node (o39 P) (.node (o71 P) (.node (o135 P) .nil .nil) .nil) (.node (o103 P) .nil .nil)) (.node (o55 P) (.node (o87 P) (.node (o151 P) .nil .nil) .nil) (.node (o119 P) .nil .nil)))) (.node (o11 P) (.node (o19 P) (.node (o35 P) (.node (o67 P) (.node (o131 P) .nil .nil) .nil) (.node (o99 P) .nil .nil)) (.node (o51 P) (.node (o83 P) (.node (o147 P) .nil .nil) .nil) (.node (o115 P) .nil .nil))) (.node (o27 P) (.node (o43 P) (.node (o75 P) (.node (o139 P) .nil .nil) .nil) (.node (o107 P) .nil .nil)) (.node (o59 P) (.node (o91 P) (.node (o155 P) .nil .nil) .nil) (.node (o123 P) .nil .nil))))) (.node (boot_o_5 P) (.node (boot_o_9 P) (.node (o17v16 P) (.node (o33 P) (.node (o65 P) (.node (o129 P) .nil .nil) .nil) (.node (o97 P) .nil .nil)) (.node (o49 P) (.node (o81 P) (.node (o145 P) .nil .nil) .nil) (.node (o113 P) .nil .nil))) (.node (o25v4 P) (.node (o41 P) (.node (o73 P) (.node (o137 P) .nil .nil) .nil) (.node (o105 P) .nil .nil)) (.node (o57 P) (.node (o89 P) (.node (o153 P) .nil .nil) .nil) (.node (o121 P) .nil .nil)))) (.node (o13 P) (.node (o21 P) (.node (o37 P) (.node (o69 P) (.node (o133 P) .nil .nil) .nil) (.node (o101 P) .nil .nil)) (.node (o53 P) (.node (o85 P) (.node (o149 P) .nil .nil) .nil) (.node (o117 P) .nil .nil))) (.node (o29 P) (.node (o45 P) (.node (o77 P) (.node (o141 P) .nil .nil) .nil) (.node (o109 P) .nil .nil)) (.node (o61 P) (.node (o93 P) (.node (o157 P) .nil .nil) .nil) (.node (o125 P) .nil .nil)))))) (.node (boot_o_2 P) (.node (boot_o_4 P) (.node (boot_o_8 P) (.node (o16v16 P) (.node (o32 P) (.node (o64 P) (.node (o128 P) .nil .nil) .nil) (.node (o96 P) .nil .nil)) (.node (o48 P) (.node (o80 P) (.node (o144 P) .nil .nil) .nil) (.node (o112 P) .nil .nil))) (.node (o24v7 P) (.node (o40 P) (.node (o72 P) (.node (o136 P) .nil .nil) .nil) (.node (o104 P) .nil .nil)) (.node (o56 P) (.node (o88 P) (.node (o152 P) .nil .nil) .nil) (.node (o120 P) .nil .nil)))) (.node (o12v5 P) (.node (o20 P) (.node (o36 P) (.node (o68 P) (.node (o132 P) .nil .nil) .nil) (.node (o100 P) .nil .nil)) (.node (o52 P) (.node (o84 P) (.node (o148 P) .nil .nil) .nil) (.node (o116 P) .nil .nil))) (.node (o28v6 P) (.node (o44 P) (.node (o76 P) (.node (o140 P) .nil .nil) .nil) (.node (o108 P) .nil .nil)) (.node (o60 P) (.node (o92 P) (.node (o156 P) .nil .nil) .nil) (.node (o124 P) .nil .nil))))) (.node (boot_o_6 P) (.node (boot_o_10 P) (.node (o18v17 P) (.node (o34 P) (.node (o66 P) (.node (o130 P) .nil .nil) .nil) (.node (o98 P) .nil .nil)) (.node (o50 P) (.node (o82 P) (.node (o146 P) .nil .nil) .nil) (.node (o114 P) .nil .nil))) (.node (o26 P) (.node (o42 P) (.node (o74 P) (.node (o138 P) .nil .nil) .nil) (.node (o106 P) .nil .nil)) (.node (o58 P) (.node (o90 P) (.node (o154 P) .nil .nil) .nil) (.node (o122 P) .nil .nil)))) (.node (o14 P) (.node (o22v6 P) (.node (o38 P) (.node (o70 P) (.node (o134 P) .nil .nil) .nil) (.node (o102 P) .nil .nil)) (.node (o54 P) (.node (o86 P) (.node (o150 P) .nil .nil) .nil) (.node (o118 P) .nil .nil))) (.node (o30 P) (.node (o46 P) (.node (o78 P) (.node (o142 P) .nil .nil) .nil) (.node (o110 P) .nil .nil)) (.node (o62 P) (.node (o94 P) (.node (o158 P) .nil .nil) .nil) (.node (o126 P) .nil .nil)))))))
noncomputable def Se51 (w : World) (os : OsState) : SharedT := ⟨tSe51 w.params, 160, {}, #[], {}, 1933, os⟩
noncomputable abbrev pSe51 : Pos := ⟨162, 0, 180, 99⟩
noncomputable def HF (P : Params) : Heap := ⟨#[boot_o_0 P, boot_o_1 P, boot_o_2 P, o3v21 P, boot_o_4 P, boot_o_5 P, boot_o_6 P, boot_o_7 P, boot_o_8 P, boot_o_9 P, boot_o_10 P, o11 P, o12v5 P, o13 P, o14 P, o15 P, o16v16 P, o17v16 P, o18v17 P, o19 P, o20 P, o21 P, o22v6 P, o23 P, o24v7 P, o25v4 P, o26 P, o27 P, o28v6 P, o29 P, o30 P, o31 P, o32 P, o33 P, o34 P, o35 P, o36 P, o37 P, o38 P, o39 P, o40 P, o41 P, o42 P, o43 P, o44 P, o45 P, o46 P, o47 P, o48 P, o49 P, o50 P, o51 P, o52 P, o53 P, o54 P, o55 P, o56 P, o57 P, o58 P, o59 P, o60 P, o61 P, o62 P, o63 P, o64 P, o65 P, o66 P, o67 P, o68 P, o69 P, o70 P, o71 P, o72 P, o73 P, o74 P, o75 P, o76 P, o77 P, o78 P, o79 P, o80 P, o81 P, o82 P, o83 P, o84 P, o85 P, o86 P, o87 P, o88 P, o89 P, o90 P, o91 P, o92 P, o93 P, o94 P, o95 P, o96 P, o97 P, o98 P, o99 P, o100 P, o101 P, o102 P, o103 P, o104 P, o105 P, o106 P, o107 P, o108 P, o109 P, o110 P, o111 P, o112 P, o113 P, o114 P, o115 P, o116 P, o117 P, o118 P, o119 P, o120 P, o121 P, o122 P, o123 P, o124 P, o125 P, o126 P, o127 P, o128 P, o129 P, o130 P, o131 P, o132 P, o133 P, o134 P, o135 P, o136 P, o137 P, o138 P, o139 P, o140 P, o141 P, o142 P, o143 P, o144 P, o145 P, o146 P, o147 P, o148 P, o149 P, o150 P, o151 P, o152 P, o153 P, o154 P, o155 P, o156 P, o157 P, o158 P, o159 P], {}⟩
noncomputable def KK (P : Params) : Frag := [(3, o3v21 P), (22, o22v6 P), (31, o31 P), (32, o32 P), (33, o33 P), (34, o34 P), (35, o35 P), (36, o36 P), (37, o37 P), (38, o38 P), (39, o39 P), (40, o40 P), (41, o41 P), (42, o42 P), (43, o43 P), (44, o44 P), (45, o45 P), (51, o51 P), (52, o52 P), (53, o53 P), (54, o54 P), (55, o55 P), (56, o56 P), (57, o57 P), (58, o58 P), (59, o59 P), (60, o60 P), (61, o61 P), (62, o62 P), (63, o63 P), (64, o64 P), (65, o65 P), (66, o66 P), (67, o67 P), (68, o68 P), (69, o69 P), (70, o70 P), (71, o71 P), (72, o72 P), (73, o73 P), (74, o74 P), (75, o75 P), (76, o76 P), (77, o77 P), (78, o78 P), (79, o79 P), (80, o80 P), (81, o81 P), (82, o82 P), (83, o83 P), (84, o84 P), (85, o85 P), (86, o86 P), (87, o87 P), (88, o88 P), (89, o89 P), (90, o90 P), (91, o91 P), (92, o92 P), (93, o93 P), (94, o94 P), (95, o95 P), (96, o96 P), (97, o97 P), (98, o98 P), (99, o99 P), (100, o100 P), (101, o101 P), (102, o102 P), (103, o103 P), (104, o104 P), (105, o105 P), (106, o106 P), (107, o107 P), (108, o108 P), (109, o109 P), (110, o110 P), (111, o111 P), (112, o112 P), (113, o113 P), (114, o114 P), (115, o115 P), (116, o116 P), (117, o117 P), (118, o118 P), (119, o119 P), (120, o120 P), (121, o121 P), (122, o122 P), (123, o123 P), (124, o124 P), (125, o125 P), (126, o126 P), (127, o127 P), (128, o128 P), (129, o129 P), (130, o130 P), (131, o131 P), (132, o132 P), (133, o133 P), (134, o134 P), (135, o135 P), (136, o136 P), (137, o137 P), (138, o138 P), (139, o139 P), (140, o140 P), (141, o141 P), (142, o142 P), (143, o143 P), (144, o144 P), (145, o145 P), (146, o146 P), (147, o147 P), (148, o148 P), (149, o149 P), (150, o150 P), (151, o151 P), (152, o152 P), (153, o153 P), (154, o154 P), (155, o155 P), (156, o156 P), (157, o157 P), (158, o158 P), (159, o159 P)]
noncomputable def KA : List Addr := [3, 22, 31, 32, 33, 34, 35, 36, 37, 38, 39, 40, 41, 42, 43, 44, 45, 51, 52, 53, 54, 55, 56, 57, 58, 59, 60, 61, 62, 63, 64, 65, 66, 67, 68, 69, 70, 71, 72, 73, 74, 75, 76, 77, 78, 79, 80, 81, 82, 83, 84, 85, 86, 87, 88, 89, 90, 91, 92, 93, 94, 95, 96, 97, 98, 99, 100, 101, 102, 103, 104, 105, 106, 107, 108, 109, 110, 111, 112, 113, 114, 115, 116, 117, 118, 119, 120, 121, 122, 123, 124, 125, 126, 127, 128, 129, 130, 131, 132, 133, 134, 135, 136, 137, 138, 139, 140, 141, 142, 143, 144, 145, 146, 147, 148, 149, 150, 151, 152, 153, 154, 155, 156, 157, 158, 159]
end
end Mine
set_option maxHeartbeats 8000000
namespace Mine
noncomputable section
noncomputable abbrev tGo := @PySem.W.Fast.tw10295753902157049106
noncomputable abbrev tRun := @PySem.W.Fast.tw10110043849684766642
noncomputable abbrev tTb := PySem.W.Fast.tw14364793385576792824
noncomputable abbrev tExecs := @PySem.W.Fast.tw12563942051412417395
noncomputable abbrev tTop := @PySem.W.Fast.tw14082659384304107361
noncomputable abbrev tTopGo := @PySem.W.Fast.tw15667345088766844465
noncomputable abbrev tDen := @PySem.W.Fast.tw11892475500146522536
noncomputable def envM : Env := { scope := pw.main.scope, locals := mainNs, globals := mainNs, cells := [], code := .ref 13, frame := some 14 }
noncomputable def cM : Code := .body (behindTheImports pw) envM
noncomputable abbrev qM : Pos := ⟨0, 0, 0, 0⟩
noncomputable abbrev BM : List Frame := [topFrame qM]
noncomputable abbrev annM : Option Value := some (.ref 6)
noncomputable def sts (a n : Nat) : List Stmt := ((behindTheImports pw).drop a).take n
noncomputable def thr (a n : Nat) (p : Pos) : Thread := ⟨(tExecs (sts a n) envM).wrap doneF deadEnd id id, cM, p, BM⟩
abbrev sgr : String := "special-get-raises"
abbrev cit : String := "comprehension-iter-twice"
noncomputable abbrev fw (w : World) (a b : Bool) : World := (w.withFollow sgr a).withFollow cit b
theorem thr_eq (a n : Nat) (p : Pos) : thr a n p = piecesOf (sts a n) envM cM p BM := by
  unfold thr tExecs
  rw [← PySem.W.Fast.te12563942051412417395]
theorem goOk {p : Program} {w : World} {n₀ : Nat} {ann : Option Value} {b N : Nat} {s : SharedT} {t : Thread} {r : Option (SharedT × Thread)} (h : tGo tTb p w n₀ ann b N s t = r) : segGoT treeTable p w n₀ ann b N s t = r := by
  rw [PySem.W.Fast.te10295753902157049106, PySem.W.Fast.te14364793385576792824]; exact h
theorem runOk {p : Program} {w : World} {n₀ : Nat} {ann : Option Value} {b N : Nat} {s : SharedT} {t : Thread} {r : Option (Flow × SharedT × Code × Pos)} (h : tRun tTb p w n₀ ann b N s t = r) : segRunT treeTable p w n₀ ann b N s t = r := by
  rw [PySem.W.Fast.te10110043849684766642, PySem.W.Fast.te14364793385576792824]; exact h
theorem topOk {p : Program} {w : World} {n₀ : Nat} {ann : Option Value} {N : Nat} {s : Shared} {t : Thread} {r : Option Shared} (h : tTop tTb p w n₀ ann N s t = r) : topRun treeTable p w n₀ ann N s t = r := by
  rw [PySem.W.Fast.te14082659384304107361, PySem.W.Fast.te14364793385576792824]; exact h
theorem segRun_mono {tb : String → Option Builtin} {p : Program} {w : World} {n₀ : Nat} {ann : Option Value} {b : Nat} (k : Nat) : ∀ {n : Nat} {s : Shared} {t : Thread} {r : Flow × Shared × Code × Pos}, segRun tb p w n₀ ann b n s t = some r → segRun tb p w n₀ ann b (n + k) s t = some r
  | 0, s, t, r, h => by simp [segRun] at h
  | n + 1, s, t, r, h => by
    rw [show n + 1 + k = n + k + 1 by omega]
    unfold segRun at h ⊢
    cases he : endAt b t with
    | some f => rw [he] at h; exact h
    | none =>
      rw [he] at h
      cases hk : stepOk n₀ ann t with
      | false => rw [hk] at h; cases h
      | true =>
        rw [hk] at h
        cases hs : step (denote tb) p w s t with
        | halt o s' => rw [hs] at h; cases h
        | go s' t' => rw [hs] at h; exact segRun_mono k h
/-- one piece of the top, at a world -/
abbrev Pc (a n : Nat) (N : Nat) (S S' : World → OsState → SharedT) (p p' : Pos) (w : World) : Prop := ∀ os : OsState, segRun treeTable pw w 11 annM 1 N (S w os).abs (piecesOf (sts a n) envM cM p BM) = some (.next, (S' w os).abs, cM, p')
theorem plain {a n N : Nat} {S S' : World → OsState → SharedT} {p p' : Pos} {w : World} (h : ∀ os, tRun tTb pw w 11 annM 1 N (S w os) (thr a n p) = some (.next, S' w os, cM, p')) : Pc a n N S S' p p' w := fun os =>
  thr_eq a n p ▸ segRun_of (runOk (h os))
theorem q0 (w : World) : Pc 0 1 10 Sb Se0 pSb pSe0 w := plain fun os => by kernel_rfl
noncomputable def T1 (w : World) (os : OsState) : Thread := match tGo tTb pw (fw w false false) 11 annM 1 88 (Se0 w os) (thr 1 1 pSe0) with | some (_, t) => t | none => thr 1 1 pSe0
theorem q1k1 (w : World) (os : OsState) : tGo tTb pw w 11 annM 1 555 (Sc1_1 w os) (T1 w os) = some (Sc1_16 w os, T1 w os) := by kernel_rfl
theorem q1k16 (w : World) (os : OsState) : tGo tTb pw w 11 annM 1 592 (Sc1_16 w os) (T1 w os) = some (Sc1_32 w os, T1 w os) := by kernel_rfl
theorem q1k32 (w : World) (os : OsState) : tGo tTb pw w 11 annM 1 592 (Sc1_32 w os) (T1 w os) = some (Sc1_48 w os, T1 w os) := by kernel_rfl
theorem q1k48 (w : World) (os : OsState) : tGo tTb pw w 11 annM 1 592 (Sc1_48 w os) (T1 w os) = some (Sc1_64 w os, T1 w os) := by kernel_rfl
theorem q1k64 (w : World) (os : OsState) : tGo tTb pw w 11 annM 1 592 (Sc1_64 w os) (T1 w os) = some (Sc1_80 w os, T1 w os) := by kernel_rfl
theorem q1k80 (w : World) (os : OsState) : tGo tTb pw w 11 annM 1 592 (Sc1_80 w os) (T1 w os) = some (Sc1_96 w os, T1 w os) := by kernel_rfl
theorem q1k96 (w : World) (os : OsState) : tGo tTb pw w 11 annM 1 592 (Sc1_96 w os) (T1 w os) = some (Sc1_112 w os, T1 w os) := by kernel_rfl
theorem q1k112 (w : World) (os : OsState) : tGo tTb pw w 11 annM 1 592 (Sc1_112 w os) (T1 w os) = some (Sc1_128 w os, T1 w os) := by kernel_rfl
theorem q1k128 (w : World) (os : OsState) : tGo tTb pw w 11 annM 1 592 (Sc1_128 w os) (T1 w os) = some (Sc1_144 w os, T1 w os) := by kernel_rfl
theorem q1k144 (w : World) (os : OsState) : tGo tTb pw w 11 annM 1 592 (Sc1_144 w os) (T1 w os) = some (Sc1_160 w os, T1 w os) := by kernel_rfl
theorem q1k160 (w : World) (os : OsState) : tGo tTb pw w 11 annM 1 592 (Sc1_160 w os) (T1 w os) = some (Sc1_176 w os, T1 w os) := by kernel_rfl
theorem q1k176 (w : World) (os : OsState) : tGo tTb pw w 11 annM 1 592 (Sc1_176 w os) (T1 w os) = some (Sc1_192 w os, T1 w os) := by kernel_rfl
theorem q1k192 (w : World) (os : OsState) : tGo tTb pw w 11 annM 1 592 (Sc1_192 w os) (T1 w os) = some (Sc1_208 w os, T1 w os) := by kernel_rfl
theorem q1k208 (w : World) (os : OsState) : tGo tTb pw w 11 annM 1 592 (Sc1_208 w os) (T1 w os) = some (Sc1_224 w os, T1 w os) := by kernel_rfl
theorem q1k224 (w : World) (os : OsState) : tGo tTb pw w 11 annM 1 592 (Sc1_224 w os) (T1 w os) = some (Sc1_240 w os, T1 w os) := by kernel_rfl
theorem q1k240 (w : World) (os : OsState) : tGo tTb pw w 11 annM 1 592 (Sc1_240 w os) (T1 w os) = some (Sc1_256 w os, T1 w os) := by kernel_rfl
theorem q1l (w : World) (os : OsState) : tRun tTb pw w 11 annM 1 29 (Sc1_256 w os) (T1 w os) = some (.next, Se1 w os, cM, pSe1) := by kernel_rfl
theorem q1t (w : World) (os : OsState) : segRun treeTable pw w 11 annM 1 (555 + (592 + (592 + (592 + (592 + (592 + (592 + (592 + (592 + (592 + (592 + (592 + (592 + (592 + (592 + (592 + (29))))))))))))))))) (Sc1_1 w os).abs (T1 w os) = some (.next, (Se1 w os).abs, cM, pSe1) := seg_go (segGo_of (goOk (q1k1 w os))) (seg_go (segGo_of (goOk (q1k16 w os))) (seg_go (segGo_of (goOk (q1k32 w os))) (seg_go (segGo_of (goOk (q1k48 w os))) (seg_go (segGo_of (goOk (q1k64 w os))) (seg_go (segGo_of (goOk (q1k80 w os))) (seg_go (segGo_of (goOk (q1k96 w os))) (seg_go (segGo_of (goOk (q1k112 w os))) (seg_go (segGo_of (goOk (q1k128 w os))) (seg_go (segGo_of (goOk (q1k144 w os))) (seg_go (segGo_of (goOk (q1k160 w os))) (seg_go (segGo_of (goOk (q1k176 w os))) (seg_go (segGo_of (goOk (q1k192 w os))) (seg_go (segGo_of (goOk (q1k208 w os))) (seg_go (segGo_of (goOk (q1k224 w os))) (seg_go (segGo_of (goOk (q1k240 w os))) (segRun_of (runOk (q1l w os))))))))))))))))))
theorem q1sff (w : World) (os : OsState) : tGo tTb pw (fw w false false) 11 annM 1 88 (Se0 (fw w false false) os) (thr 1 1 pSe0) = some (Sc1_1 (fw w false false) os, T1 (fw w false false) os) := by kernel_rfl
theorem q1rff (w : World) : Pc 1 1 (88 + (555 + (592 + (592 + (592 + (592 + (592 + (592 + (592 + (592 + (592 + (592 + (592 + (592 + (592 + (592 + (592 + (29)))))))))))))))))) Se0 Se1 pSe0 pSe1 (fw w false false) := fun os => thr_eq 1 1 pSe0 ▸ seg_go (segGo_of (goOk (q1sff w os))) (q1t (fw w false false) os)
theorem q1stf (w : World) (os : OsState) : tGo tTb pw (fw w true false) 11 annM 1 88 (Se0 (fw w true false) os) (thr 1 1 pSe0) = some (Sc1_1 (fw w true false) os, T1 (fw w true false) os) := by kernel_rfl
theorem q1rtf (w : World) : Pc 1 1 (88 + (555 + (592 + (592 + (592 + (592 + (592 + (592 + (592 + (592 + (592 + (592 + (592 + (592 + (592 + (592 + (592 + (29)))))))))))))))))) Se0 Se1 pSe0 pSe1 (fw w true false) := fun os => thr_eq 1 1 pSe0 ▸ seg_go (segGo_of (goOk (q1stf w os))) (q1t (fw w true false) os)
theorem q1sft (w : World) (os : OsState) : tGo tTb pw (fw w false true) 11 annM 1 78 (Se0 (fw w false true) os) (thr 1 1 pSe0) = some (Sc1_1 (fw w false true) os, T1 (fw w false true) os) := by kernel_rfl
theorem q1rft (w : World) : Pc 1 1 (88 + (555 + (592 + (592 + (592 + (592 + (592 + (592 + (592 + (592 + (592 + (592 + (592 + (592 + (592 + (592 + (592 + (29)))))))))))))))))) Se0 Se1 pSe0 pSe1 (fw w false true) := fun os => thr_eq 1 1 pSe0 ▸ (show segRun treeTable pw (fw w false true) 11 annM 1 (78 + ((555 + (592 + (592 + (592 + (592 + (592 + (592 + (592 + (592 + (592 + (592 + (592 + (592 + (592 + (592 + (592 + (29))))))))))))))))) + 10)) _ _ = _ from seg_go (segGo_of (goOk (q1sft w os))) (segRun_mono 10 (q1t (fw w false true) os)))
theorem q1stt (w : World) (os : OsState) : tGo tTb pw (fw w true true) 11 annM 1 78 (Se0 (fw w true true) os) (thr 1 1 pSe0) = some (Sc1_1 (fw w true true) os, T1 (fw w true true) os) := by kernel_rfl
theorem q1rtt (w : World) : Pc 1 1 (88 + (555 + (592 + (592 + (592 + (592 + (592 + (592 + (592 + (592 + (592 + (592 + (592 + (592 + (592 + (592 + (592 + (29)))))))))))))))))) Se0 Se1 pSe0 pSe1 (fw w true true) := fun os => thr_eq 1 1 pSe0 ▸ (show segRun treeTable pw (fw w true true) 11 annM 1 (78 + ((555 + (592 + (592 + (592 + (592 + (592 + (592 + (592 + (592 + (592 + (592 + (592 + (592 + (592 + (592 + (592 + (29))))))))))))))))) + 10)) _ _ = _ from seg_go (segGo_of (goOk (q1stt w os))) (segRun_mono 10 (q1t (fw w true true) os)))
theorem q1 (w : World) : Pc 1 1 (88 + (555 + (592 + (592 + (592 + (592 + (592 + (592 + (592 + (592 + (592 + (592 + (592 + (592 + (592 + (592 + (592 + (29)))))))))))))))))) Se0 Se1 pSe0 pSe1 w := byRow2 cit (P := fun w => Pc 1 1 (88 + (555 + (592 + (592 + (592 + (592 + (592 + (592 + (592 + (592 + (592 + (592 + (592 + (592 + (592 + (592 + (592 + (29)))))))))))))))))) Se0 Se1 pSe0 pSe1 w) (byRow2 sgr (P := fun w => Pc 1 1 (88 + (555 + (592 + (592 + (592 + (592 + (592 + (592 + (592 + (592 + (592 + (592 + (592 + (592 + (592 + (592 + (592 + (29)))))))))))))))))) Se0 Se1 pSe0 pSe1 (w.withFollow cit false)) q1rff q1rtf) (byRow2 sgr (P := fun w => Pc 1 1 (88 + (555 + (592 + (592 + (592 + (592 + (592 + (592 + (592 + (592 + (592 + (592 + (592 + (592 + (592 + (592 + (592 + (29)))))))))))))))))) Se0 Se1 pSe0 pSe1 (w.withFollow cit true)) q1rft q1rtt) w
theorem q2 (w : World) : Pc 2 8 133 Se1 Se9 pSe1 pSe9 w := plain fun os => by kernel_rfl
noncomputable def T10 (w : World) (os : OsState) : Thread := match tGo tTb pw (fw w false false) 11 annM 1 133 (Se9 w os) (thr 10 1 pSe9) with | some (_, t) => t | none => thr 10 1 pSe9
theorem q10k1 (w : World) (os : OsState) : tGo tTb pw w 11 annM 1 720 (Sc10_1 w os) (T10 w os) = some (Sc10_17 w os, T10 w os) := by kernel_rfl
theorem q10k17 (w : World) (os : OsState) : tGo tTb pw w 11 annM 1 720 (Sc10_17 w os) (T10 w os) = some (Sc10_33 w os, T10 w os) := by kernel_rfl
theorem q10k33 (w : World) (os : OsState) : tGo tTb pw w 11 annM 1 720 (Sc10_33 w os) (T10 w os) = some (Sc10_49 w os, T10 w os) := by kernel_rfl
theorem q10l (w : World) (os : OsState) : tRun tTb pw w 11 annM 1 784 (Sc10_49 w os) (T10 w os) = some (.next, Se10 w os, cM, pSe10) := by kernel_rfl
theorem q10t (w : World) (os : OsState) : segRun treeTable pw w 11 annM 1 (720 + (720 + (720 + (784)))) (Sc10_1 w os).abs (T10 w os) = some (.next, (Se10 w os).abs, cM, pSe10) := seg_go (segGo_of (goOk (q10k1 w os))) (seg_go (segGo_of (goOk (q10k17 w os))) (seg_go (segGo_of (goOk (q10k33 w os))) (segRun_of (runOk (q10l w os)))))
theorem q10sf (w : World) (os : OsState) : tGo tTb pw (w.withFollow sgr false) 11 annM 1 133 (Se9 (w.withFollow sgr false) os) (thr 10 1 pSe9) = some (Sc10_1 (w.withFollow sgr false) os, T10 (w.withFollow sgr false) os) := by kernel_rfl
theorem q10rf (w : World) : Pc 10 1 (133 + (720 + (720 + (720 + (784))))) Se9 Se10 pSe9 pSe10 (w.withFollow sgr false) := fun os => thr_eq 10 1 pSe9 ▸ seg_go (segGo_of (goOk (q10sf w os))) (q10t (w.withFollow sgr false) os)
theorem q10st (w : World) (os : OsState) : tGo tTb pw (w.withFollow sgr true) 11 annM 1 133 (Se9 (w.withFollow sgr true) os) (thr 10 1 pSe9) = some (Sc10_1 (w.withFollow sgr true) os, T10 (w.withFollow sgr true) os) := by kernel_rfl
theorem q10rt (w : World) : Pc 10 1 (133 + (720 + (720 + (720 + (784))))) Se9 Se10 pSe9 pSe10 (w.withFollow sgr true) := fun os => thr_eq 10 1 pSe9 ▸ seg_go (segGo_of (goOk (q10st w os))) (q10t (w.withFollow sgr true) os)
theorem q10 (w : World) : Pc 10 1 (133 + (720 + (720 + (720 + (784))))) Se9 Se10 pSe9 pSe10 w := byRow2 sgr (P := fun w => Pc 10 1 (133 + (720 + (720 + (720 + (784))))) Se9 Se10 pSe9 pSe10 w) q10rf q10rt w
theorem q11 (w : World) : Pc 11 1 25 Se10 Se11 pSe10 pSe11 w := plain fun os => by kernel_rfl
noncomputable def T12 (w : World) (os : OsState) : Thread := match tGo tTb pw (fw w false false) 11 annM 1 99 (Se11 w os) (thr 12 1 pSe11) with | some (_, t) => t | none => thr 12 1 pSe11
theorem q12k1 (w : World) (os : OsState) : tGo tTb pw w 11 annM 1 720 (Sc12_1 w os) (T12 w os) = some (Sc12_17 w os, T12 w os) := by kernel_rfl
theorem q12k17 (w : World) (os : OsState) : tGo tTb pw w 11 annM 1 720 (Sc12_17 w os) (T12 w os) = some (Sc12_33 w os, T12 w os) := by kernel_rfl
theorem q12k33 (w : World) (os : OsState) : tGo tTb pw w 11 annM 1 720 (Sc12_33 w os) (T12 w os) = some (Sc12_49 w os, T12 w os) := by kernel_rfl
theorem q12k49 (w : World) (os : OsState) : tGo tTb pw w 11 annM 1 720 (Sc12_49 w os) (T12 w os) = some (Sc12_65 w os, T12 w os) := by kernel_rfl
theorem q12k65 (w : World) (os : OsState) : tGo tTb pw w 11 annM 1 720 (Sc12_65 w os) (T12 w os) = some (Sc12_81 w os, T12 w os) := by kernel_rfl
theorem q12l (w : World) (os : OsState) : tRun tTb pw w 11 annM 1 604 (Sc12_81 w os) (T12 w os) = some (.next, Se12 w os, cM, pSe12) := by kernel_rfl
theorem q12t (w : World) (os : OsState) : segRun treeTable pw w 11 annM 1 (720 + (720 + (720 + (720 + (720 + (604)))))) (Sc12_1 w os).abs (T12 w os) = some (.next, (Se12 w os).abs, cM, pSe12) := seg_go (segGo_of (goOk (q12k1 w os))) (seg_go (segGo_of (goOk (q12k17 w os))) (seg_go (segGo_of (goOk (q12k33 w os))) (seg_go (segGo_of (goOk (q12k49 w os))) (seg_go (segGo_of (goOk (q12k65 w os))) (segRun_of (runOk (q12l w os)))))))
theorem q12sf (w : World) (os : OsState) : tGo tTb pw (w.withFollow sgr false) 11 annM 1 99 (Se11 (w.withFollow sgr false) os) (thr 12 1 pSe11) = some (Sc12_1 (w.withFollow sgr false) os, T12 (w.withFollow sgr false) os) := by kernel_rfl
theorem q12rf (w : World) : Pc 12 1 (99 + (720 + (720 + (720 + (720 + (720 + (604))))))) Se11 Se12 pSe11 pSe12 (w.withFollow sgr false) := fun os => thr_eq 12 1 pSe11 ▸ seg_go (segGo_of (goOk (q12sf w os))) (q12t (w.withFollow sgr false) os)
theorem q12st (w : World) (os : OsState) : tGo tTb pw (w.withFollow sgr true) 11 annM 1 99 (Se11 (w.withFollow sgr true) os) (thr 12 1 pSe11) = some (Sc12_1 (w.withFollow sgr true) os, T12 (w.withFollow sgr true) os) := by kernel_rfl
theorem q12rt (w : World) : Pc 12 1 (99 + (720 + (720 + (720 + (720 + (720 + (604))))))) Se11 Se12 pSe11 pSe12 (w.withFollow sgr true) := fun os => thr_eq 12 1 pSe11 ▸ seg_go (segGo_of (goOk (q12st w os))) (q12t (w.withFollow sgr true) os)
theorem q12 (w : World) : Pc 12 1 (99 + (720 + (720 + (720 + (720 + (720 + (604))))))) Se11 Se12 pSe11 pSe12 w := byRow2 sgr (P := fun w => Pc 12 1 (99 + (720 + (720 + (720 + (720 + (720 + (604))))))) Se11 Se12 pSe11 pSe12 w) q12rf q12rt w
theorem q13f (w : World) : Pc 13 5 213 Se12 Se17 pSe12 pSe17 (w.withFollow sgr false) := plain fun os => by kernel_rfl
theorem q13t (w : World) : Pc 13 5 213 Se12 Se17 pSe12 pSe17 (w.withFollow sgr true) := plain fun os => by kernel_rfl
theorem q13 (w : World) : Pc 13 5 213 Se12 Se17 pSe12 pSe17 w := byRow2 sgr (P := fun w => Pc 13 5 213 Se12 Se17 pSe12 pSe17 w) q13f q13t w
theorem q18 (w : World) : Pc 18 5 123 Se17 Se22 pSe17 pSe22 w := plain fun os => by kernel_rfl
theorem q23 (w : World) : Pc 23 7 84 Se22 Se29 pSe22 pSe29 w := plain fun os => by kernel_rfl
theorem q30 (w : World) : Pc 30 13 118 Se29 Se42 pSe29 pSe42 w := plain fun os => by kernel_rfl
theorem q43 (w : World) : Pc 43 1 162 Se42 Se43 pSe42 pSe43 w := plain fun os => by kernel_rfl
theorem q44 (w : World) : Pc 44 2 44 Se43 Se45 pSe43 pSe45 w := plain fun os => by kernel_rfl
theorem q46 (w : World) : Pc 46 6 184 Se45 Se51 pSe45 pSe51 w := plain fun os => by kernel_rfl
theorem fin_ (w : World) (os : OsState) : topRun treeTable pw w 11 annM 2 (Se51 w os).abs ⟨doneF .next, cM, pSe51, BM⟩ = some ⟨HF w.params, #[], {}, 1933, os⟩ := topOk (by kernel_rfl)
theorem block_ (w : World) (os : OsState) : segRun treeTable pw w 11 annM 1 1 (Sb w os).abs (blockOf (behindTheImports pw) envM cM qM BM) = some (.next, (Sb w os).abs, cM, pSb) := by kernel_rfl
theorem pre0 (w : World) (os : OsState) : tTopGo tTb pw w 11 annM 12 ⟨boot_heap w.params, Array.mk [], boot_drawn, boot_toks, os⟩ (topStub pw) = some ((Sb w os).abs, ⟨tDen tTb cM, cM, qM, BM⟩) := by kernel_rfl
theorem pre_ (w : World) (os : OsState) : topGo treeTable pw w 11 annM 12 ⟨boot_heap w.params, Array.mk [], boot_drawn, boot_toks, os⟩ (topStub pw) = some ((Sb w os).abs, ⟨denote treeTable cM, cM, qM, BM⟩) := by
  rw [PySem.W.Fast.te15667345088766844465, PySem.W.Fast.te14364793385576792824, PySem.W.Fast.te11892475500146522536]; exact pre0 w os
theorem body_ : behindTheImports pw = sts 0 1 ++ (sts 1 1 ++ (sts 2 8 ++ (sts 10 1 ++ (sts 11 1 ++ (sts 12 1 ++ (sts 13 5 ++ (sts 18 5 ++ (sts 23 7 ++ (sts 30 13 ++ (sts 43 1 ++ (sts 44 2 ++ (sts 46 6 ++ ([]))))))))))))) := by kernel_rfl
theorem rest_ (w : World) (os : OsState) : topRun treeTable pw w 11 annM (10 + ((88 + (555 + (592 + (592 + (592 + (592 + (592 + (592 + (592 + (592 + (592 + (592 + (592 + (592 + (592 + (592 + (592 + (29)))))))))))))))))) + (133 + ((133 + (720 + (720 + (720 + (784))))) + (25 + ((99 + (720 + (720 + (720 + (720 + (720 + (604))))))) + (213 + (123 + (84 + (118 + (162 + (44 + (184 + (2)))))))))))))) (Sb w os).abs (restOf (sts 0 1 ++ (sts 1 1 ++ (sts 2 8 ++ (sts 10 1 ++ (sts 11 1 ++ (sts 12 1 ++ (sts 13 5 ++ (sts 18 5 ++ (sts 23 7 ++ (sts 30 13 ++ (sts 43 1 ++ (sts 44 2 ++ (sts 46 6 ++ ([])))))))))))))) envM cM pSb BM) = some ⟨HF w.params, #[], {}, 1933, os⟩ := piece_app (q0 w os) (piece_app (q1 w os) (piece_app (q2 w os) (piece_app (q10 w os) (piece_app (q11 w os) (piece_app (q12 w os) (piece_app (q13 w os) (piece_app (q18 w os) (piece_app (q23 w os) (piece_app (q30 w os) (piece_app (q43 w os) (piece_app (q44 w os) (piece_app (q46 w os) (piece_nil (fin_ w os))))))))))))))
theorem rest' (w : World) (os : OsState) : topRun treeTable pw w 11 annM (10 + ((88 + (555 + (592 + (592 + (592 + (592 + (592 + (592 + (592 + (592 + (592 + (592 + (592 + (592 + (592 + (592 + (592 + (29)))))))))))))))))) + (133 + ((133 + (720 + (720 + (720 + (784))))) + (25 + ((99 + (720 + (720 + (720 + (720 + (720 + (604))))))) + (213 + (123 + (84 + (118 + (162 + (44 + (184 + (2)))))))))))))) (Sb w os).abs (restOf (behindTheImports pw) envM cM pSb BM) = some ⟨HF w.params, #[], {}, 1933, os⟩ := by
  rw [body_]; exact rest_ w os
theorem run_ (w : World) (os : OsState) : topRun treeTable pw w 11 annM (12 + (1 + (10 + ((88 + (555 + (592 + (592 + (592 + (592 + (592 + (592 + (592 + (592 + (592 + (592 + (592 + (592 + (592 + (592 + (592 + (29)))))))))))))))))) + (133 + ((133 + (720 + (720 + (720 + (784))))) + (25 + ((99 + (720 + (720 + (720 + (720 + (720 + (604))))))) + (213 + (123 + (84 + (118 + (162 + (44 + (184 + (2)))))))))))))))) ⟨boot_heap w.params, Array.mk [], boot_drawn, boot_toks, os⟩ (topStub pw) = some ⟨HF w.params, #[], {}, 1933, os⟩ :=
  go_top (pre_ w os) (piece_block (block_ w os) (rest' w os))
end
end Mine
set_option maxHeartbeats 8000000
namespace Mine
noncomputable section
noncomputable abbrev st51 : {x : Stmt // x = (pw.main.body[51]?).getD default} := ⟨_, by
  conv => rhs; whnf⟩
/-- the view: the law's def alone -/
noncomputable def qV : Program := { pw with main := { pw.main with body := [st51.1] } }
noncomputable def looseV : List Str := [Str.ofString "NL", Str.ofString "_QUOPRI_MAP", Str.ofString "_QUOPRI_HEADER_MAP", Str.ofString "_QUOPRI_BODY_MAP", Str.ofString "ascii_lowercase", Str.ofString "ascii_uppercase", Str.ofString "ascii_letters", Str.ofString "digits", Str.ofString "hexdigits", Str.ofString "unquote", Str.ofString "header_encode", Str.ofString "_QUOPRI_BODY_ENCODE_MAP", Str.ofString "decode", Str.ofString "sorted_list_difference", Str.ofString "three_way_cmp", Str.ofString "S_IFMT", Str.ofString "S_IFDIR", Str.ofString "S_IFCHR", Str.ofString "S_IFBLK", Str.ofString "S_IFREG", Str.ofString "S_IFIFO", Str.ofString "S_IFLNK", Str.ofString "S_IFSOCK", Str.ofString "S_ISUID", Str.ofString "S_ISGID", Str.ofString "S_ISVTX", Str.ofString "S_IRUSR", Str.ofString "S_IWUSR", Str.ofString "S_IXUSR", Str.ofString "S_IRGRP", Str.ofString "S_IWGRP", Str.ofString "S_IXGRP", Str.ofString "S_IROTH", Str.ofString "S_IWOTH", Str.ofString "S_IXOTH", Str.ofString "_filemode_table", Str.ofString "filemode", Str.ofString "_law_place", Str.ofString "_law_signs", Str.ofString "_law_word", Str.ofString "_law_once", Str.ofString "_law_order"]
theorem KA_eq (P : Params) : KA = (KK P).map (·.1) := by kernel_rfl
noncomputable abbrev hkV : Hook := kHook KK KA KA_eq
noncomputable abbrev rV : RowW := (OpenLaw.row PySem.Challenge.rw_oc0137_01).toRowW
noncomputable abbrev XtV : Shared → Bool := fun s => xlAt qV [] s && recOk (RowW.records rV) s
noncomputable abbrev tImp := @PySem.W.Fast.tw10274390034422433532
noncomputable abbrev tStart := @PySem.W.Fast.tw1435165496053646825
noncomputable abbrev osV : OsState := (start (opening pw)).1.os
theorem imp0 (w : World) : tImp tTb (opening pw) w 600 (tStart (opening pw)).1 (tStart (opening pw)).2 = some ⟨boot_heap w.params, Array.mk [], boot_drawn, boot_toks, (tStart (opening pw)).1.os⟩ := by kernel_rfl
theorem imp_ (w : World) : importEnds treeTable (opening pw) w 600 (start (opening pw)).1 (start (opening pw)).2 = some ⟨boot_heap w.params, Array.mk [], boot_drawn, boot_toks, (start (opening pw)).1.os⟩ := by
  rw [PySem.W.Fast.te10274390034422433532, PySem.W.Fast.te14364793385576792824, PySem.W.Fast.te1435165496053646825]; exact imp0 w
theorem open_ : ∀ w : World, (fencedOpening treeTable pw w 40000).map (fun s => (s.heap, s.gens, s.drawn, s.toks)) = some (boot_heap w.params, Array.mk [], boot_drawn, boot_toks) :=
  open_cut (He := boot_heap) imp_ (by kernel_rfl) (fun w => by kernel_rfl)
theorem size_ (w : World) : ((boot_heap w.params).isNs mainGlobals && (Array.mk [] : Array GenState).size == 0, (boot_heap w.params).objs.size, (boot_heap w.params).nsMap mainGlobals "__annotations__") = (true, 11, annM) := by kernel_rfl
noncomputable abbrev sF (w : World) (os : OsState) : Shared := ⟨HF w.params, #[], {}, 1933, os⟩
theorem lk1 (w : World) : staticsOk (importedModules pw.main.body) (boot_heap w.params) (HF w.params) = true := by kernel_rfl
theorem lk2 (w : World) : namesBound pw (HF w.params) = true := by kernel_rfl
theorem lk3 (w : World) (os : OsState) : gensDone (sF w os) = true := by kernel_rfl
theorem lk4 (w : World) : laidKept (boot_heap w.params) (HF w.params) = true := by kernel_rfl
theorem lk5 (w : World) (os : OsState) : hkV.obs (sF w os) = hkV.val w := by kernel_rfl
noncomputable abbrev tSeen := @PySem.W.Fast.tw4187177175401517315
theorem lk6 (w : World) (os : OsState) : tSeen qV looseV (importedModules pw.main.body) XtV true (sF w os) = openGood qV looseV := by kernel_rfl
theorem lk6' (w : World) (os : OsState) : openSeen qV looseV (importedModules pw.main.body) XtV true (sF w os) = openGood qV looseV := by
  rw [PySem.W.Fast.te4187177175401517315]; exact lk6 w os
theorem left_ : LeftO pw qV looseV XtV hkV.obs hkV.val 40000 true :=
  LeftO.of_pieces (H₀ := boot_heap) (H₁ := HF) open_ size_ run_ (by kernel_rfl) (fun w => funext fun os => by
    rw [lk1 w, lk2 w, lk3 w os, lk4 w, lk6' w os]
    exact congrArg (fun x => (true, openGood qV looseV, x)) (lk5 w os))
noncomputable abbrev dV : {x : DefRec × List (Str × Expr) // defOf qV (Str.ofString "law") = some x} := ⟨(⟨Str.ofString "law", a51.1, b51.1, c51.1, ⟨162, 0, 180, 99⟩⟩, []), by kernel_rfl⟩
theorem said_ : PySem.Challenge.rw_oc0137_01.wellSaid = true := by
  rw [PySem.W.Fast.te9446332074065402090]
  delta PySem.W.Fast.tw9446332074065402090
  with_reducible repeat' (refine look_both ?_ ?_)
  all_goals try delta PySem.W.Fast.tw17960256430627541270
  all_goals (with_reducible repeat' (refine look_both ?_ ?_))
  all_goals try delta PySem.W.Fast.tw2436336058641802641
  all_goals (with_reducible repeat' (refine look_both ?_ ?_))
  all_goals try delta PySem.W.Fast.tw12908688711261696721
  all_goals (with_reducible repeat' (refine look_both ?_ ?_))
  all_goals as_aux_lemma => kernel_rfl
theorem hd (walk : WalkO qV looseV (XL qV []) hkV.says rV dV.1.1 dV.1.2 fun f vs => PySem.call f vs) : PySem.Challenge.rw_oc0137_01.Holds := by
  refine holds_law said_ fun said => ?_
  exact holds_open (q := qV) (loose := looseV) (Xt := XtV) (XP := XL qV []) (Yf := hkV.obs) (Ya := hkV.val) (YP := hkV.says) (N := 40000) left_ (Hook.of hkV) (Hook.keeps hkV) (fun s e => xl_of s (Bool.and_eq_true_iff.mp e).1) XL.keeps
    dV.2 (by kernel_rfl) (by kernel_rfl) (fun s e => recFacts_of (Bool.and_eq_true_iff.mp e).2) (by rfl) said (by decide +kernel) ⟨rfl, rfl, rfl, rfl, rfl, by decide +kernel⟩ (by w_witness2) walk
end
end Mine
set_option maxHeartbeats 4000000
namespace Mine
noncomputable section

abbrev KP (w : World) : Frag := KK w.params

/-- what stands at the top, at a heap -/
structure Gw (w : World) (h : Heap) : Prop where
  K : (KP w).In h
  g : ∃ mg, h.Ns mainGlobals mg
  b : ∃ mb, h.Ns builtinsNs mb ∧ ∀ x : Str, x ≠ "__name__" → mb x = bootBuiltins x
  lim : h.NoLimit
  dig : ∃ mc, h.Ns cStatics mc ∧ mc "sys.int_max_str_digits" = none

abbrev Kp (h h' : Heap) : Prop := ∀ b o, h.get? b = some o → h'.get? b = some o

theorem Gw.keeps {w : World} {h h' : Heap} (x : Gw w h) (k : Kp h h') : Gw w h' :=
  ⟨x.K.keeps k, x.g.imp fun _ e => e.keeps k, x.b.imp fun _ e => ⟨e.1.keeps k, e.2⟩, x.lim.keeps k, x.dig.imp fun _ e => ⟨e.1.keeps k, e.2⟩⟩

theorem kkp {s s' : Shared} (k : Keeps s s') : Kp s.heap s'.heap := by
  obtain ⟨h', tk, rfl, hk⟩ := k; exact hk
theorem krfl {s : Shared} : Keeps s s := ⟨s.heap, s.toks, rfl, fun _ _ e => e⟩
theorem ktrans {s s' s'' : Shared} (a : Keeps s s') (b : Keeps s' s'') : Keeps s s'' := by
  obtain ⟨h', tk, rfl, hk⟩ := a
  obtain ⟨h'', tk', rfl, hk'⟩ := b
  exact ⟨h'', tk', rfl, fun b o e => hk' b o (hk b o e)⟩
theorem ktok {s s' : Shared} (a : Keeps s s') (t : Nat) : Keeps s { s' with toks := t } := by
  obtain ⟨h', tk, rfl, hk⟩ := a
  exact ⟨h', t, rfl, hk⟩

/-- a frame: its names, what it has made -/
structure Fm (s₀ : Shared) (L : Addr) (m : Str → Option Value) (os : List (Addr × Obj)) (s : Shared) : Prop where
  keeps : Keeps s₀ s
  ns : s.heap.Ns L m
  fresh : s₀.heap.objs.size ≤ L
  own : ∀ p ∈ os, s.heap.get? p.1 = some p.2 ∧ s₀.heap.get? p.1 = none ∧ p.1 ≠ L
  nd : (os.map (·.1)).Nodup

section
variable {s₀ s s' : Shared} {L : Addr} {m m' : Str → Option Value} {os : List (Addr × Obj)} {w : World}

theorem Fm.gw (F : Fm s₀ L m os s) (g : Gw w s₀.heap) : Gw w s.heap := g.keeps (kkp F.keeps)
theorem Fm.tok (F : Fm s₀ L m os s) (t : Nat) : Fm s₀ L m os { s with toks := t } := ⟨ktok F.keeps t, F.ns, F.fresh, F.own, F.nd⟩
theorem Fm.kept (F : Fm s₀ L m os s) (k : Keeps s s') : Fm s₀ L m os s' :=
  ⟨ktrans F.keeps k, F.ns.keeps (kkp k), F.fresh, fun p hp => ⟨kkp k _ _ (F.own p hp).1, (F.own p hp).2⟩, F.nd⟩
theorem Fm.set (F : Fm s₀ L m os s) {h' : Heap} {tk : Nat} (hn : h'.Ns L m') (hs : Heap.SameBut L s.heap h') : Fm s₀ L m' os { s with heap := h', toks := tk } := by
  refine ⟨?_, hn, F.fresh, fun p hp => ⟨(hs.2 _ (F.own p hp).2.2).trans (F.own p hp).1, (F.own p hp).2⟩, F.nd⟩
  obtain ⟨h₁, t₁, e, hk⟩ := F.keeps
  refine ⟨h', tk, by rw [e], fun b o eb => (hs.2 b (Nat.ne_of_lt (Nat.lt_of_lt_of_le (Heap.lt_size eb) F.fresh))).trans ?_⟩
  have := hk b o eb
  rw [e]; exact this
theorem Fm.lt (F : Fm s₀ L m os s) {p : Addr × Obj} (hp : p ∈ os) : p.1 < s.heap.objs.size := Heap.lt_size (F.own p hp).1
theorem Fm.ltL (F : Fm s₀ L m os s) : L < s.heap.objs.size := F.ns.lt
theorem Fm.get (F : Fm s₀ L m os s) {a : Addr} {o : Obj} (hp : (a, o) ∈ os) : s.heap.get? a = some o := (F.own _ hp).1
theorem Fm.push (F : Fm s₀ L m os s) (o : Obj) (hf : o.isFreed = false := by rfl) : Fm s₀ L m ((s.heap.objs.size, o) :: os) { s with heap := s.heap.push o } := by
  refine ⟨ktrans F.keeps ⟨_, s.toks, rfl, fun b o' e => Heap.get?_push_of_some _ e⟩, F.ns.push _, F.fresh, fun p hp => ?_, ?_⟩
  · rcases List.mem_cons.mp hp with rfl | hp
    · refine ⟨Heap.get?_push_size _ hf, ?_, Nat.ne_of_gt F.ltL⟩
      exact Heap.get?_none_of_le (Nat.le_of_lt (Nat.lt_of_le_of_lt F.fresh F.ltL))
    · exact ⟨Heap.get?_push_of_some _ (F.own p hp).1, (F.own p hp).2⟩
  · rw [List.map_cons, List.nodup_cons]
    refine ⟨fun hm => ?_, F.nd⟩
    obtain ⟨p, hp, e⟩ := List.mem_map.mp hm
    exact absurd (F.lt hp) (by rw [e]; exact Nat.lt_irrefl _)
theorem Fm.sub (F : Fm s₀ L m os s) {os' : List (Addr × Obj)} (h : os'.Sublist os) : Fm s₀ L m os' s :=
  ⟨F.keeps, F.ns, F.fresh, fun p hp => F.own p (h.subset hp), F.nd.sublist (h.map _)⟩
theorem Fm.perm (F : Fm s₀ L m os s) {os' : List (Addr × Obj)} (h : os'.Perm os) : Fm s₀ L m os' s :=
  ⟨F.keeps, F.ns, F.fresh, fun p hp => F.own p (h.mem_iff.mp hp), (h.map _).nodup_iff.mpr F.nd⟩
/-- the first of the made things is turned -/
theorem Fm.upd {a : Addr} {o o' : Obj} (F : Fm s₀ L m ((a, o) :: os) s) {h' : Heap} {tk : Nat} (e : h'.get? a = some o') (hs : Heap.SameBut a s.heap h') :
    Fm s₀ L m ((a, o') :: os) { s with heap := h', toks := tk } := by
  have ha := F.own (a, o) (.head _)
  have hnd := List.nodup_cons.mp F.nd
  refine ⟨?_, F.ns.sameBut hs (Ne.symm ha.2.2), F.fresh, fun p hp => ?_, F.nd⟩
  · obtain ⟨h₁, t₁, e₁, hk⟩ := F.keeps
    refine ⟨h', tk, by rw [e₁], fun b ob eb => (hs.2 b fun q => ?_).trans ?_⟩
    · rw [q, ha.2.1] at eb; cases eb
    · have := hk b ob eb
      rw [e₁]; exact this
  · rcases List.mem_cons.mp hp with rfl | hp
    · exact ⟨e, ha.2⟩
    · refine ⟨(hs.2 _ fun q => hnd.1 (List.mem_map.mpr ⟨p, hp, q⟩)).trans (F.own p (.tail _ hp)).1, (F.own p (.tail _ hp)).2⟩
end

section
variable {prog : Program} {w : World} {M : Model} {A : Around} {E : Value → Shared → Prop} {s₀ s : Shared} {L : Addr} {m : Str → Option Value} {os : List (Addr × Obj)} {env : Env}

/-- names -/
theorem nmL {x : Str} {pos : Pos} {v : Value} {Q : Value → Shared → Prop} (F : Fm s₀ env.locals m os s) (hv : m x = some v) (h : Q v s)
    (hk : env.scope.kind = .function := by with_unfolding_all rfl) (hl : env.kindOf x = some .local := by with_unfolding_all rfl) (hd : (x == ("__debug__" : Str)) = false := by with_unfolding_all rfl) :
    wpAny M A (eval (.Name x pos) env) Q E s := wpAny_Name (wpAny_loadName_local hk hl F.ns hv h) hd
theorem nmL' {x : Str} {v : Value} {Q : Value → Shared → Prop} (F : Fm s₀ env.locals m os s) (hv : m x = some v) (h : Q v s)
    (hk : env.scope.kind = .function := by with_unfolding_all rfl) (hl : env.kindOf x = some .local := by with_unfolding_all rfl) :
    wpAny M A (loadName env x) Q E s := wpAny_loadName_local hk hl F.ns hv h
theorem nmG {x : Str} {pos : Pos} {v : Value} {Q : Value → Shared → Prop} (g : Gw w s.heap) (e : nsIn (KP w) mainGlobals x = some (some v)) (h : Q v s)
    (hk : env.scope.kind = .function := by with_unfolding_all rfl) (hx : env.kindOf x = some .globalImplicit := by with_unfolding_all rfl) (hg : env.globals = mainGlobals := by with_unfolding_all rfl) (hd : (x == ("__debug__" : Str)) = false := by with_unfolding_all rfl) :
    wpAny M A (eval (.Name x pos) env) Q E s := by
  obtain ⟨mg, hm⟩ := g.g
  exact Calls.Name_function_global hk hx (Calls.loadGlobal_global (hg ▸ hm) (mg_of g.K hm e) h) hd
theorem nmB {x : Str} {pos : Pos} {v : Value} {Q : Value → Shared → Prop} (g : Gw w s.heap) (e : nsIn (KP w) mainGlobals x = some none) (hv : bootBuiltins x = some v) (h : Q v s)
    (hn : x ≠ "__name__" := by decide) (hk : env.scope.kind = .function := by with_unfolding_all rfl) (hx : env.kindOf x = some .globalImplicit := by with_unfolding_all rfl) (hg : env.globals = mainGlobals := by with_unfolding_all rfl) (hb : env.builtins = builtinsNs := by with_unfolding_all rfl)
    (hd : (x == ("__debug__" : Str)) = false := by with_unfolding_all rfl) :
    wpAny M A (eval (.Name x pos) env) Q E s := by
  obtain ⟨mg, hm⟩ := g.g
  obtain ⟨mb, hmb, hbb⟩ := g.b
  exact Calls.Name_function_global hk hx (Calls.loadGlobal_builtin (hg ▸ hm) (mg_none_of g.K hm e) (hb ▸ hmb) ((hbb x hn).trans hv) h) hd
theorem stL {x : Str} {v : Value} {Q : Unit → Shared → Prop} (F : Fm s₀ env.locals m os s)
    (h : ∀ s', Fm s₀ env.locals (fun y => if y = x then some v else m y) os s' → Q () s')
    (hk : env.scope.kind = .function := by with_unfolding_all rfl) (hl : env.kindOf x = some .local := by with_unfolding_all rfl) : wpAny M A (storeName env x v) Q E s :=
  wpAny_storeName_local hl F.ns (fun _ hn hs => h _ (F.set hn hs)) (by rw [hk]; rfl)
end

/-- the call of a def of the top's -/
theorem callDef {w : World} {prog : Program} {A : Around} {s : Shared} {Q E : Value → Shared → Prop} {f : Addr} {vals : List Value} {kws : List (Str × Value)} {fd : FuncData} {o : Obj} {body : List Stmt} {binds : List (Str × Value)}
    (g : Gw w s.heap) (ho : (KP w).lookup f = some o) (hdata : o.data = .func fd) (hcd : codeIn (KP w) fd.code fd.qualname = true) (hbody : fd.body = .stmts body)
    (hroom : A.depth < recursionLimit) (hbind : BindsTo s fd ⟨vals, kws⟩ binds) (hcell : ∀ x ∈ fd.scope.names, x.2 ≠ .cell) (hloc : ∀ x ∈ binds, fd.scope.names.lookup x.1 = some .local)
    (h : ∀ A' s₁, A' = A.deeper (callEnv fd s.heap.objs.size f) → A'.handled = A.handled → A'.depth = A.depth + 1 → A'.units = A.units + 3 → s.toks + binds.length ≤ s₁.toks → Fm s s.heap.objs.size (fun x => binds.reverse.lookup x) [] s₁ →
      wpAny (model prog w) A' (execs body (callEnv fd s.heap.objs.size f)) (fun fl s' => Q (match fl with | .ret v => v | _ => .none) s') (fun _ _ => False) s₁)
    (hco : fd.scope.isCoroutine = false := by with_unfolding_all rfl) (hgen : fd.scope.isGenerator = false := by with_unfolding_all rfl) (hk : fd.scope.kind = .function := by with_unfolding_all rfl) :
    wpAny (model prog w) A (call (.ref f) vals kws) Q E s := by
  refine wpAny_call (codeAny_call_def hroom (g.K _ _ ho) hdata g.lim (codeRec_of g.K hcd) hbody hbind hcell hloc (fun h₀ hn hk => ?_) hco hgen hk)
  refine wpAny_mono (h _ _ rfl rfl rfl rfl (Nat.le_refl _) ⟨⟨h₀, _, rfl, hk⟩, hn, Nat.le_refl _, (fun p hp => by cases hp), List.nodup_nil⟩) (fun fl s' q => ?_) fun _ _ q => q.elim
  exact q

end
end Mine
set_option maxHeartbeats 4000000
namespace Mine
noncomputable section

section
variable {prog : Program} {w : World} {M : Model} {A : Around} {E : Value → Shared → Prop} {s₀ s : Shared} {L : Addr} {m : Str → Option Value} {os : List (Addr × Obj)} {env : Env}

theorem Fm.add {a : Addr} {o : Obj} (F : Fm s₀ L m os s) (e : s.heap.get? a = some o) (h1 : s₀.heap.get? a = none) (h2 : a ≠ L) (h3 : a ∉ os.map (·.1)) : Fm s₀ L m ((a, o) :: os) s :=
  ⟨F.keeps, F.ns, F.fresh, fun p hp => by rcases List.mem_cons.mp hp with rfl | hp; exact ⟨e, h1, h2⟩; exact F.own p hp, by rw [List.map_cons, List.nodup_cons]; exact ⟨h3, F.nd⟩⟩
theorem Fm.drop1 {p : Addr × Obj} (F : Fm s₀ L m (p :: os) s) : Fm s₀ L m os s := F.sub (List.sublist_cons_self _ _)
/-- a thing that is none of the frame's own turns -/
theorem Fm.off {I : Addr} (F : Fm s₀ L m os s) (h1 : s₀.heap.get? I = none) (h2 : I ≠ L) (h3 : I ∉ os.map (·.1)) {h' : Heap} {tk : Nat} (k : ∀ b o, b ∉ [I] → s.heap.get? b = some o → h'.get? b = some o) :
    Fm s₀ L m os { s with heap := h', toks := tk } := by
  have ne : ∀ b, b ≠ I → b ∉ [I] := fun b hb hm => hb (List.mem_singleton.mp hm)
  refine ⟨?_, F.ns.at' fun o e => k _ o (ne _ (Ne.symm h2)) e, F.fresh, fun p hp => ⟨k _ _ (ne _ fun q => h3 (List.mem_map.mpr ⟨p, hp, q⟩)) (F.own p hp).1, (F.own p hp).2⟩, F.nd⟩
  obtain ⟨h₁, t₁, e, hk⟩ := F.keeps
  refine ⟨h', tk, by rw [e], fun b o eb => k b o (ne _ fun q => by rw [q, h1] at eb; cases eb) ?_⟩
  have := hk b o eb
  rw [e]; exact this

/-- a display of written ints -/
inductive CInts : List PySem.Expr → List Int → Prop
  | nil : CInts [] []
  | cons {i : Int} {k : Nat} {p : Pos} {r : List PySem.Expr} {ns : List Int} : CInts r ns → CInts (.Constant (.int i) k p :: r) (i :: ns)
inductive CStrs : List PySem.Expr → List Str → Prop
  | nil : CStrs [] []
  | cons {i : Str} {k : Nat} {p : Pos} {r : List PySem.Expr} {ns : List Str} : CStrs r ns → CStrs (.Constant (.str i) k p :: r) (i :: ns)
theorem display_ints {pos : Pos} {elts : List PySem.Expr} {ns : List Int} {Q : List Value → Shared → Prop} (c : CInts elts ns)
    (h : ∀ vs tk, IntsAre vs ns → Q vs { s with toks := tk }) : wpAny M A (spliced (backTo pos (starEach elts env))) Q E s := by
  induction c generalizing s Q with
  | nil => exact wpAny_items_nil (h [] s.toks .nil)
  | cons c ih => exact wpAny_items_cons (wpAny_Constant_int (ih fun vs tk hv => h _ tk (.cons _ _ hv)))
theorem display_strs {pos : Pos} {elts : List PySem.Expr} {ns : List Str} {Q : List Value → Shared → Prop} (c : CStrs elts ns)
    (h : ∀ vs tk, StrsAre vs ns → Q vs { s with toks := tk }) : wpAny M A (spliced (backTo pos (starEach elts env))) Q E s := by
  induction c generalizing s Q with
  | nil => exact wpAny_items_nil (h [] s.toks .nil)
  | cons c ih => exact wpAny_items_cons (wpAny_Constant_str (ih fun vs tk hv => h _ tk (.cons _ _ hv)))

abbrev listO (vs : List Value) (n : Nat := 0) : Obj := { cls := .type "list", data := .seq vs.toArray n }
theorem isList_of {h : Heap} {l : Addr} {vs : List Value} {n : Nat} (e : h.get? l = some (listO vs n)) : h.IsList l vs.toArray := ⟨_, e, rfl, n, rfl⟩

/-- a new list is the frame's own -/
theorem mkList {vs : List Value} {Q : Value → Shared → Prop} (F : Fm s₀ L m os s) (hsz : vs.length ≤ 1000)
    (h : ∀ l s', Fm s₀ L m ((l, listO vs) :: os) s' → Q (.ref l) s') : wpAny M A (newList vs) Q E s := by
  refine wpAny_newObj_type (h _ _ (F.push _)) ?_
  show vs.toArray.size ≤ sizeLine
  rw [sizeLine_eq, List.size_toArray]; omega

/-- an item of a list -/
theorem subL {value slice : PySem.Expr} {l : Addr} {vs : List Value} {k : Int} {u : Tok} {v : Value} {Q : Value → Shared → Prop}
    (hl : s.heap.IsList l vs.toArray) (h0 : 0 ≤ k) (hhi : k < 2 ^ 63) (hx : vs[k.toNat]? = some v) (h : Q v s)
    (hs : subscripted slice false (.ref l) (.int k u) = operate [.ref l, .int k u] (getItem (.ref l) (.int k u)) := by with_unfolding_all rfl) :
    wpAny (model prog w) A (subscriptTail value slice (.ref l) (.int k u)) Q E s :=
  tail_any hl.typeIs slot_list_getitem.lookup (wpAny_getItem_list hl h0 hhi (by simpa using hx) h) hs

/-- a loop over what walks, its iterator the one thing that turns -/
theorem codeFor {R : Result → Shared → Prop} {target : PySem.Expr} {body orelse : List Stmt} {I : Addr} {fp : List Addr} {n : Nat} {P : Nat → Value → Prop} {St : Nat → Heap → Prop} {fx : List (Addr × Obj)}
    (W : Walks prog w A I fp [I] n P St) (J : Nat → (Str → Option Value) → List (Addr × Obj) → Prop)
    (F : Fm s₀ env.locals m (fx ++ os) s) (hI : s₀.heap.get? I = none) (hIL : I ≠ env.locals) (hIo : I ∉ (fx ++ os).map (·.1))
    (hfp : ∀ b ∈ fp, b = I ∨ (∃ o, s₀.heap.get? b = some o) ∨ ∃ o, (b, o) ∈ fx) (hex : ∀ i h, St i h → ∃ o, h.get? I = some o)
    (hst : St 0 s.heap) (h0 : J 0 m os)
    (turn : ∀ i v m₁ os₁ s₁ o, i < n → P i v → J i m₁ os₁ → Fm s₀ env.locals m₁ ((I, o) :: (fx ++ os₁)) s₁ →
      wpAny (model prog w) A (assign target env v) (fun _ s₂ => wpAny (model prog w) A (execs body env) (fun f s₃ => match f with
        | .next | .cont => ∃ m₂ os₂, J (i + 1) m₂ os₂ ∧ Fm s₀ env.locals m₂ ((I, o) :: (fx ++ os₂)) s₃
        | .brk => R (.ok .next) s₃
        | .ret v => R (.ok (.ret v)) s₃) (fun _ _ => False) s₂) (fun _ _ => False) s₁)
    (done : ∀ m₁ os₁ s₁, J n m₁ os₁ → Fm s₀ env.locals m₁ (fx ++ os₁) s₁ → wpAny (model prog w) A (execs orelse env) (fun f s₃ => R (.ok f) s₃) (fun _ _ => False) s₁)
    (ht : ∀ v, letOwnedTupleGo target (.ref I) v = pure () := by intro _; rfl) :
    codeAny (model prog w) A (.forLoop target (.ref I) body orelse env) R s := by
  refine codeAny_forLoop_any
    (fun k s' => ∃ m' os' i, Fm s₀ env.locals m' (fx ++ os') s' ∧ I ∉ (fx ++ os').map (·.1) ∧ St i s'.heap ∧ J i m' os' ∧ i ≤ n ∧ k = n + 1 - i) ?_ (n + 1)
    ⟨m, os, 0, F, hIo, hst, h0, Nat.zero_le _, rfl⟩
  rintro k s' ⟨m', os', i, F', hIo', hst', hJ, hi, rfl⟩
  by_cases hlt : i < n
  · refine W.item i _ _ _ hlt hst' fun v h₁ tk₁ hP hst₁ hk₁ => ?_
    have F₁ : Fm s₀ env.locals m' (fx ++ os') { s' with heap := h₁, toks := tk₁ } := F'.off hI hIL hIo' hk₁
    obtain ⟨o, ho⟩ := hex _ _ hst₁
    have F₂ := F₁.add (a := I) (o := o) ho hI hIL hIo'
    refine wpAny_of_eq (ht v) ?_
    refine wpAny_mono (turn i v m' os' _ o hlt hP hJ F₂) (fun _ s₂ h₂ => wpAny_mono h₂ (fun f s₃ h₃ => ?_) fun _ _ q => q.elim) fun _ _ q => q.elim
    have fin : (∃ m₂ os₂, J (i + 1) m₂ os₂ ∧ Fm s₀ env.locals m₂ ((I, o) :: (fx ++ os₂)) s₃) → ∃ k', k' < n + 1 - i ∧ ∃ m' os' i, Fm s₀ env.locals m' (fx ++ os') s₃ ∧ I ∉ (fx ++ os').map (·.1) ∧ St i s₃.heap ∧ J i m' os' ∧ i ≤ n ∧ k' = n + 1 - i := by
      rintro ⟨m₂, os₂, hJ₂, F₃⟩
      refine ⟨n + 1 - (i + 1), by omega, m₂, os₂, i + 1, F₃.drop1, ?_, ?_, hJ₂, hlt, rfl⟩
      · have := F₃.nd
        rw [List.map_cons, List.nodup_cons] at this
        exact this.1
      · refine W.frame _ _ _ hst₁ fun b hb ob e => ?_
        rcases hfp b hb with rfl | ⟨o', ho'⟩ | ⟨o', ho'⟩
        · obtain rfl : o = ob := Option.some.inj (ho.symm.trans e)
          exact F₃.get (.head _)
        · obtain rfl : o' = ob := Option.some.inj ((kkp F₁.keeps b o' ho').symm.trans e)
          exact kkp F₃.keeps b o' ho'
        · obtain rfl : o' = ob := Option.some.inj ((F₁.get (List.mem_append_left _ ho')).symm.trans e)
          exact F₃.get (.tail _ (List.mem_append_left _ ho'))
    cases f with
    | next => exact fin h₃
    | cont => exact fin h₃
    | brk => exact h₃
    | ret v => exact h₃
  · obtain rfl : i = n := by omega
    refine W.done _ _ _ hst' fun h₁ tk₁ hk₁ => ?_
    exact wpAny_mono (done m' os' _ hJ (F'.off hI hIL hIo' hk₁)) (fun _ _ q => q) fun _ _ q => q.elim

theorem Fm.szI (F : Fm s₀ L m os s) : s₀.heap.get? s.heap.objs.size = none ∧ s.heap.objs.size ≠ L ∧ s.heap.objs.size ∉ os.map (·.1) := by
  refine ⟨Heap.get?_none_of_le (Nat.le_of_lt (Nat.lt_of_le_of_lt F.fresh F.ltL)), Nat.ne_of_gt F.ltL, fun hm => ?_⟩
  obtain ⟨p, hp, e⟩ := List.mem_map.mp hm
  exact absurd (F.lt hp) (by rw [e]; exact Nat.lt_irrefl _)

theorem forList {target : PySem.Expr} {body orelse : List Stmt} {l : Addr} {items : Array Value} {fx : List (Addr × Obj)} {R : Result → Shared → Prop}
    (hh : A.handled = none) (J : Nat → (Str → Option Value) → List (Addr × Obj) → Prop)
    (F : Fm s₀ env.locals m (fx ++ os) s) (hl : s.heap.IsList l items) (hlk : (∃ o, s₀.heap.get? l = some o) ∨ ∃ o, (l, o) ∈ fx) (h0 : J 0 m os)
    (turn : ∀ i v m₁ os₁ s₁ p, items[i]? = some v → J i m₁ os₁ → Fm s₀ env.locals m₁ (p :: (fx ++ os₁)) s₁ →
      wpAny (model prog w) A (assign target env v) (fun _ s₂ => wpAny (model prog w) A (execs body env) (fun f s₃ => match f with
        | .next | .cont => ∃ m₂ os₂, J (i + 1) m₂ os₂ ∧ Fm s₀ env.locals m₂ (p :: (fx ++ os₂)) s₃
        | .brk => R (.ok .next) s₃
        | .ret v => R (.ok (.ret v)) s₃) (fun _ _ => False) s₂) (fun _ _ => False) s₁)
    (done : ∀ m₁ os₁ s₁, J items.size m₁ os₁ → Fm s₀ env.locals m₁ (fx ++ os₁) s₁ → wpAny (model prog w) A (execs orelse env) (fun f s₃ => R (.ok f) s₃) (fun _ _ => False) s₁)
    (ht : ∀ it v, letOwnedTupleGo target it v = pure () := by intro _ _; rfl) :
    wpAny (model prog w) A (pyIter (.ref l)) (fun it s₂ => codeAny (model prog w) A (.forLoop target it body orelse env) R s₂) E s := by
  obtain ⟨h1, h2, h3⟩ := F.szI
  obtain ⟨ol, hol, hol'⟩ := id hl
  have hlt : l ≠ s.heap.objs.size := Nat.ne_of_lt (Heap.lt_size hol)
  refine wpAny_pyIter_list hl ?_
  refine codeFor (Walks.list hh _ l hlt items) J (F.push _).drop1 h1 h2 h3 ?_ ?_ ⟨⟨_, Heap.get?_push_size _ rfl, rfl, rfl⟩, hl.push _⟩ h0 (fun i v m₁ os₁ s₁ o hi hP hJ F₁ => ?_) done (ht _)
  · intro b hb
    rcases List.mem_cons.mp hb with rfl | hb
    · exact .inl rfl
    · obtain rfl := List.mem_singleton.mp hb
      exact .inr hlk
  · rintro i h ⟨⟨o, ho, _⟩, _⟩; exact ⟨o, ho⟩
  · exact turn i v m₁ os₁ s₁ _ hP hJ F₁
end
end
end Mine
set_option maxHeartbeats 4000000
namespace Mine
noncomputable section
abbrev pr : Program := PySem.Challenge.pw_oc0137_01

section
variable {prog : Program} {w : World} {M : Model} {A : Around} {E : Value → Shared → Prop} {s₀ s : Shared} {L : Addr} {m : Str → Option Value} {os : List (Addr × Obj)} {env : Env} {Q : Value → Shared → Prop}

theorem callNm {x : Str} {p pos : Pos} {args : List PySem.Expr} (h : wpAny M A (eval (.Name x p) env) (fun f s₁ => wpAny M A (callWith pos f [] (backTo pos (starEach args env)) []) Q E s₁) E s) :
    wpAny M A (eval (.Call (.Name x p) args [] pos) env) Q E s := by
  show wpAny M A (do callWith pos (← eval (.Name x p) env) [] (backTo pos (starEach args env)) (backToKw pos (keywordEach [] env))) Q E s
  exact wpAny_bind h

theorem callB1 {x : Str} {p pos : Pos} {e : PySem.Expr} {id : String} (g : Gw w s.heap) (hm : nsIn (KP w) mainGlobals x = some none) (hv : bootBuiltins x = some (.builtin id))
    (h : wpAny M A (eval e env) (fun v s₁ => wpAny M A (call (.builtin id) [v]) Q E s₁) E s)
    (hn : x ≠ "__name__" := by decide) (hk : env.scope.kind = .function := by with_unfolding_all rfl) (hx : env.kindOf x = some .globalImplicit := by with_unfolding_all rfl) (hg : env.globals = mainGlobals := by with_unfolding_all rfl) (hb : env.builtins = builtinsNs := by with_unfolding_all rfl)
    (hd : (x == ("__debug__" : Str)) = false := by with_unfolding_all rfl) (hs : backTo pos (starEach [e] env) = [(false, eval e env)] := by with_unfolding_all rfl) :
    wpAny M A (eval (.Call (.Name x p) [e] [] pos) env) Q E s := by
  refine callNm (nmB g hm hv ?_ hn hk hx hg hb hd)
  rw [hs]
  exact Calls.callWith_builtin rfl (Calls.evalArgs_plain (Calls.spliced_cons (wpAny_mono h (fun v s₁ h₁ => Calls.spliced_nil h₁) fun _ _ e => e)))
theorem callB2 {x : Str} {p pos : Pos} {e e2 : PySem.Expr} {id : String} (g : Gw w s.heap) (hm : nsIn (KP w) mainGlobals x = some none) (hv : bootBuiltins x = some (.builtin id))
    (h : wpAny M A (eval e env) (fun v s₁ => wpAny M A (eval e2 env) (fun v2 s₂ => wpAny M A (call (.builtin id) [v, v2]) Q E s₂) E s₁) E s)
    (hn : x ≠ "__name__" := by decide) (hk : env.scope.kind = .function := by with_unfolding_all rfl) (hx : env.kindOf x = some .globalImplicit := by with_unfolding_all rfl) (hg : env.globals = mainGlobals := by with_unfolding_all rfl) (hb : env.builtins = builtinsNs := by with_unfolding_all rfl)
    (hd : (x == ("__debug__" : Str)) = false := by with_unfolding_all rfl) (hs : backTo pos (starEach [e, e2] env) = [(false, eval e env), (false, eval e2 env)] := by with_unfolding_all rfl) :
    wpAny M A (eval (.Call (.Name x p) [e, e2] [] pos) env) Q E s := by
  refine callNm (nmB g hm hv ?_ hn hk hx hg hb hd)
  rw [hs]
  exact Calls.callWith_builtin rfl (Calls.evalArgs_plain (Calls.spliced_cons (wpAny_mono h (fun v s₁ h₁ => Calls.spliced_cons (wpAny_mono h₁ (fun v2 s₂ h₂ => Calls.spliced_nil h₂) fun _ _ e => e)) fun _ _ e => e)))
theorem callT1 {x : Str} {p pos : Pos} {e : PySem.Expr} {id : String} (g : Gw w s.heap) (hm : nsIn (KP w) mainGlobals x = some none) (hv : bootBuiltins x = some (.type id))
    (h : wpAny M A (eval e env) (fun v s₁ => wpAny M A (call (.type id) [v]) Q E s₁) E s)
    (hn : x ≠ "__name__" := by decide) (hk : env.scope.kind = .function := by with_unfolding_all rfl) (hx : env.kindOf x = some .globalImplicit := by with_unfolding_all rfl) (hg : env.globals = mainGlobals := by with_unfolding_all rfl) (hb : env.builtins = builtinsNs := by with_unfolding_all rfl)
    (hd : (x == ("__debug__" : Str)) = false := by with_unfolding_all rfl) (hs : backTo pos (starEach [e] env) = [(false, eval e env)] := by with_unfolding_all rfl) :
    wpAny M A (eval (.Call (.Name x p) [e] [] pos) env) Q E s := by
  refine callNm (nmB g hm hv ?_ hn hk hx hg hb hd)
  rw [hs]
  exact PySem.callWith_type rfl (Calls.evalArgs_plain (Calls.spliced_cons (wpAny_mono h (fun v s₁ h₁ => Calls.spliced_nil h₁) fun _ _ e => e)))
theorem callT2 {x : Str} {p pos : Pos} {e e2 : PySem.Expr} {id : String} (g : Gw w s.heap) (hm : nsIn (KP w) mainGlobals x = some none) (hv : bootBuiltins x = some (.type id))
    (h : wpAny M A (eval e env) (fun v s₁ => wpAny M A (eval e2 env) (fun v2 s₂ => wpAny M A (call (.type id) [v, v2]) Q E s₂) E s₁) E s)
    (hn : x ≠ "__name__" := by decide) (hk : env.scope.kind = .function := by with_unfolding_all rfl) (hx : env.kindOf x = some .globalImplicit := by with_unfolding_all rfl) (hg : env.globals = mainGlobals := by with_unfolding_all rfl) (hb : env.builtins = builtinsNs := by with_unfolding_all rfl)
    (hd : (x == ("__debug__" : Str)) = false := by with_unfolding_all rfl) (hs : backTo pos (starEach [e, e2] env) = [(false, eval e env), (false, eval e2 env)] := by with_unfolding_all rfl) :
    wpAny M A (eval (.Call (.Name x p) [e, e2] [] pos) env) Q E s := by
  refine callNm (nmB g hm hv ?_ hn hk hx hg hb hd)
  rw [hs]
  exact PySem.callWith_type rfl (Calls.evalArgs_plain (Calls.spliced_cons (wpAny_mono h (fun v s₁ h₁ => Calls.spliced_cons (wpAny_mono h₁ (fun v2 s₂ h₂ => Calls.spliced_nil h₂) fun _ _ e => e)) fun _ _ e => e)))
/-- a def of the top's, called by its name -/
theorem callK1 {x : Str} {p pos : Pos} {e : PySem.Expr} {f : Addr} {o : Obj} {fd : FuncData} (g : Gw w s.heap) (hm : nsIn (KP w) mainGlobals x = some (some (.ref f))) (hf : (KP w).lookup f = some o) (hd' : o.data = .func fd)
    (h : wpAny M A (eval e env) (fun v s₁ => Gw w s₁.heap ∧ wpAny M A (call (.ref f) [v]) Q E s₁) E s)
    (hk : env.scope.kind = .function := by with_unfolding_all rfl) (hx : env.kindOf x = some .globalImplicit := by with_unfolding_all rfl) (hg : env.globals = mainGlobals := by with_unfolding_all rfl)
    (hd : (x == ("__debug__" : Str)) = false := by with_unfolding_all rfl) (hs : backTo pos (starEach [e] env) = [(false, eval e env)] := by with_unfolding_all rfl) :
    wpAny M A (eval (.Call (.Name x p) [e] [] pos) env) Q E s := by
  refine callNm (nmG g hm ?_ hk hx hg hd)
  rw [hs]
  exact Calls.callWith_function (o := o) (fd := fd) (Calls.evalArgs_plain (Calls.spliced_cons (wpAny_mono h (fun v s₁ h₁ => Calls.spliced_nil ⟨⟨h₁.1.K _ _ hf, hd'⟩, h₁.2⟩) fun _ _ e => e)))
theorem callK2 {x : Str} {p pos : Pos} {e e2 : PySem.Expr} {f : Addr} {o : Obj} {fd : FuncData} (g : Gw w s.heap) (hm : nsIn (KP w) mainGlobals x = some (some (.ref f))) (hf : (KP w).lookup f = some o) (hd' : o.data = .func fd)
    (h : wpAny M A (eval e env) (fun v s₁ => wpAny M A (eval e2 env) (fun v2 s₂ => Gw w s₂.heap ∧ wpAny M A (call (.ref f) [v, v2]) Q E s₂) E s₁) E s)
    (hk : env.scope.kind = .function := by with_unfolding_all rfl) (hx : env.kindOf x = some .globalImplicit := by with_unfolding_all rfl) (hg : env.globals = mainGlobals := by with_unfolding_all rfl)
    (hd : (x == ("__debug__" : Str)) = false := by with_unfolding_all rfl) (hs : backTo pos (starEach [e, e2] env) = [(false, eval e env), (false, eval e2 env)] := by with_unfolding_all rfl) :
    wpAny M A (eval (.Call (.Name x p) [e, e2] [] pos) env) Q E s := by
  refine callNm (nmG g hm ?_ hk hx hg hd)
  rw [hs]
  exact Calls.callWith_function (o := o) (fd := fd) (Calls.evalArgs_plain (Calls.spliced_cons (wpAny_mono h (fun v s₁ h₁ => Calls.spliced_cons (wpAny_mono h₁ (fun v2 s₂ h₂ => Calls.spliced_nil ⟨⟨h₂.1.K _ _ hf, hd'⟩, h₂.2⟩) fun _ _ e => e)) fun _ _ e => e)))

/-- range(n), n written and small: the range and its iterator are the frame's own, dropped again -/
theorem forRange {target : PySem.Expr} {body orelse : List Stmt} {r : Addr} {n : Nat} {t u v : Tok} {fx : List (Addr × Obj)} {R : Result → Shared → Prop}
    (hh : A.handled = none) (J : Nat → (Str → Option Value) → List (Addr × Obj) → Prop)
    (F : Fm s₀ env.locals m (fx ++ os) s) (hr : IsRange s.heap r 0 n 1 t u v) (hn : n < 1000) (h0 : J 0 m os)
    (turn : ∀ i tk m₁ os₁ s₁ p, i < n → J i m₁ os₁ → Fm s₀ env.locals m₁ (p :: (fx ++ os₁)) s₁ →
      wpAny (model prog w) A (assign target env (.int (i : Nat) tk)) (fun _ s₂ => wpAny (model prog w) A (execs body env) (fun f s₃ => match f with
        | .next | .cont => ∃ m₂ os₂, J (i + 1) m₂ os₂ ∧ Fm s₀ env.locals m₂ (p :: (fx ++ os₂)) s₃
        | .brk => R (.ok .next) s₃
        | .ret v => R (.ok (.ret v)) s₃) (fun _ _ => False) s₂) (fun _ _ => False) s₁)
    (done : ∀ m₁ os₁ s₁, J n m₁ os₁ → Fm s₀ env.locals m₁ (fx ++ os₁) s₁ → wpAny (model prog w) A (execs orelse env) (fun f s₃ => R (.ok f) s₃) (fun _ _ => False) s₁)
    (ht : ∀ it v, letOwnedTupleGo target it v = pure () := by intro _ _; rfl) :
    wpAny (model prog w) A (pyIter (.ref r)) (fun it s₂ => codeAny (model prog w) A (.forLoop target it body orelse env) R s₂) E s := by
  obtain ⟨h1, h2, h3⟩ := F.szI
  have hsz : Builtin.Range.rangeSize 0 n 1 = n := by
    unfold Builtin.Range.rangeSize
    simp
    try omega
  have hsmall : Builtin.Range.small 0 n 1 = true := by
    unfold Builtin.Range.small
    rw [hsz]
    simp [Builtin.Range.rangeFitsLong]
    omega
  refine wpAny_pyIter_range hr hsmall ?_
  rw [hsz]
  refine codeFor (St := fun i h => IsRangeIter h s.heap.objs.size (0 + (i : Nat) * 1) ((n : Int) - (i : Nat)) 1) (Walks.range hh _ 0 1 n) J (F.push _).drop1 h1 h2 h3 ?_ ?_ ?_ h0 (fun i v m₁ os₁ s₁ o hi hP hJ F₁ => ?_) done (ht _)
  · intro b hb
    exact .inl (List.mem_singleton.mp hb)
  · rintro i h ho; exact ⟨_, ho⟩
  · have := Heap.get?_push_size s.heap (o := { cls := .type "range_iterator", data := .fields #[rawInt 0, rawInt n, rawInt 1] }) rfl
    simpa using this
  · obtain ⟨t', rfl⟩ := hP
    have e : (0 + (i : Int) * 1) = ((i : Nat) : Int) := by omega
    rw [e]
    exact turn i t' m₁ os₁ s₁ _ hi hJ F₁
end
end
end Mine
set_option maxHeartbeats 4000000
namespace Mine
noncomputable section

section
variable {prog : Program} {w : World} {M : Model} {A : Around} {E : Value → Shared → Prop} {s₀ s : Shared} {L : Addr} {m : Str → Option Value} {os : List (Addr × Obj)} {env : Env} {Q : Value → Shared → Prop} {a b : Int} {t u : Tok}

theorem Fm.hd {a : Addr} {o : Obj} (F : Fm s₀ L m ((a, o) :: os) s) : s.heap.get? a = some o := F.get (List.mem_cons_self ..)
theorem Fm.hd2 {p : Addr × Obj} {a : Addr} {o : Obj} (F : Fm s₀ L m (p :: (a, o) :: os) s) : s.heap.get? a = some o := F.drop1.hd
/-- constants -/
theorem cI {i : Int} {k : Nat} {pos : Pos} (F : Fm s₀ L m os s) (h : ∀ t s', Fm s₀ L m os s' → Q (.int i t) s') : wpAny M A (eval (.Constant (.int i) k pos) env) Q E s := wpAny_Constant_int (h _ _ (F.tok _))
theorem cS {i : Str} {k : Nat} {pos : Pos} (F : Fm s₀ L m os s) (h : ∀ t s', Fm s₀ L m os s' → Q (.str i t) s') : wpAny M A (eval (.Constant (.str i) k pos) env) Q E s := wpAny_Constant_str (h _ _ (F.tok _))
theorem binO {l r : PySem.Expr} {op : Operator} {pos : Pos} (h : wpAny M A (eval l env) (fun a s₁ => wpAny M A (eval r env) (fun b s₂ => wpAny M A (binaryOp op a b) Q E s₂) E s₁) E s) :
    wpAny M A (eval (.BinOp l op r pos) env) Q E s := wpAny_BinOp h
/-- statements -/
theorem asgN {x : Str} {pos' pos : Pos} {value : PySem.Expr} {rest : List Stmt} {Q : Flow → Shared → Prop}
    (h : wpAny M A (eval value env) (fun v s₁ => wpAny M A (storeName env x v) (fun _ s₂ => wpAny M A (execs rest env) Q E s₂) E s₁) E s)
    (hs : swapsWith value (some (.Name x pos')) pos.line env = pure false := by with_unfolding_all rfl) :
    wpAny M A (execs (.Assign [.Name x pos'] value pos :: rest) env) Q E s := wpAny_execs_cons (wpAny_Assign_Name h hs)
theorem augN {x : Str} {pos' pos : Pos} {op : Operator} {value : PySem.Expr} {rest : List Stmt} {Q : Flow → Shared → Prop}
    (h : wpAny M A (loadName env x) (fun old s₁ => wpAny M A (eval value env) (fun v s₂ => wpAny M A (inplaceOp op old v)
      (fun r s₃ => wpAny M A (storeName env x r) (fun _ s₄ => wpAny M A (execs rest env) Q E s₄) E s₃) E s₂) E s₁) E s) :
    wpAny M A (execs (.AugAssign (.Name x pos') op value pos :: rest) env) Q E s := wpAny_execs_cons (wpAny_AugAssign_Name h)
theorem retS {e : PySem.Expr} {pos : Pos} {rest : List Stmt} {Q : Flow → Shared → Prop} (h : wpAny M A (eval e env) (fun v => Q (.ret v)) E s) : wpAny M A (execs (.Return (some e) pos :: rest) env) Q E s :=
  wpAny_execs_cons (wpAny_Return_some h)
theorem forS {target iter : PySem.Expr} {body orelse rest : List Stmt} {pos : Pos} {Q : Flow → Shared → Prop}
    (h : wpAny M A (eval iter env) (fun x s₁ => wpAny M A (pyIter x) (fun it s₂ =>
      codeAny M A (.forLoop target it body orelse env) (fun r s' => match r with | .ok f => (match f with | .next => wpAny M A (execs rest env) Q E s' | f => Q f s') | .error e => cameBackBy M A env E e s') s₂) E s₁) E s)
    (hs : ∀ x, foldedSetIterable iter env x = pure x := by intro _; with_unfolding_all rfl) :
    wpAny M A (execs (.For target iter body orelse pos :: rest) env) Q E s := wpAny_execs_cons (wpAny_For h hs)
theorem ifS {test : PySem.Expr} {body orelse rest : List Stmt} {pos : Pos} {Q : Flow → Shared → Prop}
    (h : wpAny M A (isTrue test env (eval test env)) (fun b s₂ => if b then wpAny M A (execs body env) (fun f s' => match f with | .next => wpAny M A (execs rest env) Q E s' | f => Q f s') E s₂
      else wpAny M A (execs orelse env) (fun f s' => match f with | .next => wpAny M A (execs rest env) Q E s' | f => Q f s') E s₂) E s) :
    wpAny M A (execs (.If test body orelse pos :: rest) env) Q E s := wpAny_execs_cons (wpAny_If h)
theorem isTrueC {l r : PySem.Expr} {op : CmpOp} {pos : Pos} {whole : Sem Value} {Q : Bool → Shared → Prop}
    (h : wpAny M A (eval l env) (fun a s₁ => wpAny M A (eval r env) (fun b s₂ => wpAny M A (compareOp op a b)
      (fun c s₃ => wpAny M A (truthy c) Q E s₃) E s₂) E s₁) E s)
    (hm : behindInMarks op r = false := by with_unfolding_all rfl) : wpAny M A (isTrue (.Compare l [op] [r] pos) env whole) Q E s := wpAny_isTrue_Compare1 h hm
theorem cmpE {l r : PySem.Expr} {op : CmpOp} {pos : Pos}
    (h : wpAny M A (eval l env) (fun a s₁ => wpAny M A (eval r env) (fun b s₂ => wpAny M A (compareOp op a b) Q E s₂) E s₁) E s)
    (hm : behindInMarks op r = false := by with_unfolding_all rfl) : wpAny M A (eval (.Compare l [op] [r] pos) env) Q E s := wpAny_Compare1 h hm
theorem trB {b : Bool} {Q : Bool → Shared → Prop} (h : Q b s) : wpAny M A (truthy (.bool b)) Q E s := wpAny_truthy_bool h
/-- ints -/
theorem iAdd (F : Fm s₀ L m os s) (h : ∀ t s', Fm s₀ L m os s' → Q (.int (a + b) t) s') : wpAny (model prog w) A (binaryOp .Add (.int a t) (.int b u)) Q E s := add_int (h _ _ (F.tok _))
theorem iIAdd (F : Fm s₀ L m os s) (h : ∀ t s', Fm s₀ L m os s' → Q (.int (a + b) t) s') : wpAny (model prog w) A (inplaceOp .Add (.int a t) (.int b u)) Q E s := iadd_int (h _ _ (F.tok _))
theorem iSub (F : Fm s₀ L m os s) (h : ∀ t s', Fm s₀ L m os s' → Q (.int (a - b) t) s') : wpAny (model prog w) A (binaryOp .Sub (.int a t) (.int b u)) Q E s := sub_int (h _ _ (F.tok _))
theorem iMul (hm : IntMulOk a b) (F : Fm s₀ L m os s) (h : ∀ t s', Fm s₀ L m os s' → Q (.int (a * b) t) s') : wpAny (model prog w) A (binaryOp .Mult (.int a t) (.int b u)) Q E s := mul_int (h _ _ (F.tok _)) hm
theorem iDiv (hb : b ≠ 0) (hb' : b.natAbs < 1073741824) (F : Fm s₀ L m os s) (h : ∀ t s', Fm s₀ L m os s' → Q (.int (a.fdiv b) t) s') : wpAny (model prog w) A (binaryOp .FloorDiv (.int a t) (.int b u)) Q E s := floordiv_int hb (h _ _ (F.tok _)) (.inl (PyProof.noPylong_small hb'))
theorem iMod (hb : b ≠ 0) (F : Fm s₀ L m os s) (h : ∀ t s', Fm s₀ L m os s' → Q (.int (a.fmod b) t) s') : wpAny (model prog w) A (binaryOp .Mod (.int a t) (.int b u)) Q E s := mod_int' hb (h _ _ (F.tok _))
theorem iAnd (F : Fm s₀ L m os s) (h : ∀ t s', Fm s₀ L m os s' → Q (.int (Builtin.bitAnd a b) t) s') : wpAny (model prog w) A (binaryOp .BitAnd (.int a t) (.int b u)) Q E s := and_int (h _ _ (F.tok _))
theorem iPow (hn : 0 ≤ b) (hn2 : b ≤ 1000000) (ha : a.natAbs < 2 ^ 64) (F : Fm s₀ L m os s) (h : ∀ t s', Fm s₀ L m os s' → Q (.int (a ^ b.toNat) t) s') : wpAny (model prog w) A (binaryOp .Pow (.int a t) (.int b u)) Q E s := pow_int_small hn hn2 ha (h _ _ (F.tok _))
theorem mulOk_r (h1 : -(2 ^ 32) < b) (h2 : b < 2 ^ 32) : IntMulOk a b := PySem.IntMulOk.of_right (PySem.intBits_le_64 (by omega) (by omega))
/-- the call range(n) -/
theorem callRange {n : Int} (F : Fm s₀ L m os s) (h : ∀ r t' u' s', Fm s₀ L m os s' → IsRange s'.heap r 0 n 1 t' t u' → Q (.ref r) s') : wpAny (model prog w) A (call (.type "range") [.int n t]) Q E s :=
  call_range_1 (h _ _ _ _ ((F.push _).drop1.tok _) (IsRange.new ..))
/-- a list display of ints -/
theorem dispI {pos : Pos} {elts : List PySem.Expr} {ns : List Int} (F : Fm s₀ L m os s) (c : CInts elts ns) (hn : ns.length ≤ 1000)
    (h : ∀ l vs s', IntsAre vs ns → Fm s₀ L m ((l, listO vs) :: os) s' → Q (.ref l) s') : wpAny M A (eval (.List elts pos) env) Q E s :=
  List_ (display_ints c fun vs tk hv => mkList (F.tok tk) (by rw [hv.length]; exact hn) fun l s' F' => h l vs s' hv F')
theorem dispS {pos : Pos} {elts : List PySem.Expr} {ns : List Str} (F : Fm s₀ L m os s) (c : CStrs elts ns) (hn : ns.length ≤ 1000)
    (h : ∀ l vs s', StrsAre vs ns → Fm s₀ L m ((l, listO vs) :: os) s' → Q (.ref l) s') : wpAny M A (eval (.List elts pos) env) Q E s :=
  List_ (display_strs c fun vs tk hv => mkList (F.tok tk) (by rw [hv.length]; exact hn) fun l s' F' => h l vs s' hv F')
end
end
end Mine
set_option maxHeartbeats 400000
namespace Mine
noncomputable section

/-- a text by its signs -/
def S (l : List Nat) : Str := ⟨l.toArray⟩
theorem S_append (a b : List Nat) : S a ++ S b = S (a ++ b) := by
  show Str.append (S a) (S b) = S (a ++ b)
  simp [S, Str.append]
theorem S_length (a : List Nat) : (S a).length = a.length := by simp [S, Str.length]
theorem S_inj {a b : List Nat} (h : S a = S b) : a = b := by simpa [S] using h
theorem S_toList (a : List Nat) : (S a).cps.toList = a := by simp [S]
theorem S_of (x : Str) : x = S x.cps.toList := by cases x; simp [S]

theorem S_beq (a b : List Nat) : (S a == S b) = (a == b) := by rw [← toList_beq, S_toList, S_toList]
theorem S_bne (a b : List Nat) : (S a != S b) = (a != b) := by rw [← toList_bne, S_toList, S_toList]
inductive CS : List PySem.Expr → List (List Nat) → Prop
  | nil : CS [] []
  | cons {i : Str} {l : List Nat} {k : Nat} {p : Pos} {r : List PySem.Expr} {ns : List (List Nat)} : i = S l → CS r ns → CS (.Constant (.str i) k p :: r) (l :: ns)

section
variable {prog : Program} {w : World} {M : Model} {A : Around} {E : Value → Shared → Prop} {s₀ s : Shared} {L : Addr} {m : Str → Option Value} {os : List (Addr × Obj)} {env : Env} {Q : Value → Shared → Prop} {a b : List Nat} {t u : Tok}

theorem cT {i : Str} {l : List Nat} {k : Nat} {pos : Pos} (e : i = S l) (F : Fm s₀ L m os s) (h : ∀ t s', Fm s₀ L m os s' → Q (.str (S l) t) s') : wpAny M A (eval (.Constant (.str i) k pos) env) Q E s := by
  subst e; exact wpAny_Constant_str (h _ _ (F.tok _))
theorem cTt {i : Str} {l : List Nat} {k : Nat} {pos : Pos} (e : i = S l) (F : Fm s₀ L m os s) (h : ∀ s', s'.toks = s.toks + 1 → Fm s₀ L m os s' → Q (.str (S l) s.toks) s') : wpAny M A (eval (.Constant (.str i) k pos) env) Q E s := by
  subst e; exact wpAny_Constant_str (h _ rfl (F.tok _))
theorem display_T {pos : Pos} {elts : List PySem.Expr} {ns : List (List Nat)} {Q : List Value → Shared → Prop} (c : CS elts ns)
    (h : ∀ vs tk, StrsAre vs (ns.map S) → Q vs { s with toks := tk }) : wpAny M A (spliced (backTo pos (starEach elts env))) Q E s := by
  induction c generalizing s Q with
  | nil => exact wpAny_items_nil (h [] s.toks .nil)
  | cons e c ih => subst e; exact wpAny_items_cons (wpAny_Constant_str (ih fun vs tk hv => h _ tk (.cons _ _ hv)))
theorem dispT {pos : Pos} {elts : List PySem.Expr} {ns : List (List Nat)} (F : Fm s₀ L m os s) (c : CS elts ns) (hn : ns.length ≤ 1000)
    (h : ∀ l vs s', StrsAre vs (ns.map S) → Fm s₀ L m ((l, listO vs) :: os) s' → Q (.ref l) s') : wpAny M A (eval (.List elts pos) env) Q E s :=
  List_ (display_T c fun vs tk hv => mkList (F.tok tk) (by rw [hv.length]; simpa using hn) fun l s' F' => h l vs s' hv F')
theorem sAdd (hz : a.length + b.length ≤ 100000) (F : Fm s₀ L m os s) (h : ∀ t s', Fm s₀ L m os s' → Q (.str (S (a ++ b)) t) s') : wpAny (model prog w) A (binaryOp .Add (.str (S a) t) (.str (S b) u)) Q E s :=
  PyProof.Rows.add_str (fun t' tk => by rw [S_append]; exact h _ _ (F.tok _)) (by rw [S_length, S_length, sizeLine_eq]; omega)
theorem sIAdd (hz : a.length + b.length ≤ 100000) (F : Fm s₀ L m os s) (h : ∀ t s', Fm s₀ L m os s' → Q (.str (S (a ++ b)) t) s') : wpAny (model prog w) A (inplaceOp .Add (.str (S a) t) (.str (S b) u)) Q E s :=
  PyProof.Rows.iadd_str (fun t' tk => by rw [S_append]; exact h _ _ (F.tok _)) (by rw [S_length, S_length, sizeLine_eq]; omega)
theorem sLen (hz : a.length ≤ 100000) (F : Fm s₀ L m os s) (h : ∀ t s', Fm s₀ L m os s' → Q (.int a.length t) s') : wpAny (model prog w) A (call (.builtin "len") [.str (S a) t]) Q E s :=
  PyProof.Rows.len_str (by rw [S_length]; omega) (by rw [S_length]; exact h _ _ (F.tok _))
theorem sEq (h : Q (.bool (a == b)) s) : wpAny (model prog w) A (compareOp .Eq (.str (S a) t) (.str (S b) u)) Q E s :=
  PyProof.Rows.eq_str (by rw [S_beq]; exact h)
theorem sNe (h : Q (.bool (a != b)) s) : wpAny (model prog w) A (compareOp .NotEq (.str (S a) t) (.str (S b) u)) Q E s :=
  PyProof.Rows.ne_str (by rw [S_bne]; exact h)
theorem sLt (h : Q (.bool (decide (a < b))) s) : wpAny (model prog w) A (compareOp .Lt (.str (S a) t) (.str (S b) u)) Q E s :=
  PyProof.Rows.lt_str (by rw [S_toList, S_toList]; exact h)
theorem sItem {value slice : PySem.Expr} {k : Int} {c : Nat} (h0 : 0 ≤ k) (hz : a.length ≤ 100000) (hc : a[k.toNat]? = some c) (F : Fm s₀ L m os s) (h : ∀ t s', Fm s₀ L m os s' → Q (.str (S [c]) t) s')
    (hs : subscripted slice false (.str (S a) t) (.int k u) = operate [.str (S a) t, .int k u] (getItem (.str (S a) t) (.int k u)) := by with_unfolding_all rfl) :
    wpAny (model prog w) A (subscriptTail value slice (.str (S a) t) (.int k u)) Q E s := by
  have hk : k.toNat < a.length := (List.getElem?_eq_some_iff.mp hc).1
  refine tail_any (typeIs_str s (S a) t) slot_str_getitem.lookup (PyProof.Rows.getItem_str (c := c) ?_ ?_ (h _ _ (F.tok _))) hs
  · simp; omega
  · have e : seqIndex? k (S a).length = some k.toNat := by
      unfold seqIndex?
      rw [S_length]
      simp
      omega
    rw [e]
    simpa [S] using hc
end
end
end Mine
set_option maxHeartbeats 400000
set_option linter.unusedVariables false
namespace Mine
noncomputable section
section
variable {prog : Program} {w : World} {M : Model} {A : Around} {E : Value → Shared → Prop} {s₀ s : Shared} {L : Addr} {m : Str → Option Value} {os : List (Addr × Obj)} {env : Env} {Q : Value → Shared → Prop} {t u : Tok}

/-- methods -/
theorem meth0 {o : PySem.Expr} {name : Str} {apos pos : Pos}
    (h : wpAny (model prog w) A (eval o env) (fun ov s₁ => MethodOnS prog w A E name ov pos [] Q s₁) E s)
    (hbase : attributeBase o name env (eval o env) = eval o env := by with_unfolding_all rfl) (hline : (apos.endLine == pos.line) = true := by with_unfolding_all rfl) :
    wpAny (model prog w) A (eval (.Call (.Attribute o name apos) [] [] pos) env) Q E s := Call_method0 hbase hline h
theorem meth1 {o e : PySem.Expr} {name : Str} {apos pos : Pos}
    (h : wpAny (model prog w) A (eval o env) (fun ov s₁ => MethodOnS prog w A E name ov pos [(false, eval e env)] Q s₁) E s)
    (hbase : attributeBase o name env (eval o env) = eval o env := by with_unfolding_all rfl) (hs : starEach [e] env = [(false, eval e env)] := by with_unfolding_all rfl) (hline : (apos.endLine == pos.line) = true := by with_unfolding_all rfl) :
    wpAny (model prog w) A (eval (.Call (.Attribute o name apos) [e] [] pos) env) Q E s := Call_method1 hbase hs hline h
theorem meth2 {o e₁ e₂ : PySem.Expr} {name : Str} {apos pos : Pos}
    (h : wpAny (model prog w) A (eval o env) (fun ov s₁ => MethodOnS prog w A E name ov pos [(false, eval e₁ env), (false, eval e₂ env)] Q s₁) E s)
    (hbase : attributeBase o name env (eval o env) = eval o env := by with_unfolding_all rfl) (hs : starEach [e₁, e₂] env = [(false, eval e₁ env), (false, eval e₂ env)] := by with_unfolding_all rfl) (hline : (apos.endLine == pos.line) = true := by with_unfolding_all rfl) :
    wpAny (model prog w) A (eval (.Call (.Attribute o name apos) [e₁, e₂] [] pos) env) Q E s := Call_method2 hbase hs hline h

theorem mS0 {name : Str} {id : String} {x : Str} {pos : Pos} (slot : Slot "str" name id) (ty : typeOf (.builtin id) = pure (.type "method_descriptor"))
    (h : wpAny (model prog w) A (call (.builtin id) [.str x t]) Q E s) : MethodOnS prog w A E name (.str x t) pos [] Q s :=
  ⟨"str", id, F.plainAttrs_str, slot, ty, typeIs_str _ _ _, (fun _ e => nomatch e), Calls.callWith_builtin rfl (evalArgs_nil3 h)⟩
theorem mS1 {name : Str} {id : String} {x : Str} {pos : Pos} {e : Sem Value} (slot : Slot "str" name id) (ty : typeOf (.builtin id) = pure (.type "method_descriptor"))
    (h : wpAny (model prog w) A e (fun v s₂ => wpAny (model prog w) A (call (.builtin id) [.str x t, v]) Q E s₂) E s) : MethodOnS prog w A E name (.str x t) pos [(false, e)] Q s :=
  ⟨"str", id, F.plainAttrs_str, slot, ty, typeIs_str _ _ _, (fun _ e => nomatch e), Calls.callWith_builtin rfl (Calls.evalArgs_plain (Calls.spliced_cons (wpAny_mono h (fun v s₁ h₁ => Calls.spliced_nil h₁) fun _ _ e => e)))⟩
theorem mS2 {name : Str} {id : String} {x : Str} {pos : Pos} {e e2 : Sem Value} (slot : Slot "str" name id) (ty : typeOf (.builtin id) = pure (.type "method_descriptor"))
    (h : wpAny (model prog w) A e (fun v s₂ => wpAny (model prog w) A e2 (fun v2 s₃ => wpAny (model prog w) A (call (.builtin id) [.str x t, v, v2]) Q E s₃) E s₂) E s) : MethodOnS prog w A E name (.str x t) pos [(false, e), (false, e2)] Q s :=
  ⟨"str", id, F.plainAttrs_str, slot, ty, typeIs_str _ _ _, (fun _ e => nomatch e), Calls.callWith_builtin rfl (Calls.evalArgs_plain (Calls.spliced_cons (wpAny_mono h (fun v s₁ h₁ => Calls.spliced_cons (wpAny_mono h₁ (fun v2 s₂ h₂ => Calls.spliced_nil h₂) fun _ _ e => e)) fun _ _ e => e)))⟩
theorem mB1 {name : Str} {id : String} {x : Array UInt8} {pos : Pos} {e : Sem Value} (slot : Slot "bytes" name id) (ty : typeOf (.builtin id) = pure (.type "method_descriptor"))
    (h : wpAny (model prog w) A e (fun v s₂ => wpAny (model prog w) A (call (.builtin id) [.bytes x t, v]) Q E s₂) E s) : MethodOnS prog w A E name (.bytes x t) pos [(false, e)] Q s :=
  ⟨"bytes", id, PySem.W.FB.plainAttrs_bytes, slot, ty, typeIs_bytes _ _ _, (fun _ e => nomatch e), Calls.callWith_builtin rfl (Calls.evalArgs_plain (Calls.spliced_cons (wpAny_mono h (fun v s₁ h₁ => Calls.spliced_nil h₁) fun _ _ e => e)))⟩
theorem mL1 {name : Str} {id : String} {l : Addr} {vs : List Value} {n : Nat} {pos : Pos} {e : Sem Value} (hl : s.heap.get? l = some (listO vs n)) (slot : Slot "list" name id) (ty : typeOf (.builtin id) = pure (.type "method_descriptor"))
    (h : wpAny (model prog w) A e (fun v s₂ => wpAny (model prog w) A (call (.builtin id) [.ref l, v]) Q E s₂) E s) : MethodOnS prog w A E name (.ref l) pos [(false, e)] Q s :=
  ⟨"list", id, F.plainAttrs_list, slot, ty, (isList_of hl).typeIs, (fun _ e => by cases e; exact ⟨_, hl, rfl⟩), Calls.callWith_builtin rfl (Calls.evalArgs_plain (Calls.spliced_cons (wpAny_mono h (fun v s₁ h₁ => Calls.spliced_nil h₁) fun _ _ e => e)))⟩
/-- xs.append(v), xs the first of the frame's own -/
theorem lAppend {l : Addr} {vs : List Value} {n : Nat} {v : Value} (hz : vs.length ≤ 100000) (F : Fm s₀ L m ((l, listO vs n) :: os) s) (h : ∀ n' s', Fm s₀ L m ((l, listO (vs ++ [v]) n') :: os) s' → Q .none s') :
    wpAny (model prog w) A (call (.builtin "list.append") [.ref l, v]) Q E s := by
  have ho := F.hd
  refine wpAny_call_entry PySem.slot_list_append (isList_of ho).typeIs entry_list_append ?_ (args_list_append _ _)
  show wpAny _ _ (updateSeq l (·.push v) >>= fun _ => ret .none) _ _ s
  refine wpAny_bind ?_
  refine wpAny_updateSeq ho rfl (wpAny_pure ⟨.none, rfl, ?_⟩) ?_ ?_
  · refine h (n + 1) _ (F.upd (o' := listO (vs ++ [v]) (n + 1)) (tk := s.toks) ?_ (Heap.SameBut.update ..))
    have := Heap.get?_update_self (Obj.mapSeq fun x => x.push v) ho rfl
    simpa [Obj.mapSeq, listO] using this
  · rw [sizeLine_eq, List.size_toArray]; omega
  · rw [sizeLine_eq]; simp; omega
end
end
end Mine
set_option maxHeartbeats 400000
set_option linter.unusedVariables false
namespace Mine
noncomputable section

/-- the values' texts, by their signs -/
abbrev TextsAre (vs : List Value) (ls : List (List Nat)) : Prop := StrsAre vs (ls.map S)
theorem texts_snoc {vs : List Value} {ls : List (List Nat)} (h : TextsAre vs ls) {l : List Nat} {t : Tok} : TextsAre (vs ++ [.str (S l) t]) (ls ++ [l]) := by
  unfold TextsAre
  rw [List.map_append]
  exact h.append' (.cons _ _ .nil)
theorem ints_snoc {vs : List Value} {ns : List Int} (h : IntsAre vs ns) {n : Int} {t : Tok} : IntsAre (vs ++ [.int n t]) (ns ++ [n]) := h.append (.cons _ _ .nil)
theorem texts_of {vs : List Value} {ss : List Str} (h : StrsAre vs ss) : TextsAre vs (ss.map fun x => x.cps.toList) := by
  unfold TextsAre
  have : (ss.map fun x => x.cps.toList).map S = ss := by
    rw [List.map_map]
    refine (List.map_congr_left fun x _ => ?_).trans (List.map_id _)
    exact (S_of x).symm
  rw [this]; exact h

theorem same_texts : ∀ a b : List (List Nat), PySem.Spec.sameAll ((a.map S).map PyData.str) ((b.map S).map PyData.str) = decide (a = b)
  | [], [] => by simp [PySem.Spec.sameAll]
  | [], _ :: _ => by simp [PySem.Spec.sameAll]
  | _ :: _, [] => by simp [PySem.Spec.sameAll]
  | a :: r, b :: t => by
    simp only [List.map_cons, PySem.Spec.sameAll, PySem.Spec.same, same_texts r t]
    by_cases h : a = b
    · by_cases h' : r = t <;> simp [h, h']
    · have : ¬ S a = S b := fun e => h (S_inj e)
      simp [h, this]
def Small (a : List (List Nat)) : Prop := ∀ l ∈ a, ∀ c ∈ l, c < 0x110000
theorem shaped_texts {a : List (List Nat)} (h : Small a) : SeqAt.shaped (.list ((a.map S).map PyData.str)) = true := by
  simp only [SeqAt.shaped, PyData.canLay0, PyData.depth, canLayAll_strs', depthAll_strs', Bool.and_eq_true, decide_eq_true_eq]
  refine ⟨?_, by omega⟩
  rw [List.all_eq_true]
  intro x hx
  obtain ⟨l, hl, rfl⟩ := List.mem_map.mp hx
  unfold PyData.strOk
  simp only [S, List.all_toArray, List.all_eq_true, decide_eq_true_eq]
  exact h l hl

section
variable {prog : Program} {w : World} {M : Model} {A : Around} {E : Value → Shared → Prop} {s₀ s : Shared} {L : Addr} {m : Str → Option Value} {os : List (Addr × Obj)} {env : Env} {Q : Value → Shared → Prop} {t u : Tok}

theorem mkNil {pos : Pos} (F : Fm s₀ L m os s) (h : ∀ l s', Fm s₀ L m ((l, listO []) :: os) s' → Q (.ref l) s') : wpAny M A (eval (.List [] pos) env) Q E s :=
  List_ (wpAny_items_nil (mkList F (by decide) h))

theorem Fm.sorted {vs : List Value} {out : Array Value} (F : Fm s₀ L m os s) : ∃ n, Fm s₀ L m ((s.heap.objs.size + 1, listO out.toList n) :: os) { s with heap := sortedAll s.heap vs out } := by
  obtain ⟨n, he⟩ := sortedAll_at s.heap vs out
  refine ⟨n, ?_⟩
  have k : Keeps s { s with heap := sortedAll s.heap vs out } := ⟨_, s.toks, rfl, fun b o e => sortedAll_old e⟩
  refine (F.kept k).add (by simpa [listO] using he) ?_ ?_ ?_
  · exact Heap.get?_none_of_le (Nat.le_succ_of_le (Nat.le_of_lt (Nat.lt_of_le_of_lt F.fresh F.ltL)))
  · exact Nat.ne_of_gt (Nat.lt_succ_of_lt F.ltL)
  · intro hm
    obtain ⟨p, hp, e⟩ := List.mem_map.mp hm
    exact absurd (F.lt hp) (by rw [e]; exact Nat.not_lt.mpr (Nat.le_succ _))
theorem sortI {l : Addr} {vs : List Value} {ns : List Int} (F : Fm s₀ L m os s) (hl : s.heap.IsList l vs.toArray) (hi : IntsAre vs ns) (h64 : vs.length < 64)
    (h : ∀ l' vs' ns' n s', IntsAre vs' ns' → ns'.Perm ns → ns'.Pairwise (· ≤ ·) → Fm s₀ L m ((l', listO vs' n) :: os) s' → Q (.ref l') s') : wpAny (model prog w) A (call (.builtin "sorted") [.ref l]) Q E s := by
  refine sorted_ints hl hi h64 fun out ns' a1 a2 a3 => ?_
  obtain ⟨n, F'⟩ := F.sorted (vs := vs) (out := out)
  exact h _ _ ns' n _ a1 a2 a3 F'
theorem sorted_list : ∀ (p : List Nat) (l : List (List Nat)), risingS (S p) (l.map S) = true → (p :: l).Pairwise (fun a b => ¬ b < a)
  | p, [], _ => by simp
  | p, x :: r, h => by
    have h' : (!PySem.Spec.ltCps (S x).cps.toList (S p).cps.toList && risingS (S x) (r.map S)) = true := h
    rw [Bool.and_eq_true, S_toList, S_toList, ltCps_eq] at h'
    have ih := sorted_list x r h'.2
    have hx : ¬ x < p := by simpa using h'.1
    rw [List.pairwise_cons]
    refine ⟨fun y hy => ?_, ih⟩
    rcases List.mem_cons.mp hy with rfl | hy
    · exact hx
    · have hy' := (List.pairwise_cons.mp ih).1 y hy
      intro hlt
      have h1 : p ≤ x := List.not_lt.mp hx
      have h2 : x ≤ y := List.not_lt.mp hy'
      exact absurd hlt (List.not_lt.mpr (List.le_trans h1 h2))
theorem sortT {l : Addr} {vs : List Value} {ls : List (List Nat)} (F : Fm s₀ L m os s) (hl : s.heap.IsList l vs.toArray) (hi : TextsAre vs ls) (h64 : vs.length < 64)
    (h : ∀ l' vs' ls' n s', TextsAre vs' ls' → ls'.Perm ls → ls'.Pairwise (fun a b => ¬ b < a) → Fm s₀ L m ((l', listO vs' n) :: os) s' → Q (.ref l') s') : wpAny (model prog w) A (call (.builtin "sorted") [.ref l]) Q E s := by
  refine sorted_strs hl hi h64 fun out ss' a1 a2 a3 => ?_
  obtain ⟨n, F'⟩ := F.sorted (vs := vs) (out := out)
  refine h _ _ _ n _ (texts_of a1) ?_ ?_ F'
  · have := a2.map fun x : Str => x.cps.toList
    rw [List.map_map] at this
    have e : ls.map ((fun x : Str => x.cps.toList) ∘ S) = ls := (List.map_congr_left fun x _ => S_toList x).trans (List.map_id _)
    rwa [e] at this
  · cases ss' with
    | nil => simp
    | cons x r =>
      refine sorted_list _ _ ?_
      rw [← S_of x]
      have e : (r.map fun x : Str => x.cps.toList).map S = r := by
        rw [List.map_map]
        exact (List.map_congr_left fun x _ => (S_of x).symm).trans (List.map_id _)
      rw [e]; exact a3
/-- == and != of lists -/
theorem lEqI {a b : Addr} {xs ys : List Value} {ns ms : List Int} (ha : s.heap.IsList a xs.toArray) (hb : s.heap.IsList b ys.toArray) (hi : IntsAre xs ns) (hj : IntsAre ys ms) (hu : A.units + 64 < cLine) (h : Q (.bool (decide (ns = ms))) s) :
    wpAny (model prog w) A (compareOp .Eq (.ref a) (.ref b)) Q E s := ke_eq_ints ha hb hi hj hu h
theorem lNeI {a b : Addr} {xs ys : List Value} {ns ms : List Int} (ha : s.heap.IsList a xs.toArray) (hb : s.heap.IsList b ys.toArray) (hi : IntsAre xs ns) (hj : IntsAre ys ms) (hu : A.units + 64 < cLine) (h : Q (.bool (!decide (ns = ms))) s) :
    wpAny (model prog w) A (compareOp .NotEq (.ref a) (.ref b)) Q E s := ke_ne_ints ha hb hi hj hu h
theorem lEqT {a b : Addr} {xs ys : List Value} {ns ms : List (List Nat)} (ha : s.heap.IsList a xs.toArray) (hb : s.heap.IsList b ys.toArray) (hi : TextsAre xs ns) (hj : TextsAre ys ms) (s1 : Small ns) (s2 : Small ms) (hu : A.units + 64 < cLine)
    (h : Q (.bool (decide (ns = ms))) s) : wpAny (model prog w) A (compareOp .Eq (.ref a) (.ref b)) Q E s := by
  refine eq_dataH_same (reads_newData ha hi.carried) (reads_newData hb hj.carried) (shaped_texts s1) (shaped_texts s2) hu (SeqAt.noMix_of_shape (.list .str) rfl _ _ (list_map_has fun _ => rfl) (list_map_has fun _ => rfl)) ?_
  have e : PySem.Spec.same (.list ((ns.map S).map PyData.str)) (.list ((ms.map S).map PyData.str)) = decide (ns = ms) := by
    simp only [PySem.Spec.same]; exact same_texts ns ms
  rw [e]; exact h
theorem lNeT {a b : Addr} {xs ys : List Value} {ns ms : List (List Nat)} (ha : s.heap.IsList a xs.toArray) (hb : s.heap.IsList b ys.toArray) (hi : TextsAre xs ns) (hj : TextsAre ys ms) (s1 : Small ns) (s2 : Small ms) (hu : A.units + 64 < cLine)
    (h : Q (.bool (!decide (ns = ms))) s) : wpAny (model prog w) A (compareOp .NotEq (.ref a) (.ref b)) Q E s := by
  refine ne_dataH_same (reads_newData ha hi.carried) (reads_newData hb hj.carried) (shaped_texts s1) (shaped_texts s2) hu (SeqAt.noMix_of_shape (.list .str) rfl _ _ (list_map_has fun _ => rfl) (list_map_has fun _ => rfl)) ?_
  have e : PySem.Spec.same (.list ((ns.map S).map PyData.str)) (.list ((ms.map S).map PyData.str)) = decide (ns = ms) := by
    simp only [PySem.Spec.same]; exact same_texts ns ms
  rw [e]; exact h
/-- xs[-1] -/
theorem subLast {value slice : PySem.Expr} {l : Addr} {vs : List Value} {v : Value} (hl : s.heap.IsList l vs.toArray) (hz : vs.length ≤ 100000) (hx : vs.getLast? = some v) (h : Q v s)
    (hs : subscripted slice false (.ref l) (.int (-1) u) = operate [.ref l, .int (-1) u] (getItem (.ref l) (.int (-1) u)) := by with_unfolding_all rfl) :
    wpAny (model prog w) A (subscriptTail value slice (.ref l) (.int (-1) u)) Q E s := by
  have hne : vs ≠ [] := by intro e; rw [e] at hx; cases hx
  have hlen : 0 < vs.length := List.length_pos_iff.mpr hne
  refine tail_any hl.typeIs slot_list_getitem.lookup (wpAny_getItem_list_neg hl (by decide) (by simp; omega) (by decide) ?_ h) hs
  have e : (-1 + ((vs.toArray.size : Nat) : Int)).toNat = vs.length - 1 := by simp; omega
  rw [e]
  rw [List.getLast?_eq_getElem?] at hx
  simpa using hx
theorem negC {pos : Pos} {i : Int} {k : Nat} {p : Pos} (F : Fm s₀ L m os s) (h : ∀ t s', Fm s₀ L m os s' → Q (.int (-i) t) s') :
    wpAny (model prog w) A (eval (.UnaryOp .USub (.Constant (.int i) k p) pos) env) Q E s :=
  wpAny_UnaryOp (wpAny_Constant_int (neg_int (h _ _ ((F.tok _).tok _))))
/-- a or b -/
theorem orQ {x y : PySem.Expr} {pos : Pos} {whole : Sem Value} {Q : Bool → Shared → Prop}
    (h : wpAny M A (isTrue x env (eval x env)) (fun b s₁ => if b then Q true s₁ else wpAny M A (isTrue y env (eval y env)) Q E s₁) E s) : wpAny M A (isTrue (.BoolOp .Or [x, y] pos) env whole) Q E s := by
  refine wpAny_isTrue_BoolOp (wpAny_allTrue_Or_cons (wpAny_mono h (fun b s₁ h₁ => ?_) fun _ _ e => e))
  cases b with
  | true => exact h₁
  | false =>
    refine wpAny_allTrue_Or_cons (wpAny_mono h₁ (fun b s₂ h₂ => ?_) fun _ _ e => e)
    cases b with
    | true => exact h₂
    | false => exact wpAny_allTrue_Or_nil h₂
theorem andQ {x y : PySem.Expr} {pos : Pos} {whole : Sem Value} {Q : Bool → Shared → Prop}
    (h : wpAny M A (isTrue x env (eval x env)) (fun b s₁ => if b then wpAny M A (isTrue y env (eval y env)) Q E s₁ else Q false s₁) E s) : wpAny M A (isTrue (.BoolOp .And [x, y] pos) env whole) Q E s := by
  refine wpAny_isTrue_BoolOp (wpAny_allTrue_And_cons (wpAny_mono h (fun b s₁ h₁ => ?_) fun _ _ e => e))
  cases b with
  | false => exact h₁
  | true =>
    refine wpAny_allTrue_And_cons (wpAny_mono h₁ (fun b s₂ h₂ => ?_) fun _ _ e => e)
    cases b with
    | false => exact h₂
    | true => exact wpAny_allTrue_And_nil h₂
theorem Fm.rot3 {a b c : Addr × Obj} (F : Fm s₀ L m (a :: b :: c :: os) s) : Fm s₀ L m (c :: a :: b :: os) s :=
  F.perm ((List.Perm.swap a c (b :: os)).trans (List.Perm.cons a (List.Perm.swap b c os)))
theorem Fm.unrot3 {a b c : Addr × Obj} (F : Fm s₀ L m (c :: a :: b :: os) s) : Fm s₀ L m (a :: b :: c :: os) s :=
  F.perm (((List.Perm.swap a c (b :: os)).trans (List.Perm.cons a (List.Perm.swap b c os))).symm)
theorem exprS {e : PySem.Expr} {pos : Pos} {rest : List Stmt} {Q : Flow → Shared → Prop} (h : wpAny M A (eval e env) (fun v s' => match v with | .ref _ => False | _ => wpAny M A (execs rest env) Q E s') E s)
    (hi : interactive env = false := by with_unfolding_all rfl) (hs : swapsWith e none pos.line env = pure false := by with_unfolding_all rfl) : wpAny M A (execs (.Expr e pos :: rest) env) Q E s :=
  wpAny_execs_cons (wpAny_Expr h hi hs)
end
end
end Mine
set_option maxHeartbeats 400000
set_option linter.unusedVariables false
namespace Mine
noncomputable section
section
variable {prog : Program} {w : World} {M : Model} {A : Around} {E : Value → Shared → Prop} {s₀ s : Shared} {L : Addr} {m : Str → Option Value} {os : List (Addr × Obj)} {env : Env} {Q : Value → Shared → Prop} {t u : Tok}

theorem Fm.offs {wr : List Addr} (F : Fm s₀ L m os s) (hw : ∀ b ∈ wr, s₀.heap.get? b = none ∧ b ≠ L ∧ b ∉ os.map (·.1)) {h' : Heap} {tk : Nat} (k : ∀ b o, b ∉ wr → s.heap.get? b = some o → h'.get? b = some o) :
    Fm s₀ L m os { s with heap := h', toks := tk } := by
  refine ⟨?_, F.ns.at' fun o e => k _ o (fun hb => (hw _ hb).2.1 rfl) e, F.fresh, fun p hp => ⟨k _ _ (fun hb => (hw _ hb).2.2 (List.mem_map.mpr ⟨p, hp, rfl⟩)) (F.own p hp).1, (F.own p hp).2⟩, F.nd⟩
  obtain ⟨h₁, t₁, e, hk⟩ := F.keeps
  refine ⟨h', tk, by rw [e], fun b o eb => k b o (fun hb => by rw [(hw _ hb).1] at eb; cases eb) ?_⟩
  have := hk b o eb
  rw [e]; exact this
theorem Fm.adds {own : List (Addr × Obj)} (F : Fm s₀ L m os s) (hn : (own.map (·.1)).Nodup) (ho : ∀ p ∈ own, s.heap.get? p.1 = some p.2 ∧ s₀.heap.get? p.1 = none ∧ p.1 ≠ L ∧ p.1 ∉ os.map (·.1)) : Fm s₀ L m (own ++ os) s := by
  induction own with
  | nil => exact F
  | cons p r ih =>
    rw [List.map_cons, List.nodup_cons] at hn
    have F' := ih hn.2 fun q hq => ho q (List.mem_cons_of_mem _ hq)
    have hp := ho p (List.mem_cons_self ..)
    refine F'.add (a := p.1) (o := p.2) hp.1 hp.2.1 hp.2.2.1 ?_
    rw [List.map_append, List.mem_append]
    rintro (q | q)
    · exact hn.1 q
    · exact hp.2.2.2 q
theorem objsOf {h : Heap} : ∀ (wr : List Addr), (∀ b ∈ wr, ∃ o, h.get? b = some o) → ∃ own : List (Addr × Obj), own.map (·.1) = wr ∧ ∀ p ∈ own, h.get? p.1 = some p.2
  | [], _ => ⟨[], rfl, fun _ h => nomatch h⟩
  | b :: r, hex => by
    obtain ⟨o, ho⟩ := hex b (List.mem_cons_self ..)
    obtain ⟨own, e, h2⟩ := objsOf r fun c hc => hex c (List.mem_cons_of_mem _ hc)
    refine ⟨(b, o) :: own, by rw [List.map_cons, e], fun p hp => ?_⟩
    rcases List.mem_cons.mp hp with rfl | hp
    · exact ho
    · exact h2 p hp

/-- a loop over what walks by tuples -/
theorem codeForU {R : Result → Shared → Prop} {elts : List PySem.Expr} {kk : Nat} {tpos : Pos} {body orelse : List Stmt} {I : Addr} {fp wr : List Addr} {n : Nat} {Pt : Nat → Array Value → Prop} {St : Nat → Heap → Prop} {Mid : Nat → Addr → Heap → Prop} {fx : List (Addr × Obj)}
    (W : WalksU prog w A I fp wr n Pt St Mid) (J : Nat → (Str → Option Value) → List (Addr × Obj) → Prop)
    (F : Fm s₀ env.locals m (fx ++ os) s) (hnd : wr.Nodup) (hw : ∀ b ∈ wr, s₀.heap.get? b = none ∧ b ≠ env.locals) (hwo : ∀ b ∈ wr, b ∉ (fx ++ os).map (·.1))
    (hfp : ∀ b ∈ fp, b ∈ wr ∨ (∃ o, s₀.heap.get? b = some o) ∨ ∃ o, (b, o) ∈ fx) (hex : ∀ i h, St i h → ∀ b ∈ wr, ∃ o, h.get? b = some o)
    (hst : St 0 s.heap) (h0 : J 0 m os)
    (turn : ∀ i vals T m₁ os₁ s₁ own, i < n → Pt i vals → J i m₁ os₁ → s₁.heap.IsTuple T vals → Fm s₀ env.locals m₁ (own ++ (fx ++ os₁)) s₁ →
      wpAny (model prog w) A (assign (.Tuple elts kk tpos) env (.ref T)) (fun _ s₂ => wpAny (model prog w) A (execs body env) (fun f s₃ => match f with
        | .next | .cont => ∃ m₂ os₂, J (i + 1) m₂ os₂ ∧ Fm s₀ env.locals m₂ (own ++ (fx ++ os₂)) s₃
        | .brk => R (.ok .next) s₃
        | .ret v => R (.ok (.ret v)) s₃) (fun _ _ => False) s₂) (fun _ _ => False) s₁)
    (done : ∀ m₁ os₁ s₁, J n m₁ os₁ → Fm s₀ env.locals m₁ (fx ++ os₁) s₁ → wpAny (model prog w) A (execs orelse env) (fun f s₃ => R (.ok f) s₃) (fun _ _ => False) s₁) :
    codeAny (model prog w) A (.forLoop (.Tuple elts kk tpos) (.ref I) body orelse env) R s := by
  refine codeAny_forLoop_any
    (fun k s' => ∃ m' os' i, Fm s₀ env.locals m' (fx ++ os') s' ∧ (∀ b ∈ wr, b ∉ (fx ++ os').map (·.1)) ∧ St i s'.heap ∧ J i m' os' ∧ i ≤ n ∧ k = n + 1 - i) ?_ (n + 1)
    ⟨m, os, 0, F, hwo, hst, h0, Nat.zero_le _, rfl⟩
  rintro k s' ⟨m', os', i, F', hwo', hst', hJ, hi, rfl⟩
  have hw' : ∀ b ∈ wr, s₀.heap.get? b = none ∧ b ≠ env.locals ∧ b ∉ (fx ++ os').map (·.1) := fun b hb => ⟨(hw b hb).1, (hw b hb).2, hwo' b hb⟩
  by_cases hlt : i < n
  · refine W.item i _ _ _ hlt hst' fun T vals h₁ tk₁ hP hT hMid hk₁ => ?_
    have F₁ : Fm s₀ env.locals m' (fx ++ os') { s' with heap := h₁, toks := tk₁ } := F'.offs hw' hk₁
    have hap := W.apart i T h₁ hMid
    refine W.go elts kk tpos i T _ _ _ hMid fun h₂ hst₂ hk₂ => ?_
    have F₂ : Fm s₀ env.locals m' (fx ++ os') { s' with heap := h₂, toks := tk₁ } := F₁.offs hw' hk₂
    have hT₂ : h₂.IsTuple T vals := hT.at fun o e => hk₂ _ o hap e
    obtain ⟨own, hown, hobj⟩ := objsOf wr (hex _ _ hst₂)
    have hmem : ∀ p ∈ own, p.1 ∈ wr := fun p hp => hown ▸ List.mem_map.mpr ⟨p, hp, rfl⟩
    have F₃ : Fm s₀ env.locals m' (own ++ (fx ++ os')) { s' with heap := h₂, toks := tk₁ } := F₂.adds (hown ▸ hnd) fun p hp => ⟨hobj p hp, (hw' _ (hmem p hp)).1, (hw' _ (hmem p hp)).2⟩
    refine wpAny_mono (turn i vals T m' os' _ own hlt hP hJ hT₂ F₃) (fun _ s₂ h₂' => wpAny_mono h₂' (fun f s₃ h₃ => ?_) fun _ _ q => q.elim) fun _ _ q => q.elim
    have fin : (∃ m₂ os₂, J (i + 1) m₂ os₂ ∧ Fm s₀ env.locals m₂ (own ++ (fx ++ os₂)) s₃) → ∃ k', k' < n + 1 - i ∧ ∃ m' os' i, Fm s₀ env.locals m' (fx ++ os') s₃ ∧ (∀ b ∈ wr, b ∉ (fx ++ os').map (·.1)) ∧ St i s₃.heap ∧ J i m' os' ∧ i ≤ n ∧ k' = n + 1 - i := by
      rintro ⟨m₂, os₂, hJ₂, F₄⟩
      refine ⟨n + 1 - (i + 1), by omega, m₂, os₂, i + 1, F₄.sub (List.sublist_append_right _ _), ?_, ?_, hJ₂, hlt, rfl⟩
      · intro b hb hm
        have := F₄.nd
        rw [List.map_append, List.nodup_append] at this
        exact this.2.2 b (by rw [hown]; exact hb) b hm rfl
      · refine W.frame _ _ _ hst₂ fun b hb ob e => ?_
        rcases hfp b hb with hb' | ⟨o', ho'⟩ | ⟨o', ho'⟩
        · rw [← hown] at hb'
          obtain ⟨p, hp, rfl⟩ := List.mem_map.mp hb'
          obtain rfl : p.2 = ob := Option.some.inj ((hobj p hp).symm.trans e)
          exact (F₄.own p (List.mem_append_left _ hp)).1
        · obtain rfl : o' = ob := Option.some.inj ((kkp F₂.keeps b o' ho').symm.trans e)
          exact kkp F₄.keeps b o' ho'
        · obtain rfl : o' = ob := Option.some.inj ((F₂.get (List.mem_append_left _ ho')).symm.trans e)
          exact F₄.get (List.mem_append_right _ (List.mem_append_left _ ho'))
    cases f with
    | next => exact fin h₃
    | cont => exact fin h₃
    | brk => exact h₃
    | ret v => exact h₃
  · obtain rfl : i = n := by omega
    refine W.done _ _ _ hst' fun h₁ tk₁ hk₁ => ?_
    exact wpAny_mono (done m' os' _ hJ (F'.offs hw' hk₁)) (fun _ _ q => q) fun _ _ q => q.elim

/-- a, b = a pair -/
theorem asPair {xa xb : Str} {pa pb pos : Pos} {k : Nat} {T : Addr} {a b : Value} {Q : Unit → Shared → Prop} (hh : A.handled = none) (F : Fm s₀ env.locals m os s) (hT : s.heap.IsTuple T #[a, b])
    (h : ∀ s', Fm s₀ env.locals (fun y => if y = xb then some b else if y = xa then some a else m y) os s' → Q () s')
    (hk : env.scope.kind = .function := by with_unfolding_all rfl) (h1 : env.kindOf xa = some .local := by with_unfolding_all rfl) (h2 : env.kindOf xb = some .local := by with_unfolding_all rfl) :
    wpAny (model prog w) A (assign (.Tuple [.Name xa pa, .Name xb pb] k pos) env (.ref T)) Q E s := by
  refine wpAny_assign_Tuple hh hT rfl rfl fun h' hx => ?_
  have k' : Keeps s { s with heap := h' } := ⟨h', s.toks, rfl, fun c o e => hx c o (Nat.ne_of_lt (Heap.lt_size e)) e⟩
  have F' := F.kept k'
  show wpAny _ A (do holding [b] (assign (.Name xa pa) env a); do holding [] (assign (.Name xb pb) env b); pure ()) _ _ _
  refine wpAny_bind (wpAny_holding (wpAny_assign_Name (stL F' (fun s₁ F₁ => ?_) hk h1)))
  exact wpAny_bind (wpAny_holding (wpAny_assign_Name (stL F₁ (fun s₂ F₂ => wpAny_pure (h _ F₂)) hk h2)))

theorem fm_ge (F : Fm s₀ L m os s) {a : Addr} (h : s.heap.objs.size ≤ a) : s₀.heap.get? a = none ∧ a ≠ L ∧ a ∉ os.map (·.1) := by
  refine ⟨Heap.get?_none_of_le (Nat.le_trans (Nat.le_of_lt (Nat.lt_of_le_of_lt F.fresh F.ltL)) h), Nat.ne_of_gt (Nat.lt_of_lt_of_le F.ltL h), fun hm => ?_⟩
  obtain ⟨p, hp, e⟩ := List.mem_map.mp hm
  exact absurd (F.lt hp) (Nat.not_lt.mpr (e ▸ h))

/-- zip(xs, ys), looped over: both lists stood before the call -/
theorem forZip {elts : List PySem.Expr} {kk : Nat} {tpos : Pos} {body orelse : List Stmt} {l1 l2 : Addr} {xs ys : Array Value} {R : Result → Shared → Prop} {o1 o2 : Obj}
    (hh : A.handled = none) (J : Nat → (Str → Option Value) → List (Addr × Obj) → Prop)
    (F : Fm s₀ env.locals m os s) (hl1 : s.heap.IsList l1 xs) (hl2 : s.heap.IsList l2 ys) (k1 : s₀.heap.get? l1 = some o1) (k2 : s₀.heap.get? l2 = some o2) (h0 : J 0 m os)
    (turn : ∀ i x y T m₁ os₁ s₁ own, xs[i]? = some x → ys[i]? = some y → J i m₁ os₁ → s₁.heap.IsTuple T #[x, y] → Fm s₀ env.locals m₁ (own ++ os₁) s₁ →
      wpAny (model prog w) A (assign (.Tuple elts kk tpos) env (.ref T)) (fun _ s₂ => wpAny (model prog w) A (execs body env) (fun f s₃ => match f with
        | .next | .cont => ∃ m₂ os₂, J (i + 1) m₂ os₂ ∧ Fm s₀ env.locals m₂ (own ++ os₂) s₃
        | .brk => R (.ok .next) s₃
        | .ret v => R (.ok (.ret v)) s₃) (fun _ _ => False) s₂) (fun _ _ => False) s₁)
    (done : ∀ m₁ os₁ s₁, J (min xs.size ys.size) m₁ os₁ → Fm s₀ env.locals m₁ os₁ s₁ → wpAny (model prog w) A (execs orelse env) (fun f s₃ => R (.ok f) s₃) (fun _ _ => False) s₁) :
    wpAny (model prog w) A (call (.type "zip") [.ref l1, .ref l2]) (fun xv s₁ => wpAny (model prog w) A (pyIter xv) (fun it s₂ => codeAny (model prog w) A (.forLoop (.Tuple elts kk tpos) it body orelse env) R s₂) E s₁) E s := by
  have a1 : l1 < s.heap.objs.size := by obtain ⟨_, e, _⟩ := hl1; exact Heap.lt_size e
  have a2 : l2 < s.heap.objs.size := by obtain ⟨_, e, _⟩ := hl2; exact Heap.lt_size e
  refine call_zip_2 hl1 hl2 fun h' hz hTI hTO hi1 hi2 _ hk => ?_
  refine wpAny_pyIter_zip hz ?_
  have Fk : Fm s₀ env.locals m os { s with heap := h' } := F.kept ⟨h', s.toks, rfl, hk⟩
  have g : ∀ d, s.heap.objs.size ≤ s.heap.objs.size + d := fun d => Nat.le_add_right _ d
  have n2 := fm_ge F (g 2)
  have F2 : Fm s₀ env.locals m ([(s.heap.objs.size + 2, _)] ++ os) { s with heap := h' } := Fk.add hTI n2.1 n2.2.1 n2.2.2
  have D := zipApart_new a1 a2
  refine codeForU (fx := [(s.heap.objs.size + 2, _)]) (WalksT.zip2 hh _ _ _ _ _ _ _ D xs ys).toU J F2 ?_ ?_ ?_ ?_ ?_ ⟨hz, hTI, ⟨_, _, hTO⟩, hi1, hi2, hl1.at fun o e => hk _ o e, hl2.at fun o e => hk _ o e⟩ h0 ?_ ?_
  · simp
  · intro b hb
    have : s.heap.objs.size ≤ b := by
      simp only [List.mem_cons, List.not_mem_nil, or_false] at hb
      rcases hb with rfl | rfl | rfl | rfl <;> simp
    exact ⟨(fm_ge F this).1, (fm_ge F this).2.1⟩
  · intro b hb hm
    simp only [List.singleton_append, List.map_cons, List.mem_cons] at hm
    have hge : s.heap.objs.size ≤ b := by
      simp only [List.mem_cons, List.not_mem_nil, or_false] at hb
      rcases hb with rfl | rfl | rfl | rfl <;> simp
    rcases hm with e | hm
    · simp only [List.mem_cons, List.not_mem_nil, or_false] at hb
      subst e
      rcases hb with e | e | e | e <;> simp at e
    · exact (fm_ge F hge).2.2 hm
  · intro b hb
    simp only [List.mem_cons, List.not_mem_nil, or_false] at hb ⊢
    rcases hb with rfl | rfl | rfl | rfl | rfl | rfl | rfl
    · simp
    · exact .inr (.inr ⟨_, rfl⟩)
    · simp
    · simp
    · simp
    · exact .inr (.inl ⟨_, k1⟩)
    · exact .inr (.inl ⟨_, k2⟩)
  · rintro i h ⟨b1, b2, ⟨_, _, b3⟩, ⟨_, b4, _⟩, ⟨_, b5, _⟩, _⟩ b hb
    simp only [List.mem_cons, List.not_mem_nil, or_false] at hb
    rcases hb with rfl | rfl | rfl | rfl
    · exact ⟨_, b1⟩
    · exact ⟨_, b3⟩
    · exact ⟨_, b4⟩
    · exact ⟨_, b5⟩
  · rintro i vals T m₁ os₁ s₁ own hi ⟨x, y, hx, hy, rfl⟩ hJ hT F₁
    have := turn i x y T m₁ os₁ s₁ (own ++ [(s.heap.objs.size + 2, { cls := .type "tuple", data := .seq #[.ref s.heap.objs.size, .ref (s.heap.objs.size + 1)] })]) hx hy hJ hT (by rw [List.append_assoc]; exact F₁)
    simpa only [List.append_assoc] using this
  · intro m₁ os₁ s₁ hJ F₁
    exact done m₁ os₁ s₁ hJ F₁.drop1
end
end
end Mine
set_option maxHeartbeats 400000
namespace Mine
noncomputable section
variable {w : World} {A : Around} {s : Shared} {Q E : Value → Shared → Prop}

def kindTab : List Int := [1, 6, 3, 1, 4, 1, 2, 1, 0, 1, 5, 1, 7, 1, 1, 1]
def xTab : List Int := [0, 3, 1, 2]
/-- _law_place's loop, k turns done -/
def placeGo (m : Int) : Nat → Int
  | 0 => kindTab.getD ((m.fdiv 4096).fmod 16).toNat 0
  | k + 1 => placeGo m k * 16 + ((m.fdiv (8 ^ (2 - (k : Int)).toNat)).fmod 8).fdiv 2 * 4 + xTab.getD (((m.fdiv (8 ^ (2 - (k : Int)).toNat)).fmod 8).fmod 2 + 2 * (m.fdiv (2 ^ (11 - (k : Int)).toNat)).fmod 2).toNat 0
def placeI (m : Int) : Int := placeGo m 3

theorem fmod_bounds (a : Int) {b : Int} (h : 0 < b) : 0 ≤ a.fmod b ∧ a.fmod b < b := ⟨Int.fmod_nonneg_of_pos _ h, Int.fmod_lt_of_pos _ h⟩
theorem intsAt {vs : List Value} {ns : List Int} (h : IntsAre vs ns) {k : Int} (h0 : 0 ≤ k) (h1 : k < ns.length) : ∃ t, vs[k.toNat]? = some (.int (ns.getD k.toNat 0) t) := h.get _ _ (ints_getD h0 h1)

theorem place_spec {m : Int} {t : Tok} (g : Gw w s.heap) (hr : A.depth < recursionLimit) (hh : A.handled = none) (h : ∀ s' t', Keeps s s' → Q (.int (placeI m) t') s') :
    wpAny (model pr w) A (call (.ref 126) [.int m t]) Q E s := by
  with_reducible refine callDef g (by with_unfolding_all rfl) (by with_unfolding_all rfl) (by with_unfolding_all rfl) (by with_unfolding_all rfl) hr (BindsTo.of_eq (binds := [(Str.ofString "m", .int m t)]) (by with_unfolding_all rfl)) (by decide) (locs (by with_unfolding_all rfl)) ?_
  intro A s₁ hA hA1 hA2 hA3 hT F
  have hh := hA1.trans hh
  have hb1 := fmod_bounds (m.fdiv 4096) (b := 16) (by decide)
  with_reducible refine asgN ?_
  with_reducible refine Subscript_ ?_
  with_reducible refine dispI F (ns := kindTab) (by with_unfolding_all repeat constructor) (by decide) ?_
  intro l vs s₁ hv F
  with_reducible refine binO ?_
  with_reducible refine binO ?_
  with_reducible refine nmL F (by with_unfolding_all rfl) ?_
  with_reducible refine cI F ?_
  intro _ s₁ F
  with_reducible refine iDiv (by decide) (by decide) F ?_
  intro _ s₁ F
  with_reducible refine cI F ?_
  intro _ s₁ F
  with_reducible refine iMod (by decide) F ?_
  intro _ s₁ F
  obtain ⟨t1, ht1⟩ := intsAt hv (k := (m.fdiv 4096).fmod 16) hb1.1 hb1.2
  with_reducible refine subL (isList_of F.hd) hb1.1 (by omega) ht1 ?_ (by with_unfolding_all rfl)
  with_reducible refine stL F.drop1 ?_
  intro s₁ F
  with_reducible refine forS ?_
  with_reducible refine callT1 (F.gw g) (by with_unfolding_all rfl) boot_range ?_
  with_reducible refine cI F ?_
  intro _ s₁ F
  with_reducible refine callRange F ?_
  intro r _ _ s₁ F hr
  with_reducible refine forRange (n := 3) (fx := []) hh (fun i m₁ os₁ => os₁ = [] ∧ m₁ "m" = some (.int m t) ∧ ∃ t', m₁ "place" = some (.int (placeGo m i) t')) F hr (by decide) ?_ ?_ ?_ (by intro _ _; with_unfolding_all rfl)
  · exact ⟨rfl, (by with_unfolding_all rfl), _, (by with_unfolding_all rfl)⟩
  · rintro i tk m₁ _ s₁ p hi ⟨rfl, hm, t', hp⟩ F
    with_reducible refine wpAny_assign_Name ?_
    with_reducible refine stL F ?_
    intro s₁ F
    with_reducible refine asgN ?_
    with_reducible refine binO ?_
    with_reducible refine binO ?_
    with_reducible refine nmL F (by with_unfolding_all exact hm) ?_
    with_reducible refine binO ?_
    with_reducible refine cI F ?_
    intro _ s₁ F
    with_reducible refine binO ?_
    with_reducible refine cI F ?_
    intro _ s₁ F
    with_reducible refine nmL F (by with_unfolding_all rfl) ?_
    with_reducible refine iSub F ?_
    intro _ s₁ F
    with_reducible refine iPow (by omega) (by omega) (by decide) F ?_
    intro _ s₁ F
    have hp8 : (8 : Int) ^ (2 - (i : Int)).toNat ≠ 0 ∧ ((8 : Int) ^ (2 - (i : Int)).toNat).natAbs < 1073741824 := by
      rcases (by omega : i = 0 ∨ i = 1 ∨ i = 2) with rfl | rfl | rfl <;> decide
    have hp2 : (2 : Int) ^ (11 - (i : Int)).toNat ≠ 0 ∧ ((2 : Int) ^ (11 - (i : Int)).toNat).natAbs < 1073741824 := by
      rcases (by omega : i = 0 ∨ i = 1 ∨ i = 2) with rfl | rfl | rfl <;> decide
    with_reducible refine iDiv hp8.1 hp8.2 F ?_
    intro _ s₁ F
    with_reducible refine cI F ?_
    intro _ s₁ F
    with_reducible refine iMod (by decide) F ?_
    intro _ s₁ F
    with_reducible refine stL F ?_
    intro s₁ F
    with_reducible refine asgN ?_
    with_reducible refine binO ?_
    with_reducible refine binO ?_
    with_reducible refine nmL F (by with_unfolding_all exact hm) ?_
    with_reducible refine binO ?_
    with_reducible refine cI F ?_
    intro _ s₁ F
    with_reducible refine binO ?_
    with_reducible refine cI F ?_
    intro _ s₁ F
    with_reducible refine nmL F (by with_unfolding_all rfl) ?_
    with_reducible refine iSub F ?_
    intro _ s₁ F
    with_reducible refine iPow (by omega) (by omega) (by decide) F ?_
    intro _ s₁ F
    with_reducible refine iDiv hp2.1 hp2.2 F ?_
    intro _ s₁ F
    with_reducible refine cI F ?_
    intro _ s₁ F
    with_reducible refine iMod (by decide) F ?_
    intro _ s₁ F
    with_reducible refine stL F ?_
    intro s₁ F
    with_reducible refine asgN ?_
    with_reducible refine binO ?_
    with_reducible refine binO ?_
    with_reducible refine binO ?_
    with_reducible refine nmL F (by with_unfolding_all exact hp) ?_
    with_reducible refine cI F ?_
    intro _ s₁ F
    with_reducible refine iMul (mulOk_r (by decide) (by decide)) F ?_
    intro _ s₁ F
    with_reducible refine binO ?_
    with_reducible refine binO ?_
    with_reducible refine nmL F (by with_unfolding_all rfl) ?_
    with_reducible refine cI F ?_
    intro _ s₁ F
    with_reducible refine iDiv (by decide) (by decide) F ?_
    intro _ s₁ F
    with_reducible refine cI F ?_
    intro _ s₁ F
    with_reducible refine iMul (mulOk_r (by decide) (by decide)) F ?_
    intro _ s₁ F
    with_reducible refine iAdd F ?_
    intro _ s₁ F
    with_reducible refine Subscript_ ?_
    with_reducible refine dispI F (ns := xTab) (by with_unfolding_all repeat constructor) (by decide) ?_
    intro l2 vs2 s₁ hv2 F
    with_reducible refine binO ?_
    with_reducible refine binO ?_
    with_reducible refine nmL F (by with_unfolding_all rfl) ?_
    with_reducible refine cI F ?_
    intro _ s₁ F
    with_reducible refine iMod (by decide) F ?_
    intro _ s₁ F
    with_reducible refine binO ?_
    with_reducible refine cI F ?_
    intro _ s₁ F
    with_reducible refine nmL F (by with_unfolding_all rfl) ?_
    have hb2 := fmod_bounds ((m.fdiv (8 ^ (2 - (i : Int)).toNat)).fmod 8) (b := 2) (by decide)
    have hb3 := fmod_bounds (m.fdiv (2 ^ (11 - (i : Int)).toNat)) (b := 2) (by decide)
    with_reducible refine iMul (mulOk_r (by omega) (by omega)) F ?_
    intro _ s₁ F
    with_reducible refine iAdd F ?_
    intro _ s₁ F
    obtain ⟨t2, ht2⟩ := intsAt hv2 (k := ((m.fdiv (8 ^ (2 - (i : Int)).toNat)).fmod 8).fmod 2 + 2 * (m.fdiv (2 ^ (11 - (i : Int)).toNat)).fmod 2) (by omega) (by show _ < (4 : Int); omega)
    with_reducible refine subL (isList_of F.hd) (by omega) (by omega) ht2 ?_ (by with_unfolding_all rfl)
    with_reducible refine iAdd F ?_
    intro _ s₁ F
    with_reducible refine stL F.drop1 ?_
    intro s₁ F
    with_reducible refine wpAny_execs_nil ?_
    exact ⟨_, [], ⟨rfl, (by with_unfolding_all exact hm), _, (by with_unfolding_all rfl)⟩, F⟩
  · rintro m₁ _ s₁ ⟨rfl, hm, t', hp⟩ F
    with_reducible refine wpAny_execs_nil ?_
    dsimp only
    with_reducible refine retS ?_
    with_reducible refine nmL F hp ?_
    exact h _ _ F.keeps
end
end Mine
set_option maxHeartbeats 400000
set_option linter.unusedVariables false
namespace Mine
noncomputable section
variable {w : World} {A : Around} {s : Shared} {Q E : Value → Shared → Prop}

/-- the rows of _law_signs, each a menu of signs -/
def rowTab : List (List Nat) := [[45, 84, 116, 120], [45, 119], [45, 114], [45, 83, 115, 120], [45, 119], [45, 114], [45, 83, 115, 120], [45, 119], [45, 114]]
def kindSigns : List Nat := [45, 63, 98, 99, 100, 108, 112, 115]
/-- what is left of the place behind k rows; the signs so far -/
def restGo (p : Nat) : Nat → Nat
  | 0 => p
  | k + 1 => restGo p k / (rowTab.getD k []).length
def signGo (p : Nat) : Nat → List Nat
  | 0 => []
  | k + 1 => (rowTab.getD k []).getD (restGo p k % (rowTab.getD k []).length) 0 :: signGo p k
def signsOf (p : Nat) : List Nat := kindSigns.getD (restGo p 9) 0 :: signGo p 9

theorem strsAt {vs : List Value} {ns : List (List Nat)} (h : StrsAre vs (ns.map S)) {k : Nat} {v : Value} (hv : vs[k]? = some v) : ∃ l t, ns[k]? = some l ∧ v = .str (S l) t := by
  obtain ⟨y, t, rfl, hy⟩ := h.item k v hv
  rw [List.getElem?_map] at hy
  obtain ⟨l, hl, rfl⟩ := Option.map_eq_some_iff.mp hy
  exact ⟨l, t, hl, rfl⟩
theorem signGo_length (p : Nat) : ∀ k, (signGo p k).length = k
  | 0 => rfl
  | k + 1 => by simp [signGo, signGo_length p k]
theorem rowTab_at {k : Nat} {l : List Nat} (h : rowTab[k]? = some l) : rowTab.getD k [] = l ∧ k < 9 ∧ (l.length = 2 ∨ l.length = 4) := by
  have hk : k < 9 := (List.getElem?_eq_some_iff.mp h).1
  refine ⟨by rw [List.getD_eq_getElem?_getD, h]; rfl, hk, ?_⟩
  revert l
  rcases (by omega : k = 0 ∨ k = 1 ∨ k = 2 ∨ k = 3 ∨ k = 4 ∨ k = 5 ∨ k = 6 ∨ k = 7 ∨ k = 8) with rfl | rfl | rfl | rfl | rfl | rfl | rfl | rfl | rfl <;> (intro l h; simp [rowTab] at h; subst h; simp)
theorem fmod_nat (a b : Nat) : ((a : Int)).fmod (b : Int) = ((a % b : Nat) : Int) := by rw [Int.fmod_eq_emod_of_nonneg _ (by omega)]; rfl
theorem fdiv_nat (a b : Nat) : ((a : Int)).fdiv (b : Int) = ((a / b : Nat) : Int) := by rw [Int.fdiv_eq_ediv_of_nonneg _ (by omega)]; rfl

theorem signs_spec {p : Nat} {t : Tok} (hp : p < 32768) (g : Gw w s.heap) (hr : A.depth < recursionLimit) (hh : A.handled = none) (h : ∀ s' t', Keeps s s' → Q (.str (S (signsOf p)) t') s') :
    wpAny (model pr w) A (call (.ref 133) [.int p t]) Q E s := by
  with_reducible refine callDef g (by with_unfolding_all rfl) (by with_unfolding_all rfl) (by with_unfolding_all rfl) (by with_unfolding_all rfl) hr (BindsTo.of_eq (binds := [(Str.ofString "place", .int p t)]) (by with_unfolding_all rfl)) (by decide) (locs (by with_unfolding_all rfl)) ?_
  intro A s₁ hA hA1 hA2 hA3 hT F
  have hh := hA1.trans hh
  with_reducible refine asgN ?_
  with_reducible refine cT (l := []) (by decide +kernel) F ?_
  intro _ s₁ F
  with_reducible refine stL F ?_
  intro s₁ F
  with_reducible refine asgN ?_
  with_reducible refine nmL F (by with_unfolding_all rfl) ?_
  with_reducible refine stL F ?_
  intro s₁ F
  with_reducible refine forS ?_
  with_reducible refine dispT (ns := rowTab) F ?_ (by decide) ?_
  · repeat (first | exact CS.nil | refine CS.cons (by decide +kernel) ?_)
  intro l vs s₁ hv F
  with_reducible refine forList (fx := [(l, listO vs)]) (os := []) hh (fun i m₁ os₁ => os₁ = [] ∧ (∃ t', m₁ "rest" = some (.int (restGo p i : Nat) t')) ∧ ∃ t', m₁ "signs" = some (.str (S (signGo p i)) t')) F (isList_of F.hd) ?_ ?_ ?_ ?_ ?_
  · exact .inr ⟨_, List.mem_singleton.mpr rfl⟩
  · exact ⟨rfl, ⟨_, (by with_unfolding_all rfl)⟩, _, (by with_unfolding_all rfl)⟩
  · rintro i v m₁ _ s₁ q hi ⟨rfl, ⟨tr, hrest⟩, ts, hsg⟩ F
    obtain ⟨row, tw, hrow, rfl⟩ := strsAt hv (by simpa using hi)
    obtain ⟨hrw, hi9, hlen⟩ := rowTab_at hrow
    with_reducible refine wpAny_assign_Name ?_
    with_reducible refine stL F ?_
    intro s₁ F
    with_reducible refine asgN ?_
    with_reducible refine binO ?_
    with_reducible refine Subscript_ ?_
    with_reducible refine nmL F (by with_unfolding_all rfl) ?_
    with_reducible refine binO ?_
    with_reducible refine nmL F (by with_unfolding_all exact hrest) ?_
    with_reducible refine callB1 (F.gw g) (by with_unfolding_all rfl) boot_len ?_
    with_reducible refine nmL F (by with_unfolding_all rfl) ?_
    with_reducible refine sLen (by omega) F ?_
    intro _ s₁ F
    with_reducible refine iMod (by omega) F ?_
    intro _ s₁ F
    have e1 := fmod_nat (restGo p i) row.length
    have e2 := fdiv_nat (restGo p i) row.length
    have hlt : restGo p i % row.length < row.length := Nat.mod_lt _ (by omega)
    have hc : row[((restGo p i : Int).fmod (row.length : Int)).toNat]? = some (row.getD (restGo p i % row.length) 0) := by
      rw [e1, Int.toNat_natCast, List.getD_eq_getElem?_getD, List.getElem?_eq_getElem hlt]; rfl
    with_reducible refine sItem (by omega) (by omega) hc F ?_
    intro _ s₁ F
    with_reducible refine nmL F (by with_unfolding_all exact hsg) ?_
    with_reducible refine sAdd (by simp [signGo_length]; omega) F ?_
    intro _ s₁ F
    with_reducible refine stL F ?_
    intro s₁ F
    with_reducible refine asgN ?_
    with_reducible refine binO ?_
    with_reducible refine nmL F (by with_unfolding_all exact hrest) ?_
    with_reducible refine callB1 (F.gw g) (by with_unfolding_all rfl) boot_len ?_
    with_reducible refine nmL F (by with_unfolding_all rfl) ?_
    with_reducible refine sLen (by omega) F ?_
    intro _ s₁ F
    with_reducible refine iDiv (by omega) (by omega) F ?_
    intro _ s₁ F
    with_reducible refine stL F ?_
    intro s₁ F
    with_reducible refine wpAny_execs_nil ?_
    exact ⟨_, [], ⟨rfl, ⟨_, (by rw [restGo, hrw, ← e2]; with_unfolding_all rfl)⟩, _, (by rw [signGo, hrw]; with_unfolding_all rfl)⟩, F⟩
  · rintro m₁ _ s₁ ⟨rfl, ⟨tr, hrest⟩, ts, hsg⟩ F
    have h9 : vs.toArray.size = 9 := by rw [List.size_toArray, hv.length]; rfl
    rw [h9] at hrest hsg
    with_reducible refine wpAny_execs_nil ?_
    dsimp only
    with_reducible refine retS ?_
    with_reducible refine binO ?_
    with_reducible refine Subscript_ ?_
    with_reducible refine cT (l := kindSigns) (by decide +kernel) F ?_
    intro _ s₁ F
    with_reducible refine nmL F (by with_unfolding_all exact hrest) ?_
    have hk : restGo p 9 < 8 := by simp [restGo, rowTab]; omega
    have hc : kindSigns[((restGo p 9 : Nat) : Int).toNat]? = some (kindSigns.getD (restGo p 9) 0) := by
      rw [Int.toNat_natCast, List.getD_eq_getElem?_getD, List.getElem?_eq_getElem (by exact hk)]; rfl
    with_reducible refine sItem (by omega) (by decide) hc F ?_
    intro _ s₁ F
    with_reducible refine nmL F (by with_unfolding_all exact hsg) ?_
    with_reducible refine sAdd (by simp [signGo_length]) F ?_
    intro _ s₁ F
    exact h _ _ F.keeps
  · intro _ _; with_unfolding_all rfl
end
end Mine
set_option maxHeartbeats 400000
set_option linter.unusedVariables false
namespace Mine
noncomputable section
variable {w : World} {A : Around} {s : Shared} {Q E : Value → Shared → Prop}

/-- each sign c by the signs z -/
def ex (c : Nat) (z : List Nat) : List Nat → List Nat
  | [] => []
  | k :: r => (if k = c then z else [k]) ++ ex c z r
theorem ex_append (c : Nat) (z : List Nat) : ∀ a b : List Nat, ex c z (a ++ b) = ex c z a ++ ex c z b
  | [], _ => rfl
  | k :: r, b => by simp [ex, ex_append c z r b]
theorem ex_free (c : Nat) (z : List Nat) : ∀ l : List Nat, c ∉ l → ex c z l = l
  | [], _ => rfl
  | k :: r, h => by
    have h1 : ¬ k = c := fun e => h (e ▸ List.mem_cons_self ..)
    have h2 : c ∉ r := fun m => h (List.mem_cons_of_mem _ m)
    simp [ex, h1, ex_free c z r h2]
theorem ex_join (c : Nat) (z : List Nat) : ∀ parts : List Str, (∀ p ∈ parts, c ∉ p.cps.toList) → ex c z (Str.join ⟨#[c]⟩ parts).cps.toList = (Str.join (S z) parts).cps.toList
  | [], _ => rfl
  | [p], h => ex_free c z _ (h p (List.mem_singleton.mpr rfl))
  | p :: q :: r, h => by
    have ih := ex_join c z (q :: r) fun a ha => h a (List.mem_cons_of_mem _ ha)
    show ex c z (p ++ ⟨#[c]⟩ ++ Str.join ⟨#[c]⟩ (q :: r)).cps.toList = (p ++ S z ++ Str.join (S z) (q :: r)).cps.toList
    simp only [Str.cps_append, Array.toList_append]
    rw [ex_append, ex_append, ih, ex_free c z _ (h p (List.mem_cons_self ..))]
    simp [ex, S]
theorem replace_ex (l z : List Nat) (c : Nat) : Txt.replace (S l) (S [c]) (S z) = S (ex c z l) := by
  have h := StrLaws.replace_one (S l) (S z) c
  have e : (S [c]) = ⟨#[c]⟩ := rfl
  rw [e, h]
  have h2 := ex_join c z _ (StrLaws.split_free (S l) c)
  rw [StrLaws.join_split, S_toList] at h2
  rw [S_of (Str.join (S z) (Txt.split (S l) ⟨#[c]⟩)), ← h2]
theorem ex_length (c : Nat) (z : List Nat) (hz : z.length = 3) : ∀ l : List Nat, (ex c z l).length ≤ 3 * l.length
  | [] => by simp [ex]
  | k :: r => by
    have := ex_length c z hz r
    simp only [ex, List.length_append, List.length_cons]
    split <;> simp <;> omega

def wordHead : List Nat := [61, 63, 105, 115, 111, 45, 56, 56, 53, 57, 45, 49, 63, 113, 63]
def coded (l : List Nat) : List Nat := ex 63 [61, 51, 70] l
/-- the word of a place -/
def wordOf (p : Nat) : List Nat := wordHead ++ coded (signsOf p) ++ [63, 61]
theorem signsOf_length (p : Nat) : (signsOf p).length = 10 := by simp [signsOf, signGo_length]

theorem word_spec {p : Nat} {t : Tok} (hp : p < 32768) (g : Gw w s.heap) (hr : A.depth + 1 < recursionLimit) (hh : A.handled = none) (h : ∀ s' t', Keeps s s' → Q (.str (S (wordOf p)) t') s') :
    wpAny (model pr w) A (call (.ref 140) [.int p t]) Q E s := by
  with_reducible refine callDef g (by with_unfolding_all rfl) (by with_unfolding_all rfl) (by with_unfolding_all rfl) (by with_unfolding_all rfl) (by omega) (BindsTo.of_eq (binds := [(Str.ofString "place", .int p t)]) (by with_unfolding_all rfl)) (by decide) (locs (by with_unfolding_all rfl)) ?_
  intro A s₁ hA hA1 hA2 hA3 hT F
  have hh := hA1.trans hh
  have h1 : 1 ≤ s₁.toks := by simp at hT; omega
  with_reducible refine retS ?_
  with_reducible refine binO ?_
  with_reducible refine binO ?_
  with_reducible refine wpAny_with_toks h1 ?_
  with_reducible refine cT (l := wordHead) (by decide +kernel) F ?_
  intro _ s₁ F h1
  with_reducible refine meth2 ?_
  with_reducible refine callK1 (F.gw g) (by with_unfolding_all rfl) (by with_unfolding_all rfl) (by with_unfolding_all rfl) ?_
  with_reducible refine nmL F (by with_unfolding_all rfl) ?_
  refine ⟨F.gw g, ?_⟩
  with_reducible refine wpAny_with_toks h1 ?_
  with_reducible refine signs_spec hp (F.gw g) (by omega) hh ?_
  intro s₂ t2 k2 h2
  have F := F.kept k2
  with_reducible refine mS2 PySem.F.slot_str_replace PySem.F.type_str_replace ?_
  with_reducible refine cTt (l := [63]) (by decide +kernel) F ?_
  intro s₃ h3 F
  with_reducible refine cTt (l := [61, 51, 70]) (by decide +kernel) F ?_
  intro s₄ h4 F
  with_reducible refine SC.replaceW (by show s₂.toks ≠ 0; omega) (by show s₃.toks ≠ 0; omega) (by show s₂.toks ≠ s₃.toks; omega) (by decide +kernel) (by rw [S_length, signsOf_length]; decide) (by decide) ?_
  intro _ k5
  rw [replace_ex]
  have hw : wordHead.length = 15 := rfl
  have hl := ex_length 63 [61, 51, 70] rfl (signsOf p)
  rw [signsOf_length] at hl
  with_reducible refine sAdd (by omega) (F.tok k5) ?_
  intro _ s₅ F
  with_reducible refine cT (l := [63, 61]) (by decide +kernel) F ?_
  intro _ s₅ F
  with_reducible refine sAdd (by rw [List.length_append, List.length_cons, List.length_cons, List.length_nil]; omega) F ?_
  intro _ s₅ F
  exact h _ _ F.keeps
end
end Mine
set_option maxHeartbeats 400000
set_option linter.unusedVariables false
namespace Mine
noncomputable section
variable {w : World} {A : Around} {s : Shared} {Q E : Value → Shared → Prop}

def ddGo {κ : Type} [DecidableEq κ] (k : List κ) (x : κ) : List κ := if k.getLast? = some x then k else k ++ [x]
/-- each once, of a sorted row -/
def dd {κ : Type} [DecidableEq κ] (xs : List κ) : List κ := xs.foldl ddGo []
theorem ddGo_take {κ : Type} [DecidableEq κ] {xs : List κ} {i : Nat} {x : κ} (h : xs[i]? = some x) : (xs.take (i + 1)).foldl ddGo [] = ddGo ((xs.take i).foldl ddGo []) x := by
  rw [List.take_add_one, h]; simp
theorem ddGo_len {κ : Type} [DecidableEq κ] (k : List κ) (x : κ) : (ddGo k x).length ≤ k.length + 1 := by
  unfold ddGo; split <;> simp
theorem dd_len {κ : Type} [DecidableEq κ] (xs : List κ) : ∀ k : List κ, (xs.foldl ddGo k).length ≤ k.length + xs.length := by
  induction xs with
  | nil => intro k; simp
  | cons x r ih => intro k; have := ih (ddGo k x); have := ddGo_len k x; simp only [List.foldl_cons, List.length_cons]; omega
theorem intItem {vs : List Value} {ns : List Int} (h : IntsAre vs ns) {i : Nat} {v : Value} (hv : vs[i]? = some v) : ∃ n t, v = .int n t ∧ ns[i]? = some n := h.at i v hv
theorem textItem {vs : List Value} {ns : List (List Nat)} (h : TextsAre vs ns) {i : Nat} {v : Value} (hv : vs[i]? = some v) : ∃ n t, v = .str (S n) t ∧ ns[i]? = some n := by
  obtain ⟨l, t, h1, h2⟩ := strsAt h hv; exact ⟨l, t, h2, h1⟩
theorem intLast {vs : List Value} {ns : List Int} (h : IntsAre vs ns) (hn : ns ≠ []) : ∃ n t, vs.getLast? = some (.int n t) ∧ ns.getLast? = some n := by
  have hp : 0 < ns.length := List.length_pos_iff.mpr hn
  rw [List.getLast?_eq_getElem?, List.getLast?_eq_getElem?, h.length]
  obtain ⟨t, ht⟩ := h.get (ns.length - 1) (ns[ns.length - 1]) (by simp)
  exact ⟨_, t, ht, by simp⟩
theorem textLast {vs : List Value} {ns : List (List Nat)} (h : TextsAre vs ns) (hn : ns ≠ []) : ∃ n t, vs.getLast? = some (.str (S n) t) ∧ ns.getLast? = some n := by
  have hp : 0 < ns.length := List.length_pos_iff.mpr hn
  have hl : vs.length = ns.length := by rw [StrsAre.length h, List.length_map]
  rw [List.getLast?_eq_getElem?, List.getLast?_eq_getElem?, hl]
  have e : ns[ns.length - 1]? = some ns[ns.length - 1] := List.getElem?_eq_getElem _
  obtain ⟨t, ht⟩ := StrsAre.get h (ns.length - 1) (S ns[ns.length - 1]) (by rw [List.getElem?_map, e]; rfl)
  exact ⟨_, t, ht, e⟩
theorem intsLen {vs : List Value} {ns : List Int} (h : IntsAre vs ns) : vs.length = ns.length := h.length
theorem textsLen {vs : List Value} {ns : List (List Nat)} (h : TextsAre vs ns) : vs.length = ns.length := by rw [StrsAre.length h, List.length_map]
theorem Small.dd {a : List (List Nat)} (h : Small a) : ∀ k : List (List Nat), Small k → Small (a.foldl ddGo k) := by
  induction a with
  | nil => intro k hk; exact hk
  | cons x r ih =>
    intro k hk
    refine ih (fun l hl => h l (.tail _ hl)) _ ?_
    unfold ddGo
    split
    · exact hk
    · intro l hl
      rcases List.mem_append.mp hl with q | q
      · exact hk l q
      · exact h l (by rw [List.mem_singleton.mp q]; exact .head _)
theorem Small.perm {a b : List (List Nat)} (h : Small a) (p : b.Perm a) : Small b := fun l hl => h l (p.mem_iff.mp hl)
theorem Small.take {a : List (List Nat)} (h : Small a) (n : Nat) : Small (a.take n) := fun l hl => h l (List.mem_of_mem_take hl)
theorem texts_nil : TextsAre [] [] := .nil
theorem Small.nil : Small [] := fun _ h => nomatch h

theorem onceI_spec {l : Addr} {vs : List Value} {ns : List Int} (hl : s.heap.IsList l vs.toArray) (hi : IntsAre vs ns) (h64 : vs.length < 64)
    (g : Gw w s.heap) (hr : A.depth < recursionLimit) (hh : A.handled = none) (hu : A.units + 100 < cLine)
    (h : ∀ s' l' vs' ns' n, Keeps s s' → ns'.Perm ns → ns'.Pairwise (· ≤ ·) → s'.heap.get? l' = some (listO vs' n) → s.heap.get? l' = none → IntsAre vs' (dd ns') → Q (.ref l') s') :
    wpAny (model pr w) A (call (.ref 147) [.ref l]) Q E s := by
  with_reducible refine callDef g (by with_unfolding_all rfl) (by with_unfolding_all rfl) (by with_unfolding_all rfl) (by with_unfolding_all rfl) hr (BindsTo.of_eq (binds := [(Str.ofString "row", .ref l)]) (by with_unfolding_all rfl)) (by decide) (locs (by with_unfolding_all rfl)) ?_
  intro A s₁ hA hA1 hA2 hA3 hT F
  have hh := hA1.trans hh
  with_reducible refine asgN ?_
  with_reducible refine mkNil F ?_
  intro K s₁ F
  with_reducible refine stL F ?_
  intro s₁ F
  with_reducible refine forS ?_
  with_reducible refine callB1 (F.gw g) (by with_unfolding_all rfl) boot_sorted ?_
  with_reducible refine nmL F (by with_unfolding_all rfl) ?_
  with_reducible refine sortI F (hl.at fun o e => kkp F.keeps _ o e) hi h64 ?_
  intro r vs' ns' n s₁ hi' hperm hpw F
  have hlen : ns'.length < 64 := by rw [hperm.length_eq, ← intsLen hi]; exact h64
  with_reducible refine forList (fx := [(r, listO vs' n)]) (os := [(K, listO [])]) hh (fun i m₁ os₁ => m₁ "kept" = some (.ref K) ∧ ∃ kv nn, os₁ = [(K, listO kv nn)] ∧ IntsAre kv ((ns'.take i).foldl ddGo [])) F (isList_of F.hd) ?_ ?_ ?_ ?_ ?_
  · exact .inr ⟨_, List.mem_singleton.mpr rfl⟩
  · exact ⟨(by with_unfolding_all rfl), [], 0, rfl, IntsAre.nil⟩
  · rintro i v m₁ _ s₁ q hiv ⟨hK, kv, nn, rfl, hkv⟩ F
    obtain ⟨x, tx, rfl, hx⟩ := intItem hi' (by simpa using hiv)
    have hi64 : i < ns'.length := (List.getElem?_eq_some_iff.mp hx).1
    have hkl : kv.length ≤ 64 := by
      rw [intsLen hkv]
      have := dd_len (ns'.take i) []
      rw [List.length_take] at this
      simp at this
      omega
    with_reducible refine wpAny_assign_Name ?_
    with_reducible refine stL F ?_
    intro s₁ F
    with_reducible refine ifS ?_
    with_reducible refine orQ ?_
    with_reducible refine isTrueC ?_
    with_reducible refine nmL F (by with_unfolding_all exact hK) ?_
    with_reducible refine mkNil F ?_
    intro N s₁ F
    have F2 := F.drop1
    have hKl : s₁.heap.get? K = some (listO kv nn) := F2.rot3.hd
    with_reducible refine lEqI (isList_of hKl) (isList_of F.hd) hkv (ms := []) IntsAre.nil (by omega) ?_
    with_reducible refine trB ?_
    have F := F2
    by_cases hnil : (ns'.take i).foldl ddGo [] = []
    · rw [if_pos (by simpa using hnil), if_pos rfl]
      with_reducible refine exprS ?_
      with_reducible refine meth1 ?_
      with_reducible refine nmL F (by with_unfolding_all exact hK) ?_
      with_reducible refine mL1 hKl PySem.F.slot_list_append PySem.F.type_list_append ?_
      with_reducible refine nmL F (by with_unfolding_all rfl) ?_
      with_reducible refine lAppend (by omega) F.rot3 ?_
      intro nn' s₁ F
      dsimp only
      with_reducible refine wpAny_execs_nil ?_
      dsimp only
      with_reducible refine wpAny_execs_nil ?_
      have hJ : IntsAre (kv ++ [Value.int x tx]) ((ns'.take (i + 1)).foldl ddGo []) := by
        rw [ddGo_take hx, ddGo, if_neg (by rw [hnil]; simp)]
        exact ints_snoc hkv
      exact ⟨_, _, ⟨(by with_unfolding_all exact hK), _, _, rfl, hJ⟩, F.unrot3⟩
    · rw [if_neg (by simpa using hnil)]
      obtain ⟨y, ty, hly, hny⟩ := intLast hkv hnil
      with_reducible refine isTrueC ?_
      with_reducible refine Subscript_ ?_
      with_reducible refine nmL F (by with_unfolding_all exact hK) ?_
      with_reducible refine negC F ?_
      intro _ s₁ F
      have hKl : s₁.heap.get? K = some (listO kv nn) := F.rot3.hd
      with_reducible refine subLast (isList_of hKl) (by omega) hly ?_
      with_reducible refine nmL F (by with_unfolding_all rfl) ?_
      with_reducible refine ne_int ?_
      with_reducible refine trB ?_
      by_cases hxy : y = x
      · rw [if_neg (by simp [hxy])]
        with_reducible refine wpAny_execs_nil ?_
        dsimp only
        with_reducible refine wpAny_execs_nil ?_
        have hJ : IntsAre kv ((ns'.take (i + 1)).foldl ddGo []) := by
          rw [ddGo_take hx, ddGo, if_pos (by rw [hny, hxy])]
          exact hkv
        exact ⟨_, _, ⟨(by with_unfolding_all exact hK), _, _, rfl, hJ⟩, F⟩
      · rw [if_pos (by simp [hxy])]
        with_reducible refine exprS ?_
        with_reducible refine meth1 ?_
        with_reducible refine nmL F (by with_unfolding_all exact hK) ?_
        with_reducible refine mL1 hKl PySem.F.slot_list_append PySem.F.type_list_append ?_
        with_reducible refine nmL F (by with_unfolding_all rfl) ?_
        with_reducible refine lAppend (by omega) F.rot3 ?_
        intro nn' s₁ F
        dsimp only
        with_reducible refine wpAny_execs_nil ?_
        dsimp only
        with_reducible refine wpAny_execs_nil ?_
        have hJ : IntsAre (kv ++ [Value.int x tx]) ((ns'.take (i + 1)).foldl ddGo []) := by
          rw [ddGo_take hx, ddGo, if_neg (by rw [hny]; simpa using hxy)]
          exact ints_snoc hkv
        exact ⟨_, _, ⟨(by with_unfolding_all exact hK), _, _, rfl, hJ⟩, F.unrot3⟩
  · rintro m₁ _ s₁ ⟨hK, kv, nn, rfl, hkv⟩ F
    have e : vs'.toArray.size = ns'.length := by rw [List.size_toArray, intsLen hi']
    rw [e, List.take_length] at hkv
    with_reducible refine wpAny_execs_nil ?_
    dsimp only
    with_reducible refine retS ?_
    with_reducible refine nmL F (by with_unfolding_all exact hK) ?_
    exact h _ _ _ _ _ F.keeps hperm hpw F.drop1.hd (F.drop1.own _ (List.mem_cons_self ..)).2.1 hkv
  · intro _ _; with_unfolding_all rfl

theorem onceT_spec {l : Addr} {vs : List Value} {ns : List (List Nat)} (hl : s.heap.IsList l vs.toArray) (hi : TextsAre vs ns) (hsm : Small ns) (h64 : vs.length < 64)
    (g : Gw w s.heap) (hr : A.depth < recursionLimit) (hh : A.handled = none) (hu : A.units + 100 < cLine)
    (h : ∀ s' l' vs' ns' n, Keeps s s' → ns'.Perm ns → ns'.Pairwise (fun a b => ¬ b < a) → s'.heap.get? l' = some (listO vs' n) → s.heap.get? l' = none → TextsAre vs' (dd ns') → Q (.ref l') s') :
    wpAny (model pr w) A (call (.ref 147) [.ref l]) Q E s := by
  with_reducible refine callDef g (by with_unfolding_all rfl) (by with_unfolding_all rfl) (by with_unfolding_all rfl) (by with_unfolding_all rfl) hr (BindsTo.of_eq (binds := [(Str.ofString "row", .ref l)]) (by with_unfolding_all rfl)) (by decide) (locs (by with_unfolding_all rfl)) ?_
  intro A s₁ hA hA1 hA2 hA3 hT F
  have hh := hA1.trans hh
  with_reducible refine asgN ?_
  with_reducible refine mkNil F ?_
  intro K s₁ F
  with_reducible refine stL F ?_
  intro s₁ F
  with_reducible refine forS ?_
  with_reducible refine callB1 (F.gw g) (by with_unfolding_all rfl) boot_sorted ?_
  with_reducible refine nmL F (by with_unfolding_all rfl) ?_
  with_reducible refine sortT F (hl.at fun o e => kkp F.keeps _ o e) hi h64 ?_
  intro r vs' ns' n s₁ hi' hperm hpw F
  have hlen : ns'.length < 64 := by rw [hperm.length_eq, ← textsLen hi]; exact h64
  with_reducible refine forList (fx := [(r, listO vs' n)]) (os := [(K, listO [])]) hh (fun i m₁ os₁ => m₁ "kept" = some (.ref K) ∧ ∃ kv nn, os₁ = [(K, listO kv nn)] ∧ TextsAre kv ((ns'.take i).foldl ddGo [])) F (isList_of F.hd) ?_ ?_ ?_ ?_ ?_
  · exact .inr ⟨_, List.mem_singleton.mpr rfl⟩
  · exact ⟨(by with_unfolding_all rfl), [], 0, rfl, texts_nil⟩
  · rintro i v m₁ _ s₁ q hiv ⟨hK, kv, nn, rfl, hkv⟩ F
    obtain ⟨x, tx, rfl, hx⟩ := textItem hi' (by simpa using hiv)
    have hi64 : i < ns'.length := (List.getElem?_eq_some_iff.mp hx).1
    have hkl : kv.length ≤ 64 := by
      rw [textsLen hkv]
      have := dd_len (ns'.take i) []
      rw [List.length_take] at this
      simp at this
      omega
    with_reducible refine wpAny_assign_Name ?_
    with_reducible refine stL F ?_
    intro s₁ F
    with_reducible refine ifS ?_
    with_reducible refine orQ ?_
    with_reducible refine isTrueC ?_
    with_reducible refine nmL F (by with_unfolding_all exact hK) ?_
    with_reducible refine mkNil F ?_
    intro N s₁ F
    have F2 := F.drop1
    have hKl : s₁.heap.get? K = some (listO kv nn) := F2.rot3.hd
    with_reducible refine lEqT (isList_of hKl) (isList_of F.hd) hkv (ms := []) texts_nil (Small.dd ((hsm.perm hperm).take i) [] Small.nil) Small.nil (by omega) ?_
    with_reducible refine trB ?_
    have F := F2
    by_cases hnil : (ns'.take i).foldl ddGo [] = []
    · rw [if_pos (by simpa using hnil), if_pos rfl]
      with_reducible refine exprS ?_
      with_reducible refine meth1 ?_
      with_reducible refine nmL F (by with_unfolding_all exact hK) ?_
      with_reducible refine mL1 hKl PySem.F.slot_list_append PySem.F.type_list_append ?_
      with_reducible refine nmL F (by with_unfolding_all rfl) ?_
      with_reducible refine lAppend (by omega) F.rot3 ?_
      intro nn' s₁ F
      dsimp only
      with_reducible refine wpAny_execs_nil ?_
      dsimp only
      with_reducible refine wpAny_execs_nil ?_
      have hJ : TextsAre (kv ++ [Value.str (S x) tx]) ((ns'.take (i + 1)).foldl ddGo []) := by
        rw [ddGo_take hx, ddGo, if_neg (by rw [hnil]; simp)]
        exact texts_snoc hkv
      exact ⟨_, _, ⟨(by with_unfolding_all exact hK), _, _, rfl, hJ⟩, F.unrot3⟩
    · rw [if_neg (by simpa using hnil)]
      obtain ⟨y, ty, hly, hny⟩ := textLast hkv hnil
      with_reducible refine isTrueC ?_
      with_reducible refine Subscript_ ?_
      with_reducible refine nmL F (by with_unfolding_all exact hK) ?_
      with_reducible refine negC F ?_
      intro _ s₁ F
      have hKl : s₁.heap.get? K = some (listO kv nn) := F.rot3.hd
      with_reducible refine subLast (isList_of hKl) (by omega) hly ?_
      with_reducible refine nmL F (by with_unfolding_all rfl) ?_
      with_reducible refine sNe ?_
      with_reducible refine trB ?_
      by_cases hxy : y = x
      · rw [if_neg (by simp [hxy])]
        with_reducible refine wpAny_execs_nil ?_
        dsimp only
        with_reducible refine wpAny_execs_nil ?_
        have hJ : TextsAre kv ((ns'.take (i + 1)).foldl ddGo []) := by
          rw [ddGo_take hx, ddGo, if_pos (by rw [hny, hxy])]
          exact hkv
        exact ⟨_, _, ⟨(by with_unfolding_all exact hK), _, _, rfl, hJ⟩, F⟩
      · rw [if_pos (by simp [hxy])]
        with_reducible refine exprS ?_
        with_reducible refine meth1 ?_
        with_reducible refine nmL F (by with_unfolding_all exact hK) ?_
        with_reducible refine mL1 hKl PySem.F.slot_list_append PySem.F.type_list_append ?_
        with_reducible refine nmL F (by with_unfolding_all rfl) ?_
        with_reducible refine lAppend (by omega) F.rot3 ?_
        intro nn' s₁ F
        dsimp only
        with_reducible refine wpAny_execs_nil ?_
        dsimp only
        with_reducible refine wpAny_execs_nil ?_
        have hJ : TextsAre (kv ++ [Value.str (S x) tx]) ((ns'.take (i + 1)).foldl ddGo []) := by
          rw [ddGo_take hx, ddGo, if_neg (by rw [hny]; simpa using hxy)]
          exact texts_snoc hkv
        exact ⟨_, _, ⟨(by with_unfolding_all exact hK), _, _, rfl, hJ⟩, F.unrot3⟩
  · rintro m₁ _ s₁ ⟨hK, kv, nn, rfl, hkv⟩ F
    have e : vs'.toArray.size = ns'.length := by rw [List.size_toArray, textsLen hi']
    rw [e, List.take_length] at hkv
    with_reducible refine wpAny_execs_nil ?_
    dsimp only
    with_reducible refine retS ?_
    with_reducible refine nmL F (by with_unfolding_all exact hK) ?_
    exact h _ _ _ _ _ F.keeps hperm hpw F.drop1.hd (F.drop1.own _ (List.mem_cons_self ..)).2.1 hkv
  · intro _ _; with_unfolding_all rfl
end
end Mine
set_option maxHeartbeats 400000
set_option linter.unusedVariables false
namespace Mine
noncomputable section
section
variable {prog : Program} {w : World} {M : Model} {A : Around} {E : Value → Shared → Prop} {s₀ s : Shared} {L : Addr} {m : Str → Option Value} {os : List (Addr × Obj)} {env : Env} {Q : Value → Shared → Prop} {t u : Tok}
theorem lLen {l : Addr} {vs : List Value} (hl : s.heap.IsList l vs.toArray) (hz : vs.length ≤ 100000) (F : Fm s₀ L m os s) (h : ∀ t s', Fm s₀ L m os s' → Q (.int vs.length t) s') : wpAny (model prog w) A (call (.builtin "len") [.ref l]) Q E s := by
  have := h (s.toks + 1) _ (F.tok (s.toks + 1 + 1))
  exact Calls.call_len_list hl (by simp; omega) (by simpa using this)
theorem ifE {test body orelse : PySem.Expr} {pos : Pos} (h : wpAny M A (isTrue test env (eval test env)) (fun b s₁ => if b then wpAny M A (eval body env) Q E s₁ else wpAny M A (eval orelse env) Q E s₁) E s) :
    wpAny M A (eval (.IfExp test body orelse pos) env) Q E s := wpAny_IfExp h
end
variable {w : World} {A : Around} {s : Shared} {Q E : Value → Shared → Prop}

def orderOf : List Int → List Int → Int
  | [], [] => 0
  | [], _ :: _ => -1
  | _ :: _, [] => 1
  | a :: r, b :: t => if a = b then orderOf r t else if a - b > 0 then 1 else -1

theorem order_spec {l1 l2 : Addr} {vs1 vs2 : List Value} {ns1 ns2 : List Int} (hl1 : s.heap.IsList l1 vs1.toArray) (hi1 : IntsAre vs1 ns1) (hl2 : s.heap.IsList l2 vs2.toArray) (hi2 : IntsAre vs2 ns2) (hz1 : vs1.length < 64) (hz2 : vs2.length < 64)
    (g : Gw w s.heap) (hr : A.depth < recursionLimit) (hh : A.handled = none) (h : ∀ s' t', Keeps s s' → Q (.int (orderOf ns1 ns2) t') s') :
    wpAny (model pr w) A (call (.ref 154) [.ref l1, .ref l2]) Q E s := by
  with_reducible refine callDef g (by with_unfolding_all rfl) (by with_unfolding_all rfl) (by with_unfolding_all rfl) (by with_unfolding_all rfl) hr (BindsTo.of_eq (binds := [(Str.ofString "one", .ref l1), (Str.ofString "other", .ref l2)]) (by with_unfolding_all rfl)) (by decide) (locs (by with_unfolding_all rfl)) ?_
  intro A s₁ hA hA1 hA2 hA3 hT F
  have hh := hA1.trans hh
  obtain ⟨o1, k1, _⟩ := id hl1
  obtain ⟨o2, k2, _⟩ := id hl2
  have up1 : ∀ {s'}, Keeps s s' → s'.heap.IsList l1 vs1.toArray := fun k => hl1.at fun o e => kkp k _ o e
  have up2 : ∀ {s'}, Keeps s s' → s'.heap.IsList l2 vs2.toArray := fun k => hl2.at fun o e => kkp k _ o e
  with_reducible refine forS ?_
  with_reducible refine callT2 (F.gw g) (by with_unfolding_all rfl) boot_zip ?_
  with_reducible refine nmL F (by with_unfolding_all rfl) ?_
  with_reducible refine nmL F (by with_unfolding_all rfl) ?_
  with_reducible refine forZip hh (fun i m₁ os₁ => os₁ = [] ∧ m₁ "one" = some (.ref l1) ∧ m₁ "other" = some (.ref l2) ∧ orderOf ns1 ns2 = orderOf (ns1.drop i) (ns2.drop i)) F (up1 F.keeps) (up2 F.keeps) k1 k2 ?_ ?_ ?_
  · exact ⟨rfl, (by with_unfolding_all rfl), (by with_unfolding_all rfl), rfl⟩
  · rintro i x y T m₁ _ s₁ own hx hy ⟨rfl, h1, h2, hJ⟩ hT F
    obtain ⟨p, tp, rfl, hp⟩ := intItem hi1 (by simpa using hx)
    obtain ⟨q, tq, rfl, hq⟩ := intItem hi2 (by simpa using hy)
    have hd1 : ns1.drop i = p :: ns1.drop (i + 1) := by
      obtain ⟨hlt, e⟩ := List.getElem?_eq_some_iff.mp hp
      rw [List.drop_eq_getElem_cons hlt, e]
    have hd2 : ns2.drop i = q :: ns2.drop (i + 1) := by
      obtain ⟨hlt, e⟩ := List.getElem?_eq_some_iff.mp hq
      rw [List.drop_eq_getElem_cons hlt, e]
    rw [hd1, hd2, orderOf] at hJ
    with_reducible refine asPair hh F hT ?_
    intro s₁ F
    with_reducible refine ifS ?_
    with_reducible refine isTrueC ?_
    with_reducible refine nmL F (by with_unfolding_all rfl) ?_
    with_reducible refine nmL F (by with_unfolding_all rfl) ?_
    with_reducible refine ne_int ?_
    with_reducible refine trB ?_
    by_cases hpq : p = q
    · rw [if_neg (by simp [hpq])]
      with_reducible refine wpAny_execs_nil ?_
      dsimp only
      with_reducible refine wpAny_execs_nil ?_
      rw [if_pos hpq] at hJ
      exact ⟨_, [], ⟨rfl, (by with_unfolding_all exact h1), (by with_unfolding_all exact h2), hJ⟩, F⟩
    · rw [if_pos (by simp [hpq])]
      rw [if_neg hpq] at hJ
      with_reducible refine retS ?_
      with_reducible refine ifE ?_
      with_reducible refine isTrueC ?_
      with_reducible refine binO ?_
      with_reducible refine nmL F (by with_unfolding_all rfl) ?_
      with_reducible refine nmL F (by with_unfolding_all rfl) ?_
      with_reducible refine iSub F ?_
      intro _ s₁ F
      with_reducible refine cI F ?_
      intro _ s₁ F
      with_reducible refine gt_int ?_
      with_reducible refine trB ?_
      by_cases hgt : p - q > 0
      · rw [if_pos (by simpa using hgt)]
        with_reducible refine cI F ?_
        intro _ s₁ F
        rw [if_pos hgt] at hJ
        rw [hJ] at h
        exact h _ _ F.keeps
      · rw [if_neg (by simpa using hgt)]
        with_reducible refine negC F ?_
        intro _ s₁ F
        rw [if_neg hgt] at hJ
        rw [hJ] at h
        exact h _ _ F.keeps
  · rintro m₁ _ s₁ ⟨rfl, h1, h2, hJ⟩ F
    with_reducible refine wpAny_execs_nil ?_
    dsimp only
    with_reducible refine ifS ?_
    with_reducible refine isTrueC ?_
    with_reducible refine callB1 (F.gw g) (by with_unfolding_all rfl) boot_len ?_
    with_reducible refine nmL F (by with_unfolding_all exact h1) ?_
    with_reducible refine lLen (up1 F.keeps) (by omega) F ?_
    intro _ s₁ F
    with_reducible refine callB1 (F.gw g) (by with_unfolding_all rfl) boot_len ?_
    with_reducible refine nmL F (by with_unfolding_all exact h2) ?_
    with_reducible refine lLen (up2 F.keeps) (by omega) F ?_
    intro _ s₁ F
    with_reducible refine eq_int ?_
    with_reducible refine trB ?_
    have e1 := hi1.length
    have e2 := hi2.length
    rw [List.size_toArray, List.size_toArray, e1, e2] at hJ
    by_cases heq : ns1.length = ns2.length
    · rw [if_pos (by rw [e1, e2, heq]; simp)]
      with_reducible refine retS ?_
      with_reducible refine cI F ?_
      intro _ s₁ F
      have : orderOf ns1 ns2 = 0 := by
        rw [hJ, heq, Nat.min_self, List.drop_of_length_le (by omega), List.drop_of_length_le (by omega)]; rfl
      rw [this] at h
      exact h _ _ F.keeps
    · rw [if_neg (by rw [e1, e2]; simp; omega)]
      with_reducible refine wpAny_execs_nil ?_
      dsimp only
      with_reducible refine retS ?_
      with_reducible refine ifE ?_
      with_reducible refine isTrueC ?_
      with_reducible refine callB1 (F.gw g) (by with_unfolding_all rfl) boot_len ?_
      with_reducible refine nmL F (by with_unfolding_all exact h1) ?_
      with_reducible refine lLen (up1 F.keeps) (by omega) F ?_
      intro _ s₁ F
      with_reducible refine callB1 (F.gw g) (by with_unfolding_all rfl) boot_len ?_
      with_reducible refine nmL F (by with_unfolding_all exact h2) ?_
      with_reducible refine lLen (up2 F.keeps) (by omega) F ?_
      intro _ s₁ F
      with_reducible refine gt_int ?_
      with_reducible refine trB ?_
      by_cases hgt : ns1.length > ns2.length
      · rw [if_pos (by rw [e1, e2]; simp; omega)]
        with_reducible refine cI F ?_
        intro _ s₁ F
        have : orderOf ns1 ns2 = 1 := by
          rw [hJ, Nat.min_eq_right (by omega), List.drop_of_length_le (l := ns2) (by omega)]
          cases hc : ns1.drop ns2.length with
          | nil => have := congrArg List.length hc; simp at this; omega
          | cons a r => rfl
        rw [this] at h
        exact h _ _ F.keeps
      · rw [if_neg (by rw [e1, e2]; simp; omega)]
        with_reducible refine negC F ?_
        intro _ s₁ F
        have : orderOf ns1 ns2 = -1 := by
          rw [hJ, Nat.min_eq_left (by omega), List.drop_of_length_le (l := ns1) (by omega)]
          cases hc : ns2.drop ns1.length with
          | nil => have := congrArg List.length hc; simp at this; omega
          | cons a r => rfl
        rw [this] at h
        exact h _ _ F.keeps
end
end Mine
set_option maxHeartbeats 1000000
set_option linter.unusedVariables false
namespace Mine
noncomputable section

/-- lists of texts, the one before the other -/
def ltT : List (List Nat) → List (List Nat) → Bool
  | [], [] => false
  | [], _ :: _ => true
  | _ :: _, [] => false
  | x :: r, y :: t => if x = y then ltT r t else decide (x < y)

theorem textAt {vs : List Value} {ls : List (List Nat)} (h : TextsAre vs ls) {i : Nat} (hi : i < ls.length) : ∃ t, vs[i]? = some (.str (S ls[i]) t) := by
  obtain ⟨t, ht⟩ := StrsAre.get h i (S ls[i]) (by rw [List.getElem?_map, List.getElem?_eq_getElem hi]; rfl)
  exact ⟨t, ht⟩

open PySem.SeqAt PySem.MeetsSeq in
theorem lt_loopT (l b : Addr) (items items2 : List Value) (as bs : List (List Nat)) (hi : TextsAre items as) (hj : TextsAre items2 bs) (n n2 : Nat) (k : Nat) :
    ∀ i : Nat, as.length - i = k → i ≤ as.length → i ≤ bs.length → Meets (Builtin.«list.__eq__.loop» ⟨[.ref l, .ref b, rawInt i, rawInt 0], []⟩)
      (fun A R s => s.heap.get? l = some (listO items n) ∧ s.heap.get? b = some (listO items2 n2) ∧ R (.ok (.ret (.bool (ltT (as.drop i) (bs.drop i))))) s) := by
  have e1 := textsLen hi
  have e2 := textsLen hj
  induction k with
  | zero =>
    intro i hk ha hb' prog w A R s h
    obtain ⟨hp, g, d, tk, os⟩ := s; obtain ⟨hl, hb, h⟩ := h
    wp_walk using wpAny_loadPart' hl, wpAny_loadPart' hb
    have hi1 : items.toArray[((i : Nat) : Int).toNat]? = none := by simp; omega
    rw [hi1]
    wp_walk using wpAny_loadPart' hl, wpAny_loadPart' hb
    show R (.ok (.ret (.bool (decide (items.toArray.size < items2.toArray.size))))) _
    have ed : as.drop i = [] := List.drop_of_length_le (by omega)
    rw [ed] at h
    cases hc : bs.drop i with
    | nil =>
      have := congrArg List.length hc
      simp at this
      rw [hc] at h
      have e : decide (items.toArray.size < items2.toArray.size) = false := by simp; omega
      rw [e]; exact h
    | cons y r =>
      have := congrArg List.length hc
      simp at this
      rw [hc] at h
      have e : decide (items.toArray.size < items2.toArray.size) = true := by simp; omega
      rw [e]; exact h
  | succ k ih =>
    intro i hk ha hb' prog w A R s h
    obtain ⟨hp, g, d, tk, os⟩ := s; obtain ⟨hl, hb, h⟩ := h
    wp_walk using wpAny_loadPart' hl, wpAny_loadPart' hb
    have hlt : i < as.length := by omega
    obtain ⟨t1, ht1⟩ := textAt hi hlt
    have hi1 : items.toArray[((i : Nat) : Int).toNat]? = some (.str (S as[i]) t1) := by simpa using ht1
    have hd1 : as.drop i = as[i] :: as.drop (i + 1) := List.drop_eq_getElem_cons hlt
    rw [hi1]
    by_cases hlt2 : i < bs.length
    · obtain ⟨t2, ht2⟩ := textAt hj hlt2
      have hi2 : items2.toArray[((i : Nat) : Int).toNat]? = some (.str (S bs[i]) t2) := by simpa using ht2
      have hd2 : bs.drop i = bs[i] :: bs.drop (i + 1) := List.drop_eq_getElem_cons hlt2
      have hc : ((i : Int) + 1) = ((i + 1 : Nat) : Int) := by push_cast; rfl
      rw [hi2]
      rw [hd1, hd2, ltT] at h
      refine wpAny_bind (EqAt.str_str _ _ _ _ prog w _ _ ?_)
      rw [S_beq]
      by_cases hxy : as[i] = bs[i]
      · rw [if_pos hxy] at h
        have e : (as[i] == bs[i]) = true := by simpa using hxy
        rw [e]
        wp_walk
        rw [hc]
        exact ⟨plainId_quiet PySem.MeetsSeq3.plain_eq_loop _, codeAny_builtin PySem.MeetsSeq3.entry_eq_loop (by
          rw [Around.under_plainId PySem.MeetsSeq3.plain_eq_loop _]
          exact ih (i + 1) (by omega) (by omega) (by omega) prog w A R _ ⟨hl, hb, h⟩)⟩
      · rw [if_neg hxy] at h
        have e : (as[i] == bs[i]) = false := by simpa using hxy
        rw [e]
        wp_walk using wpAny_loadPart' hl, wpAny_loadPart' hb
        rw [hi1, hi2]
        refine wpAny_bind (show wpAny _ _ (richCompare .Lt _ _) _ _ _ from PyProof.Rows.lt_str ?_)
        wp_walk
        rw [S_toList, S_toList]
        exact h
    · have hi2 : items2.toArray[((i : Nat) : Int).toNat]? = none := by simp; omega
      have ed : bs.drop i = [] := List.drop_of_length_le (by omega)
      rw [hi2]
      wp_walk using wpAny_loadPart' hl, wpAny_loadPart' hb
      show R (.ok (.ret (.bool (decide (items.toArray.size < items2.toArray.size))))) _
      rw [ed, hd1] at h
      have e : decide (items.toArray.size < items2.toArray.size) = false := by simp; omega
      rw [e]; exact h
open PySem.SeqAt PySem.MeetsSeq in
theorem lLtT {prog : Program} {w : World} {A : Around} {E Q : Value → Shared → Prop} {s : Shared} {l b : Addr} {items items2 : List Value} {as bs : List (List Nat)} {n n2 : Nat} (hl : s.heap.get? l = some (listO items n)) (hb : s.heap.get? b = some (listO items2 n2))
    (hi : TextsAre items as) (hj : TextsAre items2 bs) (hu : A.units < cLine) (h : Q (.bool (ltT as bs)) s) : wpAny (model prog w) A (compareOp .Lt (.ref l) (.ref b)) Q E s := by
  show wpAny _ _ (richCompare .Lt (.ref l) (.ref b)) Q E s
  refine richCompare_meets_room (op := .Lt) (T := "list") ⟨_, hl, rfl⟩ ⟨_, hb, rfl⟩ PySem.F.slot_list_lt PySem.F.entry_list_lt (PySem.F.args_list_lt_2 _ _)
    (S := fun A R s => s.heap.get? l = some (listO items n) ∧ s.heap.get? b = some (listO items2 n2) ∧ R (.ok (.ret (.bool (ltT as bs)))) s) ?_ ⟨hl, hb, by simp, h⟩ hu
  intro prog w A R s h
  obtain ⟨hp, g, d, tk, os⟩ := s; obtain ⟨hl, hb, h⟩ := h
  have f3 := AutoSeq1.sub_list_list
  wp_walk using wpAny_loadPart' hl, wpAny_loadPart' hb
  exact ⟨plainId_quiet PySem.MeetsSeq3.plain_eq_loop _, codeAny_builtin PySem.MeetsSeq3.entry_eq_loop (by
    rw [Around.under_plainId PySem.MeetsSeq3.plain_eq_loop _]
    exact lt_loopT l b items items2 as bs hi hj n n2 _ 0 rfl (Nat.zero_le _) (Nat.zero_le _) prog w A R _ ⟨hl, hb, by simpa using h⟩)⟩
open PySem.SeqAt PySem.MeetsSeq in
theorem gt_loopT (l b : Addr) (items items2 : List Value) (as bs : List (List Nat)) (hi : TextsAre items as) (hj : TextsAre items2 bs) (n n2 : Nat) (k : Nat) :
    ∀ i : Nat, as.length - i = k → i ≤ as.length → i ≤ bs.length → Meets (Builtin.«list.__eq__.loop» ⟨[.ref l, .ref b, rawInt i, rawInt 4], []⟩)
      (fun A R s => s.heap.get? l = some (listO items n) ∧ s.heap.get? b = some (listO items2 n2) ∧ R (.ok (.ret (.bool (ltT (bs.drop i) (as.drop i))))) s) := by
  have e1 := textsLen hi
  have e2 := textsLen hj
  induction k with
  | zero =>
    intro i hk ha hb' prog w A R s h
    obtain ⟨hp, g, d, tk, os⟩ := s; obtain ⟨hl, hb, h⟩ := h
    wp_walk using wpAny_loadPart' hl, wpAny_loadPart' hb
    have hi1 : items.toArray[((i : Nat) : Int).toNat]? = none := by simp; omega
    rw [hi1]
    wp_walk using wpAny_loadPart' hl, wpAny_loadPart' hb
    show R (.ok (.ret (.bool (decide (items.toArray.size > items2.toArray.size))))) _
    have ed : as.drop i = [] := List.drop_of_length_le (by omega)
    rw [ed] at h
    cases hc : bs.drop i with
    | nil =>
      have := congrArg List.length hc
      simp at this
      rw [hc] at h
      have e : decide (items.toArray.size > items2.toArray.size) = false := by simp; omega
      rw [e]; exact h
    | cons y r =>
      have := congrArg List.length hc
      simp at this
      rw [hc] at h
      have e : decide (items.toArray.size > items2.toArray.size) = false := by simp; omega
      rw [e]; exact h
  | succ k ih =>
    intro i hk ha hb' prog w A R s h
    obtain ⟨hp, g, d, tk, os⟩ := s; obtain ⟨hl, hb, h⟩ := h
    wp_walk using wpAny_loadPart' hl, wpAny_loadPart' hb
    have hlt : i < as.length := by omega
    obtain ⟨t1, ht1⟩ := textAt hi hlt
    have hi1 : items.toArray[((i : Nat) : Int).toNat]? = some (.str (S as[i]) t1) := by simpa using ht1
    have hd1 : as.drop i = as[i] :: as.drop (i + 1) := List.drop_eq_getElem_cons hlt
    rw [hi1]
    by_cases hlt2 : i < bs.length
    · obtain ⟨t2, ht2⟩ := textAt hj hlt2
      have hi2 : items2.toArray[((i : Nat) : Int).toNat]? = some (.str (S bs[i]) t2) := by simpa using ht2
      have hd2 : bs.drop i = bs[i] :: bs.drop (i + 1) := List.drop_eq_getElem_cons hlt2
      have hc : ((i : Int) + 1) = ((i + 1 : Nat) : Int) := by push_cast; rfl
      rw [hi2]
      rw [hd1, hd2, ltT] at h
      refine wpAny_bind (EqAt.str_str _ _ _ _ prog w _ _ ?_)
      rw [S_beq]
      by_cases hxy : as[i] = bs[i]
      · rw [if_pos hxy.symm] at h
        have e : (as[i] == bs[i]) = true := by simpa using hxy
        rw [e]
        wp_walk
        rw [hc]
        exact ⟨plainId_quiet PySem.MeetsSeq3.plain_eq_loop _, codeAny_builtin PySem.MeetsSeq3.entry_eq_loop (by
          rw [Around.under_plainId PySem.MeetsSeq3.plain_eq_loop _]
          exact ih (i + 1) (by omega) (by omega) (by omega) prog w A R _ ⟨hl, hb, h⟩)⟩
      · rw [if_neg (fun e => hxy e.symm)] at h
        have e : (as[i] == bs[i]) = false := by simpa using hxy
        rw [e]
        wp_walk using wpAny_loadPart' hl, wpAny_loadPart' hb
        rw [hi1, hi2]
        refine wpAny_bind (show wpAny _ _ (richCompare .Gt _ _) _ _ _ from PySem.P.gt_str ?_)
        wp_walk
        rw [S_toList, S_toList]
        exact h
    · have hi2 : items2.toArray[((i : Nat) : Int).toNat]? = none := by simp; omega
      have ed : bs.drop i = [] := List.drop_of_length_le (by omega)
      rw [hi2]
      wp_walk using wpAny_loadPart' hl, wpAny_loadPart' hb
      show R (.ok (.ret (.bool (decide (items.toArray.size > items2.toArray.size))))) _
      rw [ed, hd1] at h
      have e : decide (items.toArray.size > items2.toArray.size) = true := by simp; omega
      rw [e]; exact h
open PySem.SeqAt PySem.MeetsSeq in
theorem lGtT {prog : Program} {w : World} {A : Around} {E Q : Value → Shared → Prop} {s : Shared} {l b : Addr} {items items2 : List Value} {as bs : List (List Nat)} {n n2 : Nat} (hl : s.heap.get? l = some (listO items n)) (hb : s.heap.get? b = some (listO items2 n2))
    (hi : TextsAre items as) (hj : TextsAre items2 bs) (hu : A.units < cLine) (h : Q (.bool (ltT bs as)) s) : wpAny (model prog w) A (compareOp .Gt (.ref l) (.ref b)) Q E s := by
  show wpAny _ _ (richCompare .Gt (.ref l) (.ref b)) Q E s
  refine richCompare_meets_room (op := .Gt) (T := "list") ⟨_, hl, rfl⟩ ⟨_, hb, rfl⟩ PySem.F.slot_list_gt PySem.F.entry_list_gt (PySem.F.args_list_gt_2 _ _)
    (S := fun A R s => s.heap.get? l = some (listO items n) ∧ s.heap.get? b = some (listO items2 n2) ∧ R (.ok (.ret (.bool (ltT bs as)))) s) ?_ ⟨hl, hb, by simp, h⟩ hu
  intro prog w A R s h
  obtain ⟨hp, g, d, tk, os⟩ := s; obtain ⟨hl, hb, h⟩ := h
  have f3 := AutoSeq1.sub_list_list
  wp_walk using wpAny_loadPart' hl, wpAny_loadPart' hb
  exact ⟨plainId_quiet PySem.MeetsSeq3.plain_eq_loop _, codeAny_builtin PySem.MeetsSeq3.entry_eq_loop (by
    rw [Around.under_plainId PySem.MeetsSeq3.plain_eq_loop _]
    exact gt_loopT l b items items2 as bs hi hj n n2 _ 0 rfl (Nat.zero_le _) (Nat.zero_le _) prog w A R _ ⟨hl, hb, by simpa using h⟩)⟩

variable {w : World} {A : Around} {s : Shared} {Q E : Value → Shared → Prop}
theorem sGt {a b : List Nat} {t u : Tok} {prog : Program} (h : Q (.bool (decide (b < a))) s) : wpAny (model prog w) A (compareOp .Gt (.str (S a) t) (.str (S b) u)) Q E s :=
  PySem.P.gt_str (by rw [S_toList, S_toList]; exact h)
def cmpT (a b : List (List Nat)) : Int := b2i (ltT b a) - b2i (ltT a b)
theorem cmp_spec {l1 l2 : Addr} {vs1 vs2 : List Value} {n1 n2 : Nat} {a b : List (List Nat)} (hl1 : s.heap.get? l1 = some (listO vs1 n1)) (hi1 : TextsAre vs1 a) (hl2 : s.heap.get? l2 = some (listO vs2 n2)) (hi2 : TextsAre vs2 b)
    (g : Gw w s.heap) (hr : A.depth < recursionLimit) (hh : A.handled = none) (hu : A.units + 100 < cLine) (h : ∀ s' t', Keeps s s' → Q (.int (cmpT a b) t') s') :
    wpAny (model pr w) A (call (.ref 72) [.ref l1, .ref l2]) Q E s := by
  with_reducible refine callDef g (by with_unfolding_all rfl) (by with_unfolding_all rfl) (by with_unfolding_all rfl) (by with_unfolding_all rfl) hr (BindsTo.of_eq (binds := [(Str.ofString "x", .ref l1), (Str.ofString "y", .ref l2)]) (by with_unfolding_all rfl)) (by decide) (locs (by with_unfolding_all rfl)) ?_
  intro A s₁ hA hA1 hA2 hA3 hT F
  with_reducible refine retS ?_
  with_reducible refine binO ?_
  with_reducible refine cmpE ?_
  with_reducible refine nmL F (by with_unfolding_all rfl) ?_
  with_reducible refine nmL F (by with_unfolding_all rfl) ?_
  with_reducible refine lGtT (kkp F.keeps _ _ hl1) (kkp F.keeps _ _ hl2) hi1 hi2 (by omega) ?_
  with_reducible refine cmpE ?_
  with_reducible refine nmL F (by with_unfolding_all rfl) ?_
  with_reducible refine nmL F (by with_unfolding_all rfl) ?_
  with_reducible refine lLtT (kkp F.keeps _ _ hl1) (kkp F.keeps _ _ hl2) hi1 hi2 (by omega) ?_
  with_reducible refine sub_bool ?_
  exact h _ _ (ktok F.keeps _)
end
end Mine
set_option maxHeartbeats 1000000
set_option linter.unusedVariables false
namespace Mine
noncomputable section
section
variable {prog : Program} {w : World} {A : Around} {E : Value → Shared → Prop} {s : Shared}

theorem nextOf_tuple_item {it l : Addr} {i : Nat} {items} {x : Value} {Q : Value → Shared → Prop} (hit : s.heap.IsTupleIter it l i) (hl : s.heap.IsTuple l items) (hx : items[i]? = some x)
    (hQ : ∀ h', h'.IsTupleIter it l (i + 1) → Heap.SameBut it s.heap h' → Q x { s with heap := h' }) : wpAny (model prog w) A (Builtin.SmallTypes.nextOf (.ref it)) Q E s := by
  obtain ⟨o, ho, hc, hd⟩ := id hit
  obtain ⟨ol, hol, _, nl, hdl⟩ := hl
  unfold Builtin.SmallTypes.nextOf
  refine wpAny_bind (wpAny_callSpecial?_slot (name := Str.ofString "__next__") hit.typeIs PySem.F.slot_tuple_iterator_next
    (wpAny_call_entry PySem.F.slot_tuple_iterator_next hit.typeIs PySem.F.entry_tuple_iterator_next ?_ (PySem.F.args_tuple_iterator_next_1 _)))
  show wpAny _ _ (field (.ref it) 0 >>= _) _ _ s
  refine wpAny_bind (wpAny_field ho hd (x := .ref l) rfl ?_)
  show wpAny _ _ (if (Value.ref l == Value.none) = true then _ else _) _ _ s
  rw [if_neg (show ¬ ((Value.ref l == Value.none) = true) from Bool.false_ne_true)]
  show wpAny _ _ (field (.ref it) 1 >>= _) _ _ s
  refine wpAny_bind (wpAny_field ho hd (x := .int i 0) rfl ?_)
  show wpAny _ _ (seqItems? (.ref l) >>= _) _ _ s
  refine wpAny_bind (wpAny_seqItems hol hdl ?_)
  simp only [Int.toNat_natCast, hx]
  refine wpAny_bind (wpAny_setField ho hd (by simp) (wpAny_pure ⟨x, rfl, wpAny_pure (hQ _ ?_ (Heap.SameBut.update ..))⟩))
  exact ⟨_, Heap.get?_update_self _ ho (Obj.isFreed_of_fields (Obj.data_mapFields hd _)), (Obj.cls_mapFields ..).trans hc, by
    rw [Obj.data_mapFields hd]; simp [rawInt]⟩
theorem nextOf_tuple_end {it l : Addr} {i : Nat} {items} {Q : Value → Shared → Prop} (hh : A.handled = none) (hit : s.heap.IsTupleIter it l i) (hl : s.heap.IsTuple l items) (hx : items[i]? = none)
    (hE : ∀ h' e, Heap.ExtBut it s.heap h' → (∃ o, h'.get? e = some o ∧ o.cls = .type "StopIteration") → E (.ref e) { s with heap := h' }) : wpAny (model prog w) A (Builtin.SmallTypes.nextOf (.ref it)) Q E s := by
  obtain ⟨o, ho, hc, hd⟩ := id hit
  obtain ⟨ol, hol, _, nl, hdl⟩ := hl
  unfold Builtin.SmallTypes.nextOf
  refine wpAny_bind (wpAny_callSpecial?_slot (name := Str.ofString "__next__") hit.typeIs PySem.F.slot_tuple_iterator_next
    (wpAny_call_entry PySem.F.slot_tuple_iterator_next hit.typeIs PySem.F.entry_tuple_iterator_next ?_ (PySem.F.args_tuple_iterator_next_1 _)))
  show wpAny _ _ (field (.ref it) 0 >>= _) _ _ s
  refine wpAny_bind (wpAny_field ho hd (x := .ref l) rfl ?_)
  show wpAny _ _ (if (Value.ref l == Value.none) = true then _ else _) _ _ s
  rw [if_neg (show ¬ ((Value.ref l == Value.none) = true) from Bool.false_ne_true)]
  show wpAny _ _ (field (.ref it) 1 >>= _) _ _ s
  refine wpAny_bind (wpAny_field ho hd (x := .int i 0) rfl ?_)
  show wpAny _ _ (seqItems? (.ref l) >>= _) _ _ s
  refine wpAny_bind (wpAny_seqItems hol hdl ?_)
  simp only [Int.toNat_natCast, hx]
  refine wpAny_bind (wpAny_rule (wpAny_bind (wpAny_setField ho hd (by simp) ?_)))
  show wpAny _ _ (newExc (.type "StopIteration") [] >>= _) _ _ _
  refine wpAny_bind ?_
  simp only [newExc, newTuple]
  refine wpAny_bind (wpAny_newObj_type ?_ (by size_fits))
  refine wpAny_bind (m := firstArgMember _ _) (wpAny_of_eq (a := Value.none) (by first | rfl | (simp only [firstArgMember]; rfl)) ?_)
  refine wpAny_newObj_type ?_ (by size_fits)
  simp only [raiseNew]
  refine wpAny_bind (wpAny_handled ?_)
  first | rw [show A.in1.handled = none from hh] | rw [hh]
  refine wpAny_bind (wpAny_pure (wpAny_throw ?_))
  exact hE _ _ (((Heap.SameBut.update ..).extBut.push _).push _) ⟨_, Heap.get?_push_size _ rfl, rfl⟩
theorem drawsTuple (hh : A.handled = none) (it l : Addr) (hne : l ≠ it) (items : Array Value) :
    Draws prog w A it [it, l] items.size (fun i v => items[i]? = some v) (fun i h => h.IsTupleIter it l i ∧ h.IsTuple l items) where
  live := fun _ _ st => let ⟨o, ho, _⟩ := st.1; ⟨o, ho⟩
  frame := fun _ _ _ st hk => ⟨st.1.at fun o e => hk it (by simp) o e, st.2.at fun o e => hk l (by simp) o e⟩
  item := fun i s Q E hi st hQ => by
    refine nextOf_tuple_item st.1 st.2 (x := items[i]) (by simp [hi]) fun h' hit' hs' => ?_
    exact hQ _ h' s.toks (by simp [hi]) ⟨hit', st.2.extBut hs'.extBut hne⟩ hs'
  done := fun s Q E st hE => nextOf_tuple_end hh st.1 st.2 (by simp) hE

theorem meets_enum_newT (l : Addr) (items : Array Value) (n : Nat) (dct : Option Addr) (sl : Array (Option Value)) :
    Meets (Builtin.«enumerate.__new__» ⟨[.type "enumerate", .ref l], []⟩) (fun _ RR s => s.heap.get? l = some { cls := .type "tuple", dict := dct, data := .seq items n, slots := sl } ∧
      RR (.ok (.ret (.ref (s.heap.push { cls := .type "tuple_iterator", data := .fields #[.ref l, .int 0 0] }).objs.size)))
        { s with heap := (s.heap.push { cls := .type "tuple_iterator", data := .fields #[.ref l, .int 0 0] }).push { cls := .type "enumerate", data := .fields #[.none, .bool false, .ref s.heap.objs.size, rawInt 0, .none, .none] } }) :=
  .of_wp fun prog w A RR s h => by
    obtain ⟨hp, g, d, tk, os⟩ := s; obtain ⟨hl, h⟩ := h
    have hsub := sub_enumerate
    have hL : Heap.IsTuple (Shared.heap ⟨hp, g, d, tk, os⟩) l items := ⟨_, hl, rfl, n, rfl⟩
    wp_walk using AutoSeq1.wpAny_loadPart' hl
    refine wpAny_stack_any fun st => wpAny_pure ?_
    split
    · rename_i c _ _ _ _ _
      cases (c == Value.type "enumerate")
      · wp_walk using AutoSeq1.wpAny_loadPart' hl, wpAny_pyIter_tuple hL
        exact ⟨_, rfl, h⟩
      · wp_walk using AutoSeq1.wpAny_loadPart' hl, wpAny_pyIter_tuple hL
        exact ⟨_, rfl, h⟩
    · wp_walk using AutoSeq1.wpAny_loadPart' hl, wpAny_pyIter_tuple hL
      exact ⟨_, rfl, h⟩
theorem call_enum_tuple {l : Addr} {items : Array Value} {Q : Value → Shared → Prop} (hL : s.heap.IsTuple l items)
    (h : ∀ h', IsEnum h' (s.heap.objs.size + 1) s.heap.objs.size 0 .none → h'.IsTupleIter s.heap.objs.size l 0 → h'.objs.size = s.heap.objs.size + 2 →
      (∀ b o, s.heap.get? b = some o → h'.get? b = some o) → Q (.ref (s.heap.objs.size + 1)) { s with heap := h' }) :
    wpAny (model prog w) A (call (.type "enumerate") [.ref l]) Q E s := by
  obtain ⟨⟨c, dct, dt, sl⟩, hl, hc, n, hd⟩ := hL
  replace hc : c = .type "tuple" := hc
  replace hd : dt = .seq items n := hd
  subst hc hd
  refine callType_new PySem.F.called_enumerate (by decide) (PySem.F.typeCall_enumerate_1 _) (PySem.F.newCall_enumerate_1 _) (fun obj => PySem.F.args_object_init_2 obj _) PySem.F.entry_enumerate_new
    (meets_enum_newT l items n dct sl) ⟨hl, ?_⟩
  have hz : (s.heap.push { cls := .type "tuple_iterator", data := .fields #[.ref l, .int 0 0] }).objs.size = s.heap.objs.size + 1 := Heap.size_push ..
  show _ ∧ _
  rw [hz]
  have he : IsEnum ((s.heap.push { cls := .type "tuple_iterator", data := .fields #[.ref l, .int 0 0] }).push
      { cls := .type "enumerate", data := .fields #[.none, .bool false, .ref s.heap.objs.size, rawInt 0, .none, .none] }) (s.heap.objs.size + 1) s.heap.objs.size 0 .none := by
    have := Heap.get?_push_size (s.heap.push { cls := .type "tuple_iterator", data := .fields #[.ref l, .int 0 0] })
      (o := { cls := .type "enumerate", data := .fields #[.none, .bool false, .ref s.heap.objs.size, rawInt 0, .none, .none] }) rfl
    rw [hz] at this; exact this
  refine ⟨⟨_, he, rfl⟩, h _ he ⟨_, Heap.get?_push_of_some _ (Heap.get?_push_size _ rfl), rfl, rfl⟩ (by rw [Heap.size_push, hz]) fun b o x => Heap.get?_push_of_some _ (Heap.get?_push_of_some _ x)⟩

theorem letGo_tupit {elts : List PySem.Expr} {x1} {pos : Pos} {I l T : Addr} {i : Nat} {Q : Unit → Shared → Prop} (hit : s.heap.IsTupleIter I l i) (hQ : Q () s) :
    wpAny (model prog w) A (letOwnedTupleGo (.Tuple elts x1 pos) (.ref I) (.ref T)) Q E s := by
  obtain ⟨o, ho, hc, hd⟩ := hit
  unfold letOwnedTupleGo
  refine wpAny_bind (wpAny_load ho ?_)
  rw [hc, hd]
  show wpAny _ A (if (["enumerate", "zip", "dict_itemiterator", "dict_reverseitemiterator", "odict_iterator", "itertools.zip_longest", "itertools.pairwise"].contains "tuple_iterator" &&
      (#[.ref l, .int i 0] : Array Value)[0]? == some (rawInt T)) = true then _ else _) Q E s
  rw [if_neg (by
    intro h
    rw [show (["enumerate", "zip", "dict_itemiterator", "dict_reverseitemiterator", "odict_iterator", "itertools.zip_longest", "itertools.pairwise"].contains "tuple_iterator") = false from by decide, Bool.false_and] at h
    cases h)]
  exact wpAny_pure hQ
theorem walksTT (hh : A.handled = none) (I ax : Addr) (hne : ax ≠ I) (items : Array Value) (Ts : Nat → Addr) (vals : Nat → Array Value)
    (hit : ∀ j, j < items.size → items[j]? = some (.ref (Ts j))) (hTI : ∀ j, j < items.size → Ts j ≠ I) :
    WalksU prog w A I (I :: ax :: (List.range items.size).map Ts) [I] items.size (fun j v => v = vals j)
      (fun j h => h.IsTupleIter I ax j ∧ h.IsTuple ax items ∧ ∀ k, k < items.size → h.IsTuple (Ts k) (vals k))
      (fun j T h => (j < items.size ∧ T = Ts j) ∧ h.IsTupleIter I ax (j + 1) ∧ h.IsTuple ax items ∧ ∀ k, k < items.size → h.IsTuple (Ts k) (vals k)) where
  sub := fun b hb => by simp at hb; simp [hb]
  frame := fun _ _ _ st hk => ⟨st.1.at fun o e => hk I (by simp) o e, st.2.1.at fun o e => hk ax (by simp) o e,
    fun k hk' => (st.2.2 k hk').at fun o e => hk (Ts k) (List.mem_cons_of_mem _ (List.mem_cons_of_mem _ (List.mem_map.mpr ⟨k, List.mem_range.mpr hk', rfl⟩))) o e⟩
  item := fun i s Q E hi st hQ => by
    refine wpAny_pyNext_tuple_item st.1 st.2.1 (x := .ref (Ts i)) (hit i hi) fun h' hit' hs' => ?_
    have tup : ∀ k, k < items.size → h'.IsTuple (Ts k) (vals k) := fun k hk' => (st.2.2 k hk').extBut hs'.extBut (hTI k hk')
    exact hQ (Ts i) (vals i) h' s.toks rfl (tup i hi) ⟨⟨hi, rfl⟩, hit', st.2.1.extBut hs'.extBut hne, tup⟩ fun b o hb e => hs'.extBut b o (fun h => hb (by simp [h])) e
  go := fun _ _ _ _ _ s Q _ hm hQ => letGo_tupit hm.2.1 (hQ s.heap hm.2 fun _ _ _ e => e)
  apart := fun j T _ hm hmem => by
    rcases List.mem_cons.mp hmem with e | e
    · exact hTI j hm.1.1 (hm.1.2 ▸ e)
    · cases e
  done := fun s Q E st hQ => wpAny_pyNext_tuple_end hh st.1 st.2.1 (by simp) fun h' he' => hQ h' s.toks fun b o hb e => he' b o (fun h => hb (by simp [h])) e
  self := fun _ _ _ _ st hQ => wpAny_pyIter_tupleiter st.1 hQ
end
section
variable {prog : Program} {w : World} {M : Model} {A : Around} {E : Value → Shared → Prop} {s₀ s : Shared} {L : Addr} {m : Str → Option Value} {os : List (Addr × Obj)} {env : Env} {Q : Value → Shared → Prop} {t u : Tok}
/-- enumerate(a tuple that stood before the call), looped over -/
theorem forEnum {elts : List PySem.Expr} {kk : Nat} {tpos : Pos} {body orelse : List Stmt} {l : Addr} {xs : Array Value} {R : Result → Shared → Prop}
    (hh : A.handled = none) (J : Nat → (Str → Option Value) → List (Addr × Obj) → Prop)
    (F : Fm s₀ env.locals m os s) (hl : s₀.heap.IsTuple l xs) (h0 : J 0 m os)
    (turn : ∀ i x t T m₁ os₁ s₁ own, xs[i]? = some x → J i m₁ os₁ → s₁.heap.IsTuple T #[.int (i : Nat) t, x] → Fm s₀ env.locals m₁ (own ++ os₁) s₁ →
      wpAny (model prog w) A (assign (.Tuple elts kk tpos) env (.ref T)) (fun _ s₂ => wpAny (model prog w) A (execs body env) (fun f s₃ => match f with
        | .next | .cont => ∃ m₂ os₂, J (i + 1) m₂ os₂ ∧ Fm s₀ env.locals m₂ (own ++ os₂) s₃
        | .brk => R (.ok .next) s₃
        | .ret v => R (.ok (.ret v)) s₃) (fun _ _ => False) s₂) (fun _ _ => False) s₁)
    (done : ∀ m₁ os₁ s₁, J xs.size m₁ os₁ → Fm s₀ env.locals m₁ os₁ s₁ → wpAny (model prog w) A (execs orelse env) (fun f s₃ => R (.ok f) s₃) (fun _ _ => False) s₁) :
    wpAny (model prog w) A (call (.type "enumerate") [.ref l]) (fun xv s₁ => wpAny (model prog w) A (pyIter xv) (fun it s₂ => codeAny (model prog w) A (.forLoop (.Tuple elts kk tpos) it body orelse env) R s₂) E s₁) E s := by
  have hls : s.heap.IsTuple l xs := hl.at fun o e => kkp F.keeps _ _ e
  have a1 : l < s.heap.objs.size := by obtain ⟨_, e, _⟩ := hls; exact Heap.lt_size e
  obtain ⟨ol, hol, _⟩ := id hl
  refine call_enum_tuple hls fun h' hE hI _ hk => ?_
  refine wpAny_pyIter_enum hE ?_
  have Fk : Fm s₀ env.locals m ([] ++ os) { s with heap := h' } := F.kept ⟨h', s.toks, rfl, hk⟩
  have D := drawsTuple (prog := prog) (w := w) (A := A.in1) hh s.heap.objs.size l (Nat.ne_of_lt a1) xs
  refine codeForU (fx := []) (WalksT.enumerateD D (s.heap.objs.size + 1) (Nat.succ_ne_self _) ?_ (List.mem_cons_self ..)).toU J Fk ?_ ?_ ?_ ?_ ?_ ⟨⟨_, hE⟩, hI, hls.at fun o e => hk _ o e⟩ h0 ?_ ?_
  · intro hm
    simp only [List.mem_cons, List.not_mem_nil, or_false] at hm
    rcases hm with e | e
    · exact Nat.succ_ne_self _ e
    · exact Nat.ne_of_gt (Nat.lt_succ_of_lt a1) e
  · simp
  · intro b hb
    have : s.heap.objs.size ≤ b := by
      simp only [List.mem_cons, List.not_mem_nil, or_false] at hb
      rcases hb with rfl | rfl <;> simp
    exact ⟨(fm_ge F this).1, (fm_ge F this).2.1⟩
  · intro b hb hm
    have hge : s.heap.objs.size ≤ b := by
      simp only [List.mem_cons, List.not_mem_nil, or_false] at hb
      rcases hb with rfl | rfl <;> simp
    exact (fm_ge F hge).2.2 hm
  · intro b hb
    simp only [List.mem_cons, List.not_mem_nil, or_false] at hb ⊢
    rcases hb with rfl | rfl | rfl
    · simp
    · simp
    · exact .inr (.inl ⟨_, hol⟩)
  · rintro i h ⟨⟨_, b1⟩, ⟨_, b2, _⟩, _⟩ b hb
    simp only [List.mem_cons, List.not_mem_nil, or_false] at hb
    rcases hb with rfl | rfl
    · exact ⟨_, b1⟩
    · exact ⟨_, b2⟩
  · rintro i vals T m₁ os₁ s₁ own hi ⟨t, x, hx, rfl⟩ hJ hT F₁
    exact turn i x t T m₁ os₁ s₁ own hx hJ hT F₁
  · intro m₁ os₁ s₁ hJ F₁
    exact done m₁ os₁ s₁ hJ F₁
/-- a tuple of pairs that stood before the call, looped over -/
theorem forPairs {elts : List PySem.Expr} {kk : Nat} {tpos : Pos} {body orelse : List Stmt} {l : Addr} {R : Result → Shared → Prop} (items : Array Value) (Ts : Nat → Addr) (vals : Nat → Array Value)
    (hit : ∀ j, j < items.size → items[j]? = some (.ref (Ts j)))
    (hh : A.handled = none) (J : Nat → (Str → Option Value) → List (Addr × Obj) → Prop)
    (F : Fm s₀ env.locals m os s) (hl : s₀.heap.IsTuple l items) (hT : ∀ k, k < items.size → s₀.heap.IsTuple (Ts k) (vals k)) (h0 : J 0 m os)
    (turn : ∀ i T m₁ os₁ s₁ own, i < items.size → J i m₁ os₁ → s₁.heap.IsTuple T (vals i) → Fm s₀ env.locals m₁ (own ++ os₁) s₁ →
      wpAny (model prog w) A (assign (.Tuple elts kk tpos) env (.ref T)) (fun _ s₂ => wpAny (model prog w) A (execs body env) (fun f s₃ => match f with
        | .next | .cont => ∃ m₂ os₂, J (i + 1) m₂ os₂ ∧ Fm s₀ env.locals m₂ (own ++ os₂) s₃
        | .brk => R (.ok .next) s₃
        | .ret v => R (.ok (.ret v)) s₃) (fun _ _ => False) s₂) (fun _ _ => False) s₁)
    (done : ∀ m₁ os₁ s₁, J items.size m₁ os₁ → Fm s₀ env.locals m₁ os₁ s₁ → wpAny (model prog w) A (execs orelse env) (fun f s₃ => R (.ok f) s₃) (fun _ _ => False) s₁) :
    wpAny (model prog w) A (pyIter (.ref l)) (fun it s₂ => codeAny (model prog w) A (.forLoop (.Tuple elts kk tpos) it body orelse env) R s₂) E s := by
  have kp : Kp s₀.heap s.heap := kkp F.keeps
  have hls : s.heap.IsTuple l items := hl.at fun o e => kp _ _ e
  have hTs : ∀ k, k < items.size → s.heap.IsTuple (Ts k) (vals k) := fun k hk => (hT k hk).at fun o e => kp _ _ e
  have a1 : l < s.heap.objs.size := by obtain ⟨_, e, _⟩ := hls; exact Heap.lt_size e
  have a2 : ∀ k, k < items.size → Ts k ≠ s.heap.objs.size := fun k hk => by obtain ⟨_, e, _⟩ := hTs k hk; exact Nat.ne_of_lt (Heap.lt_size e)
  obtain ⟨ol, hol, _⟩ := id hl
  refine wpAny_pyIter_tuple hls ?_
  have Fk : Fm s₀ env.locals m ([] ++ os) { s with heap := s.heap.push { cls := .type "tuple_iterator", data := .fields #[.ref l, .int 0 0] } } := (F.push _).drop1
  refine codeForU (fx := []) (walksTT hh s.heap.objs.size l (Nat.ne_of_lt a1) items Ts vals hit a2) J Fk ?_ ?_ ?_ ?_ ?_ ⟨⟨_, Heap.get?_push_size _ rfl, rfl, rfl⟩, hls.push _, fun k hk => (hTs k hk).push _⟩ h0 ?_ ?_
  · simp
  · intro b hb
    rw [List.mem_singleton.mp hb]
    exact ⟨(fm_ge F (Nat.le_refl _)).1, (fm_ge F (Nat.le_refl _)).2.1⟩
  · intro b hb hm
    rw [List.mem_singleton.mp hb] at hm
    exact (fm_ge F (Nat.le_refl _)).2.2 hm
  · intro b hb
    rcases List.mem_cons.mp hb with rfl | hb
    · simp
    · rcases List.mem_cons.mp hb with rfl | hb
      · exact .inr (.inl ⟨_, hol⟩)
      · obtain ⟨k, hk, rfl⟩ := List.mem_map.mp hb
        obtain ⟨o, ho, _⟩ := hT k (List.mem_range.mp hk)
        exact .inr (.inl ⟨_, ho⟩)
  · rintro i h ⟨⟨_, b1, _⟩, _⟩ b hb
    rw [List.mem_singleton.mp hb]; exact ⟨_, b1⟩
  · rintro i vals' T m₁ os₁ s₁ own hi rfl hJ hT F₁
    exact turn i T m₁ os₁ s₁ own hi hJ hT F₁
  · intro m₁ os₁ s₁ hJ F₁
    exact done m₁ os₁ s₁ hJ F₁
end
end
end Mine
set_option maxHeartbeats 1000000
set_option linter.unusedVariables false
namespace Mine
noncomputable section
/-- a row of the table: its address, the bit, the sign -/
structure FRow where
  at' : Addr
  bit : Int
  t1 : Tok
  ch : Nat
  t2 : Tok
def fmTab : List (Addr × List FRow) := [(87, [⟨80, 40960, 1812, 108, 1840⟩, ⟨81, 49152, 1814, 115, 1841⟩, ⟨82, 32768, 1808, 45, 1842⟩, ⟨83, 24576, 1806, 98, 1843⟩, ⟨84, 16384, 1802, 100, 1844⟩, ⟨85, 8192, 1804, 99, 1845⟩, ⟨86, 4096, 1810, 112, 1846⟩]),
  (89, [⟨88, 256, 1822, 114, 1847⟩]),
  (91, [⟨90, 128, 1824, 119, 1848⟩]),
  (95, [⟨92, 2112, 1849, 115, 1850⟩, ⟨93, 2048, 1816, 83, 1851⟩, ⟨94, 64, 1826, 120, 1852⟩]),
  (97, [⟨96, 32, 1828, 114, 1853⟩]),
  (99, [⟨98, 16, 1830, 119, 1854⟩]),
  (103, [⟨100, 1032, 1855, 115, 1856⟩, ⟨101, 1024, 1818, 83, 1857⟩, ⟨102, 8, 1832, 120, 1858⟩]),
  (105, [⟨104, 4, 1834, 114, 1859⟩]),
  (107, [⟨106, 2, 1836, 119, 1860⟩]),
  (111, [⟨108, 513, 1861, 116, 1862⟩, ⟨109, 512, 1820, 84, 1863⟩, ⟨110, 1, 1838, 120, 1864⟩])]
def fmRow (i : Nat) : List FRow := (fmTab.getD i (0, [])).2
def fmAt (i : Nat) : Addr := (fmTab.getD i (0, [])).1
def fmTest (m : Int) (i : Nat) (r : FRow) : Bool := if i = 0 then decide (Builtin.bitAnd m 61440 = r.bit) else decide (Builtin.bitAnd m r.bit = r.bit)
/-- the sign at i -/
def fmSign (m : Int) (i : Nat) : Nat := match (fmRow i).find? (fmTest m i) with
  | some r => r.ch
  | none => if i = 0 then 63 else 45
def fmSigns (m : Int) (n : Nat) : List Nat := (List.range n).map (fmSign m)
abbrev tupO (xs : List Value) : Obj := { cls := .type "tuple", data := .seq xs.toArray }
abbrev rowVal (r : FRow) : List Value := [.int r.bit r.t1, .str (S [r.ch]) r.t2]
theorem fmK0 (w : World) : (KP w).lookup 112 = some (tupO (fmTab.map fun p => .ref p.1)) := by with_unfolding_all rfl
theorem fmK (w : World) : ∀ p ∈ fmTab, (KP w).lookup p.1 = some (tupO (p.2.map fun r => .ref r.at')) ∧ ∀ r ∈ p.2, (KP w).lookup r.at' = some (tupO (rowVal r)) := by
  unfold fmTab
  repeat (first | exact List.forall_mem_nil _ | refine List.forall_mem_cons.mpr ⟨⟨(by with_unfolding_all rfl), ?_⟩, ?_⟩ | refine List.forall_mem_cons.mpr ⟨(by with_unfolding_all rfl), ?_⟩)
theorem isTup {w : World} {h : Heap} (g : Gw w h) {a : Addr} {xs : List Value} (e : (KP w).lookup a = some (tupO xs)) : h.IsTuple a xs.toArray := ⟨_, g.K _ _ e, rfl, 0, rfl⟩
variable {w : World} {A : Around} {s : Shared} {Q E : Value → Shared → Prop}

theorem ifmt_spec {m : Int} {t : Tok} (g : Gw w s.heap) (hr : A.depth < recursionLimit) (hh : A.handled = none) (h : ∀ s' t', Keeps s s' → Q (.int (Builtin.bitAnd m 61440) t') s') :
    wpAny (model pr w) A (call (.ref 79) [.int m t]) Q E s := by
  with_reducible refine callDef g (by with_unfolding_all rfl) (by with_unfolding_all rfl) (by with_unfolding_all rfl) (by with_unfolding_all rfl) hr (BindsTo.of_eq (binds := [(Str.ofString "mode", .int m t)]) (by with_unfolding_all rfl)) (by decide) (locs (by with_unfolding_all rfl)) ?_
  intro A s₁ hA hA1 hA2 hA3 hT F
  with_reducible refine retS ?_
  with_reducible refine binO ?_
  with_reducible refine nmL F (by with_unfolding_all rfl) ?_
  with_reducible refine cI F ?_
  intro _ s₁ F
  with_reducible refine iAnd F ?_
  intro _ s₁ F
  exact h _ _ F.keeps

theorem Fm.front {s₀ s : Shared} {L : Addr} {m : Str → Option Value} {own : List (Addr × Obj)} {p : Addr × Obj} (F : Fm s₀ L m (own ++ [p]) s) : Fm s₀ L m (p :: own) s := F.perm (List.perm_append_comm (l₁ := [p]) (l₂ := own))
theorem Fm.back {s₀ s : Shared} {L : Addr} {m : Str → Option Value} {own : List (Addr × Obj)} {p : Addr × Obj} (F : Fm s₀ L m (p :: own) s) : Fm s₀ L m (own ++ [p]) s := F.perm (List.perm_append_comm (l₁ := own) (l₂ := [p]))
theorem Fm.front2 {s₀ s : Shared} {L : Addr} {m : Str → Option Value} {own o2 : List (Addr × Obj)} {p : Addr × Obj} (F : Fm s₀ L m (o2 ++ (own ++ [p])) s) : Fm s₀ L m (p :: (o2 ++ own)) s := by
  rw [← List.append_assoc] at F; exact F.front
theorem Fm.back2 {s₀ s : Shared} {L : Addr} {m : Str → Option Value} {own o2 : List (Addr × Obj)} {p : Addr × Obj} (F : Fm s₀ L m (p :: (o2 ++ own)) s) : Fm s₀ L m (own ++ [p]) s :=
  F.back.sub (by rw [List.append_assoc]; exact List.sublist_append_right _ _)

theorem fmRow_mem {i : Nat} (hi : i < fmTab.length) : (fmAt i, fmRow i) ∈ fmTab := by
  unfold fmAt fmRow
  rw [List.getD_eq_getElem?_getD, List.getElem?_eq_getElem hi]
  exact List.getElem_mem hi
theorem find_none {α : Type} {p : α → Bool} : ∀ (l : List α), (∀ (j : Nat) (x : α), l[j]? = some x → p x = false) → l.find? p = none := fun l h => by
  rw [List.find?_eq_none]
  intro x hx
  obtain ⟨j, hj⟩ := List.mem_iff_getElem?.mp hx
  simp [h j x hj]
theorem find_some {α : Type} {p : α → Bool} : ∀ (l : List α) (i : Nat) (x : α), l[i]? = some x → p x = true → (∀ (j : Nat) (y : α), j < i → l[j]? = some y → p y = false) → l.find? p = some x
  | [], i, x, h, _, _ => by simp at h
  | a :: r, 0, x, h, hp, _ => by simp at h; subst h; simp [hp]
  | a :: r, i + 1, x, h, hp, hj => by
    have := hj 0 a (by omega) (by simp)
    simp only [List.find?_cons, this]
    exact find_some r i x (by simpa using h) hp fun j y hlt hy => hj (j + 1) y (by omega) (by simpa using hy)
theorem fmSigns_succ (m : Int) (i : Nat) : (fmSigns m (i + 1)).map (fun c => [c]) = (fmSigns m i).map (fun c => [c]) ++ [[fmSign m i]] := by
  unfold fmSigns
  rw [List.range_succ, List.map_append, List.map_append]; rfl
theorem textsVals {vs : List Value} {ls : List Str} (h : StrsAre vs ls) : ∃ l : List (Str × Tok), vs = strValues l ∧ l.map (·.1) = ls := by
  induction h with
  | nil => exact ⟨[], rfl, rfl⟩
  | cons x t h ih =>
    obtain ⟨l, e1, e2⟩ := ih
    exact ⟨(x, t) :: l, by rw [e1]; rfl, by rw [List.map_cons, e2]⟩
theorem joinNil : ∀ l : List Nat, Txt.join (S []) ((l.map fun c => [c]).map S) = S l := by
  intro l
  rw [show Txt.join (S []) ((l.map fun c => [c]).map S) = Str.join (S []) ((l.map fun c => [c]).map S) from StrLaws.glued_eq_join _ _]
  have : ∀ (l : List Nat), (Str.join (S []) ((l.map fun c => [c]).map S)).cps.toList = l := by
    intro l
    induction l with
    | nil => rfl
    | cons a r ih =>
      cases r with
      | nil => rfl
      | cons b r =>
        show (S [a] ++ S [] ++ Str.join (S []) (((b :: r).map fun c => [c]).map S)).cps.toList = _
        simp only [Str.cps_append, Array.toList_append]
        rw [ih]
        simp [S]
  rw [S_of (Str.join _ _), this]

theorem filemode_spec {m : Int} {t : Tok} (g : Gw w s.heap) (hr : A.depth + 1 < recursionLimit) (hh : A.handled = none) (h : ∀ s' t', Keeps s s' → Q (.str (S (fmSigns m 10)) t') s') :
    wpAny (model pr w) A (call (.ref 119) [.int m t]) Q E s := by
  with_reducible refine callDef g (by with_unfolding_all rfl) (by with_unfolding_all rfl) (by with_unfolding_all rfl) (by with_unfolding_all rfl) (by omega) (BindsTo.of_eq (binds := [(Str.ofString "mode", .int m t)]) (by with_unfolding_all rfl)) (by decide) (locs (by with_unfolding_all rfl)) ?_
  intro A s₁ hA hA1 hA2 hA3 hT F
  have hh := hA1.trans hh
  with_reducible refine asgN ?_
  with_reducible refine mkNil F ?_
  intro l s₁ F
  with_reducible refine stL F ?_
  intro s₁ F
  with_reducible refine forS ?_
  with_reducible refine callT1 (F.gw g) (by with_unfolding_all rfl) boot_enumerate ?_
  with_reducible refine nmG (F.gw g) (v := .ref 112) (by with_unfolding_all rfl) ?_
  with_reducible refine forEnum hh (fun i m₁ os₁ => ∃ vs n, os₁ = [(l, listO vs n)] ∧ m₁ "perm" = some (.ref l) ∧ m₁ "mode" = some (.int m t) ∧ TextsAre vs ((fmSigns m i).map fun c => [c])) F (isTup g (fmK0 w)) ?_ ?_ ?_
  · exact ⟨[], 0, rfl, (by with_unfolding_all rfl), (by with_unfolding_all rfl), .nil⟩
  · rintro i x ti T m₁ _ s₁ own hx ⟨vs, n, rfl, hp, hm, hv⟩ hT F
    have hi : i < fmTab.length := by
      have := (Array.getElem?_eq_some_iff.mp hx).1
      simpa using this
    have hmem := fmRow_mem hi
    obtain ⟨kA, kR⟩ := fmK w _ hmem
    obtain rfl : x = .ref (fmAt i) := by
      have e : (fmTab.map fun p => Value.ref p.1)[i]? = some x := by simpa using hx
      rw [List.getElem?_map, List.getElem?_eq_getElem hi] at e
      simp only [Option.map_some, Option.some.injEq] at e
      rw [← e]; unfold fmAt; rw [List.getD_eq_getElem?_getD, List.getElem?_eq_getElem hi]; rfl
    have hvl : vs.length = i := by rw [hv.length]; simp [fmSigns]
    have hi10 : i < 10 := hi
    with_reducible refine asPair hh F hT ?_
    intro s₁ F
    with_reducible refine forS ?_
    with_reducible refine nmL F (by with_unfolding_all rfl) ?_
    have fin : ∀ m₂ vs₂ n₂ s₂, m₂ "perm" = some (.ref l) → m₂ "mode" = some (.int m t) → (∃ c t', vs₂ = vs ++ [.str (S [c]) t'] ∧ c = fmSign m i) → Fm s s.heap.objs.size m₂ (own ++ [(l, listO vs₂ n₂)]) s₂ →
        ∃ m₃ os₃, (∃ vs n, os₃ = [(l, listO vs n)] ∧ m₃ "perm" = some (.ref l) ∧ m₃ "mode" = some (.int m t) ∧ TextsAre vs ((fmSigns m (i + 1)).map fun c => [c])) ∧ Fm s s.heap.objs.size m₃ (own ++ os₃) s₂ := by
      rintro m₂ vs₂ n₂ s₂ h1 h2 ⟨c, t', rfl, rfl⟩ F
      refine ⟨m₂, _, ⟨_, n₂, rfl, h1, h2, ?_⟩, F⟩
      rw [fmSigns_succ]; exact texts_snoc hv
    with_reducible refine forPairs ((fmRow i).map fun r => Value.ref r.at').toArray (fun k => ((fmRow i).map fun r => r.at').getD k 0) (fun k => ((fmRow i).map fun r => (rowVal r).toArray).getD k #[]) ?_ hh (fun j m₁ os₁ => os₁ = own ++ [(l, listO vs n)] ∧ m₁ "perm" = some (.ref l) ∧ m₁ "mode" = some (.int m t) ∧ (∃ t', m₁ "index" = some (.int (i : Nat) t')) ∧ ∀ k r, k < j → (fmRow i)[k]? = some r → fmTest m i r = false) F (isTup g kA) ?_ ?_ ?_ ?_
    · intro j hj
      have hj' : j < (fmRow i).length := by simpa using hj
      simp [hj', List.getD_eq_getElem?_getD]
    · intro j hj
      have hj' : j < (fmRow i).length := by simpa using hj
      have e1 : ((fmRow i).map fun r => r.at').getD j 0 = (fmRow i)[j].at' := by simp [hj', List.getD_eq_getElem?_getD]
      have e2 : ((fmRow i).map fun r => (rowVal r).toArray).getD j #[] = (rowVal (fmRow i)[j]).toArray := by simp [hj', List.getD_eq_getElem?_getD]
      show s.heap.IsTuple (((fmRow i).map fun r => r.at').getD j 0) (((fmRow i).map fun r => (rowVal r).toArray).getD j #[])
      rw [e1, e2]
      exact isTup g (kR _ (List.getElem_mem hj'))
    · exact ⟨rfl, (by with_unfolding_all exact hp), (by with_unfolding_all exact hm), ⟨_, (by with_unfolding_all rfl)⟩, fun k r hk => absurd hk (Nat.not_lt_zero _)⟩
    · rintro j T m₁ _ s₁ o2 hj ⟨rfl, hp, hm, ⟨ti, hix⟩, hno⟩ hT F
      have hj' : j < (fmRow i).length := by simpa using hj
      obtain ⟨r, hr'⟩ : ∃ r, (fmRow i)[j]? = some r := ⟨_, List.getElem?_eq_getElem hj'⟩
      have e2 : ((fmRow i).map fun r => (rowVal r).toArray).getD j #[] = #[.int r.bit r.t1, .str (S [r.ch]) r.t2] := by
        rw [List.getD_eq_getElem?_getD, List.getElem?_map, hr']; rfl
      have hT : s₁.heap.IsTuple T #[.int r.bit r.t1, .str (S [r.ch]) r.t2] := by
        have : s₁.heap.IsTuple T (((fmRow i).map fun r => (rowVal r).toArray).getD j #[]) := hT
        rw [e2] at this; exact this
      clear e2
      have found : fmTest m i r = true → fmSign m i = r.ch := fun ht => by
        unfold fmSign
        rw [find_some (fmRow i) j r hr' ht fun k y hk hy => hno k y hk hy]
      have next : fmTest m i r = false → ∀ k y, k < j + 1 → (fmRow i)[k]? = some y → fmTest m i y = false := fun ht k y hk hy => by
        rcases Nat.lt_succ_iff_lt_or_eq.mp hk with hk | rfl
        · exact hno k y hk hy
        · rw [hr'] at hy; cases hy; exact ht
      with_reducible refine asPair hh F hT ?_
      intro s₁ F
      with_reducible refine ifS ?_
      with_reducible refine isTrueC ?_
      with_reducible refine nmL F (by with_unfolding_all exact hix) ?_
      with_reducible refine cI F ?_
      intro _ s₁ F
      with_reducible refine eq_int ?_
      with_reducible refine trB ?_
      by_cases h0 : i = 0
      · rw [if_pos (by subst h0; rfl)]
        have etest : fmTest m i r = decide (Builtin.bitAnd m 61440 = r.bit) := by unfold fmTest; rw [if_pos h0]
        with_reducible refine ifS ?_
        with_reducible refine isTrueC ?_
        with_reducible refine callK1 (F.gw g) (by with_unfolding_all rfl) (by with_unfolding_all rfl) (by with_unfolding_all rfl) ?_
        with_reducible refine nmL F (by with_unfolding_all exact hm) ?_
        refine ⟨F.gw g, ?_⟩
        with_reducible refine ifmt_spec (F.gw g) (by omega) hh ?_
        intro s₂ t2 k2
        have F := F.kept k2
        with_reducible refine nmL F (by with_unfolding_all rfl) ?_
        with_reducible refine eq_int ?_
        with_reducible refine trB ?_
        cases ht : fmTest m i r with
        | true =>
          have hb : Builtin.bitAnd m 61440 = r.bit := by rw [etest] at ht; simpa using ht
          rw [if_pos (by simpa using hb)]
          with_reducible refine exprS ?_
          with_reducible refine meth1 ?_
          with_reducible refine nmL F (by with_unfolding_all exact hp) ?_
          with_reducible refine mL1 F.front2.hd PySem.F.slot_list_append PySem.F.type_list_append ?_
          with_reducible refine nmL F (by with_unfolding_all rfl) ?_
          with_reducible refine lAppend (by omega) F.front2 ?_
          intro n' s₁ F
          dsimp only
          with_reducible refine wpAny_execs_cons (wpAny_Break ?_)
          dsimp only
          with_reducible refine wpAny_execs_nil ?_
          exact fin _ _ _ _ (by with_unfolding_all exact hp) (by with_unfolding_all exact hm) ⟨_, _, rfl, (found ht).symm⟩ F.back2
        | false =>
          have hb : ¬ Builtin.bitAnd m 61440 = r.bit := by rw [etest] at ht; simpa using ht
          rw [if_neg (by simpa using hb)]
          with_reducible refine wpAny_execs_nil ?_
          dsimp only
          with_reducible refine wpAny_execs_nil ?_
          dsimp only
          with_reducible refine wpAny_execs_nil ?_
          exact ⟨_, _, ⟨rfl, (by with_unfolding_all exact hp), (by with_unfolding_all exact hm), ⟨_, (by with_unfolding_all exact hix)⟩, next ht⟩, F⟩
      · rw [if_neg (by simpa using h0)]
        have etest : fmTest m i r = decide (Builtin.bitAnd m r.bit = r.bit) := by unfold fmTest; rw [if_neg h0]
        with_reducible refine ifS ?_
        with_reducible refine isTrueC ?_
        with_reducible refine binO ?_
        with_reducible refine nmL F (by with_unfolding_all exact hm) ?_
        with_reducible refine nmL F (by with_unfolding_all rfl) ?_
        with_reducible refine iAnd F ?_
        intro _ s₁ F
        with_reducible refine nmL F (by with_unfolding_all rfl) ?_
        with_reducible refine eq_int ?_
        with_reducible refine trB ?_
        cases ht : fmTest m i r with
        | true =>
          have hb : Builtin.bitAnd m r.bit = r.bit := by rw [etest] at ht; simpa using ht
          rw [if_pos (by simpa using hb)]
          with_reducible refine exprS ?_
          with_reducible refine meth1 ?_
          with_reducible refine nmL F (by with_unfolding_all exact hp) ?_
          with_reducible refine mL1 F.front2.hd PySem.F.slot_list_append PySem.F.type_list_append ?_
          with_reducible refine nmL F (by with_unfolding_all rfl) ?_
          with_reducible refine lAppend (by omega) F.front2 ?_
          intro n' s₁ F
          dsimp only
          with_reducible refine wpAny_execs_cons (wpAny_Break ?_)
          dsimp only
          with_reducible refine wpAny_execs_nil ?_
          exact fin _ _ _ _ (by with_unfolding_all exact hp) (by with_unfolding_all exact hm) ⟨_, _, rfl, (found ht).symm⟩ F.back2
        | false =>
          have hb : ¬ Builtin.bitAnd m r.bit = r.bit := by rw [etest] at ht; simpa using ht
          rw [if_neg (by simpa using hb)]
          with_reducible refine wpAny_execs_nil ?_
          dsimp only
          with_reducible refine wpAny_execs_nil ?_
          dsimp only
          with_reducible refine wpAny_execs_nil ?_
          exact ⟨_, _, ⟨rfl, (by with_unfolding_all exact hp), (by with_unfolding_all exact hm), ⟨_, (by with_unfolding_all exact hix)⟩, next ht⟩, F⟩
    · rintro m₁ _ s₁ ⟨rfl, hp, hm, ⟨ti, hix⟩, hno⟩ F
      have hnone : (fmRow i).find? (fmTest m i) = none := find_none _ fun k y hy => hno k y (by
        have := (List.getElem?_eq_some_iff.mp hy).1
        simpa using this) hy
      with_reducible refine ifS ?_
      with_reducible refine isTrueC ?_
      with_reducible refine nmL F (by with_unfolding_all exact hix) ?_
      with_reducible refine cI F ?_
      intro _ s₁ F
      with_reducible refine eq_int ?_
      with_reducible refine trB ?_
      by_cases h0 : i = 0
      · rw [if_pos (by subst h0; rfl)]
        with_reducible refine exprS ?_
        with_reducible refine meth1 ?_
        with_reducible refine nmL F (by with_unfolding_all exact hp) ?_
        with_reducible refine mL1 F.front.hd PySem.F.slot_list_append PySem.F.type_list_append ?_
        with_reducible refine cT (l := [63]) (by decide +kernel) F ?_
        intro _ s₁ F
        with_reducible refine lAppend (by omega) F.front ?_
        intro n' s₁ F
        dsimp only
        with_reducible refine wpAny_execs_nil ?_
        dsimp only
        with_reducible refine wpAny_execs_nil ?_
        dsimp only
        with_reducible refine wpAny_execs_nil ?_
        exact fin _ _ _ _ (by with_unfolding_all exact hp) (by with_unfolding_all exact hm) ⟨_, _, rfl, (by unfold fmSign; rw [hnone]; exact (if_pos h0).symm)⟩ F.back
      · rw [if_neg (by simpa using h0)]
        with_reducible refine exprS ?_
        with_reducible refine meth1 ?_
        with_reducible refine nmL F (by with_unfolding_all exact hp) ?_
        with_reducible refine mL1 F.front.hd PySem.F.slot_list_append PySem.F.type_list_append ?_
        with_reducible refine cT (l := [45]) (by decide +kernel) F ?_
        intro _ s₁ F
        with_reducible refine lAppend (by omega) F.front ?_
        intro n' s₁ F
        dsimp only
        with_reducible refine wpAny_execs_nil ?_
        dsimp only
        with_reducible refine wpAny_execs_nil ?_
        dsimp only
        with_reducible refine wpAny_execs_nil ?_
        exact fin _ _ _ _ (by with_unfolding_all exact hp) (by with_unfolding_all exact hm) ⟨_, _, rfl, (by unfold fmSign; rw [hnone]; exact (if_neg h0).symm)⟩ F.back
  · rintro m₁ _ s₁ ⟨vs, n, rfl, hp, hm, hv⟩ F
    with_reducible refine wpAny_execs_nil ?_
    dsimp only
    with_reducible refine retS ?_
    with_reducible refine meth1 ?_
    with_reducible refine cT (l := []) (by decide +kernel) F ?_
    intro _ s₁ F
    with_reducible refine mS1 PySem.F.slot_str_join PySem.F.type_str_join ?_
    with_reducible refine nmL F (by with_unfolding_all exact hp) ?_
    have hl10 : (fmTab.map fun p => Value.ref p.1).toArray.size = 10 := rfl
    rw [hl10] at hv
    obtain ⟨ll, rfl, hll⟩ := textsVals hv
    with_reducible refine SC.join (isList_of F.hd) hll (by with_unfolding_all rfl) ?_
    intro t' k
    rw [joinNil]
    exact h _ _ (F.tok k).keeps
end
end Mine
set_option maxHeartbeats 400000
set_option linter.unusedVariables false
namespace Mine
noncomputable section
/-- the signs that filemode can give -/
def alpha : List Nat := [45, 63, 98, 99, 100, 108, 112, 115, 83, 114, 119, 120, 84, 116]
theorem alpha_lt {c : Nat} (h : c ∈ alpha) : c < 128 := by
  simp only [alpha, List.mem_cons, List.not_mem_nil, or_false] at h
  omega
def hdr (c : Nat) : List Nat := if c = 63 then [61, 51, 70] else [c]
theorem coded_cons (c : Nat) (l : List Nat) : coded (c :: l) = hdr c ++ coded l := rfl
theorem coded_snoc (l : List Nat) (c : Nat) : coded (l ++ [c]) = coded l ++ hdr c := by
  unfold coded
  rw [ex_append]
  simp [ex, hdr]
/-- the header's map, as it stands at 22 -/
def hmap (w : World) : Array Value := match (KP w).lookup 22 with
  | some o => (match o.data with | .seq vs _ => vs | _ => #[])
  | none => #[]
theorem hmap_is (w : World) : ∃ o n, (KP w).lookup 22 = some o ∧ o.cls = .type "list" ∧ o.data = .seq (hmap w) n := ⟨_, _, (by with_unfolding_all rfl), (by with_unfolding_all rfl), (by with_unfolding_all rfl)⟩
theorem hmap_at (w : World) : ∀ c ∈ alpha, ∃ t, (hmap w)[c]? = some (.str (S (hdr c)) t) := by
  unfold alpha
  repeat (first | exact List.forall_mem_nil _ | refine List.forall_mem_cons.mpr ⟨⟨_, (by with_unfolding_all rfl)⟩, ?_⟩)
theorem hmap_size (w : World) : (hmap w).size = 256 := by with_unfolding_all rfl
theorem hmap_list {w : World} {h : Heap} (g : Gw w h) : h.IsList 22 (hmap w) := by
  obtain ⟨o, n, e, c, d⟩ := hmap_is w
  exact ⟨o, g.K _ _ e, c, n, d⟩

section
variable {prog : Program} {w : World} {M : Model} {A : Around} {E : Value → Shared → Prop} {s : Shared}
theorem lookIn {T : Addr} {xs : Array Value} {c : Nat} {y : List Nat} {t : Tok} {Q : Builtin.Str.Mapped → Shared → Prop} (hT : s.heap.IsList T xs) (hx : xs[c]? = some (.str (S y) t)) (hc : c < 1000) (h : ∀ k, Q (.text (S y)) { s with toks := k }) :
    wpAny (model prog w) A (Builtin.Str.tableLookup (.ref T) c) Q E s := by
  unfold Builtin.Str.tableLookup
  refine wpAny_bind (wpAny_attempt (wpAny_bind (wpAny_mkInt ?_)))
  refine wpAny_getItem_list (k := c) hT (by omega) (by omega) (by simpa using hx) ?_
  dsimp only
  exact wpAny_bind (wpAny_of_eq (a := none) rfl (wpAny_bind (wpAny_of_eq (a := some (S y)) rfl (wpAny_pure (h _)))))

def flat (ps : List Str) : List Nat := (ps.reverse.foldl (fun acc p => acc ++ p.cps) #[]).toList
theorem flat_cons (p : Str) (ps : List Str) : flat (p :: ps) = flat ps ++ p.cps.toList := by
  unfold flat
  rw [List.reverse_cons, List.foldl_append]; simp
abbrev St5 := List Str × Nat × Bool × List (Nat × Option Nat) × Bool
structure TInv (dn : List Nat) (b : St5) : Prop where
  flat : flat b.1 = coded dn
  tot : b.2.1 = (coded dn).length
  off : b.2.2.2.2 = false
  known : ∀ c a, c ∈ alpha → b.2.2.2.1.lookup c = some a → a = some c ∧ c ≠ 63
theorem forInv {β : Type} {f : Nat → β → Sem (ForInStep β)} {Q : β → Shared → Prop} (Inv : List Nat → β → Prop) (P : Shared → Prop)
    (step : ∀ dn c b s, c ∈ alpha → dn.length < 10 → Inv dn b → P s → wpAny M A (f c b) (fun r s' => ∃ b', r = .yield b' ∧ Inv (dn ++ [c]) b' ∧ P s') E s) :
    ∀ (l dn : List Nat) (b : β) (s : Shared), (∀ c ∈ l, c ∈ alpha) → dn.length + l.length ≤ 10 → Inv dn b → P s → (∀ b' s', Inv (dn ++ l) b' → P s' → Q b' s') → wpAny M A (forIn l b f) Q E s
  | [], dn, b, s, _, _, hI, hP, h => by
    rw [List.forIn_nil]
    exact wpAny_pure (h b s (by simpa using hI) hP)
  | c :: r, dn, b, s, hl, hn, hI, hP, h => by
    rw [List.forIn_cons]
    refine wpAny_bind (wpAny_mono (step dn c b s (hl c (List.mem_cons_self ..)) (by simp at hn; omega) hI hP) (fun q s' hq => ?_) fun _ _ e => e)
    obtain ⟨b', rfl, hI', hP'⟩ := hq
    exact forInv Inv P step r (dn ++ [c]) b' s' (fun x hx => hl x (List.mem_cons_of_mem _ hx)) (by simp at hn ⊢; omega) hI' hP' fun b'' s'' h1 h2 => h b'' s'' (by simpa using h1) h2
theorem coded_length (l : List Nat) : (coded l).length ≤ 3 * l.length := ex_length 63 [61, 51, 70] rfl l

theorem translate {T : Addr} {xs : Array Value} {l : List Nat} {t : Tok} {Q : Value → Shared → Prop} (hT : s.heap.IsList T xs) (hx : ∀ c ∈ alpha, ∃ t, xs[c]? = some (.str (S (hdr c)) t)) (hl : ∀ c ∈ l, c ∈ alpha) (h10 : l.length = 10)
    (h : ∀ t' k, Q (.str (S (coded l)) t') { s with toks := k }) : wpAny (model prog w) A (call (.builtin "str.translate") [.str (S l) t, .ref T]) Q E s := by
  refine wpAny_call_entry PySem.F.slot_str_translate (typeIs_str _ _ _) PySem.F.entry_str_translate ?_ (PySem.F.args_str_translate_2 _ _)
  unfold Builtin.«str.translate»
  refine wpAny_bind (wpAny_of_eq (a := (.str (S l) t, S l, .ref T)) rfl ?_)
  dsimp only
  have hz : ¬ (((S l).length == 0) = true) := by rw [S_length, h10]; decide
  rw [if_neg hz]
  refine wpAny_bind ?_
  have hcps : (S l).cps = l.toArray := rfl
  rw [hcps, List.forIn_toArray]
  refine forInv TInv (fun s' => ∃ k, s' = { s with toks := k }) ?_ l [] _ s hl (by simp [h10]) ?_ ⟨s.toks, rfl⟩ ?_
  · rintro dn c ⟨ps, tot, fast, known, ad⟩ s' hc hdn hI ⟨k, rfl⟩
    have hlt := alpha_lt hc
    obtain ⟨tc, hxc⟩ := hx c hc
    have hbig : ¬ (Builtin.Str.tooLong tot = true) := by
      have e1 := hI.tot
      have e2 := coded_length dn
      simp only at e1
      unfold Builtin.Str.tooLong
      rw [e1, sizeLine_eq]
      simp; omega
    obtain rfl : ad = false := hI.off
    dsimp only
    rw [if_neg hbig]
    have slow : ∀ k' : Nat, ∀ fast' : Bool, ∃ b' : St5, (ForInStep.yield (S (hdr c) :: ps, tot + (S (hdr c)).length, fast', known, false) : ForInStep St5) = .yield b' ∧ TInv (dn ++ [c]) b' ∧ ∃ k, ({ s with toks := k' } : Shared) = { s with toks := k } := by
      intro k' fast'
      refine ⟨_, rfl, ⟨?_, ?_, rfl, hI.known⟩, _, rfl⟩
      · show flat (S (hdr c) :: ps) = _
        rw [flat_cons, coded_snoc, S_toList]
        have := hI.flat
        simp only at this
        rw [this]
      · show tot + (S (hdr c)).length = _
        rw [coded_snoc, List.length_append, S_length]
        have := hI.tot
        simp only at this
        rw [this]
    have quick : ∀ (k' : Nat) (known' : List (Nat × Option Nat)), c ≠ 63 → (∀ c a, c ∈ alpha → known'.lookup c = some a → a = some c ∧ c ≠ 63) →
        ∃ b' : St5, (ForInStep.yield ((⟨#[c]⟩ : Str) :: ps, tot + 1, true, known', false) : ForInStep St5) = .yield b' ∧ TInv (dn ++ [c]) b' ∧ ∃ k, ({ s with toks := k' } : Shared) = { s with toks := k } := by
      intro k' known' h63 hk'
      have hh : hdr c = [c] := if_neg h63
      refine ⟨_, rfl, ⟨?_, ?_, rfl, hk'⟩, _, rfl⟩
      · show flat ((⟨#[c]⟩ : Str) :: ps) = _
        rw [flat_cons, coded_snoc, hh]
        have := hI.flat
        simp only at this
        rw [this]
      · show tot + 1 = _
        rw [coded_snoc, List.length_append, hh]
        have := hI.tot
        simp only at this
        rw [this]; rfl
    cases fast with
    | false =>
      rw [if_neg (by decide), if_neg (by decide)]
      refine wpAny_bind (lookIn hT hxc (by omega) fun k' => ?_)
      dsimp only
      exact wpAny_pure (slow k' false)
    | true =>
      rw [if_pos rfl]
      cases hk : List.lookup c known with
      | some a =>
        obtain ⟨rfl, h63⟩ := hI.known c a hc hk
        dsimp only
        refine wpAny_bind (wpAny_pure ?_)
        dsimp only
        exact wpAny_pure (quick _ known h63 hI.known)
      | none =>
        dsimp only
        refine wpAny_bind (lookIn hT hxc (by omega) fun k' => ?_)
        dsimp only
        by_cases h63 : c = 63
        · have e : ((S (hdr c)).length == 1 && (S (hdr c)).cps.all fun x => decide (x < 128)) = false := by subst h63; decide
          simp only [e, Bool.false_eq_true, if_false]
          refine wpAny_bind (wpAny_pure ?_)
          dsimp only
          refine wpAny_bind (wpAny_rule ?_)
          try rw [if_neg (by decide)]
          refine wpAny_bind (lookIn hT hxc (by omega) fun k' => ?_)
          dsimp only
          exact wpAny_pure (slow k' false)
        · have hh : hdr c = [c] := if_neg h63
          have e : ((S (hdr c)).length == 1 && (S (hdr c)).cps.all fun x => decide (x < 128)) = true := by
            rw [hh]; simp [S, Str.length, hlt]
          have e2 : (S (hdr c)).cps[0]? = some c := by rw [hh]; rfl
          simp only [e, if_true, e2]
          refine wpAny_bind (wpAny_pure ?_)
          dsimp only
          refine wpAny_pure (quick _ ((c, some c) :: known) h63 ?_)
          intro c' a hc' hlk
          rw [List.lookup_cons] at hlk
          by_cases hcc : c' = c
          · subst hcc
            simp at hlk
            exact ⟨hlk.symm, h63⟩
          · have : (c' == c) = false := by simpa using hcc
            rw [this] at hlk
            exact hI.known c' a hc' hlk
  · exact ⟨rfl, rfl, rfl, fun c a _ e => by simp at e⟩
  · rintro ⟨ps, tot, fast, known, ad⟩ s' hI ⟨k, rfl⟩
    have hbig : ¬ (Builtin.Str.tooLong tot = true) := by
      have e1 := hI.tot
      have e2 := coded_length l
      simp only [List.nil_append] at e1
      unfold Builtin.Str.tooLong
      rw [e1, sizeLine_eq]
      simp; omega
    dsimp only
    rw [if_neg hbig]
    have e : (⟨ps.reverse.foldl (fun acc p => acc ++ p.cps) #[]⟩ : Str) = S (coded l) := by
      have := hI.flat
      simp only [List.nil_append] at this
      rw [← this, S_of (⟨ps.reverse.foldl (fun acc p => acc ++ p.cps) #[]⟩ : Str)]
      rfl
    rw [e]
    have hz2 : (S (coded l)).length ≤ sizeLine := by
      have e2 := coded_length l
      rw [S_length, sizeLine_eq]; omega
    show wpAny _ _ (mkStr (S (coded l)) >>= fun v => ret v) _ _ _
    exact wpAny_bind (wpAny_mkStr (wpAny_pure ⟨_, rfl, h _ _⟩) hz2)
end
end
end Mine
set_option maxHeartbeats 1000000
set_option linter.unusedVariables false
namespace Mine
noncomputable section
open Builtin in
theorem dec_entry {c : UInt8} {cs : List UInt8} {t u : Tok} : «bytes.decode» ⟨[.bytes (c :: cs).toArray t, .str (PySem.Str.ofString "latin1") u], []⟩ = (mkStr (PySem.Str.ofString "utf-8") >>= fun _ => mkStr (PySem.Str.ofString "latin1") >>= fun e => mkStr (PySem.Str.ofString "bytes.decode") >>= fun d =>
    call (.builtin "_codecs.decode.text") [.bytes (c :: cs).toArray t, e, .none, d] >>= fun v => ret v) := by kernel_rfl
open Builtin in
theorem dec_road {id : String} {b : Array UInt8} : _codecs.decodeRoad id b (PySem.Str.ofString "latin1") none [] = (_codecs.runDecoder id _codecs.latin1Decoder none true b 0 [] >>= fun r => mkStr ⟨r.1⟩) := by kernel_rfl
open Builtin in
theorem dec_run {id : String} {c0 c1 c2 c3 c4 c5 c6 c7 c8 c9 : UInt8} : _codecs.runDecoder id _codecs.latin1Decoder none true [c0, c1, c2, c3, c4, c5, c6, c7, c8, c9].toArray 0 [] =
    pure ((S [c0.toNat, c1.toNat, c2.toNat, c3.toNat, c4.toNat, c5.toNat, c6.toNat, c7.toNat, c8.toNat, c9.toNat]).cps, 10) := by kernel_rfl
theorem dec_args (a b : Value) : argsOk "bytes.decode" ⟨[a, b], []⟩ := by unfold argsOk; kernel_rfl

open Builtin in
theorem meets_dtext {b : Array UInt8} {t t1 t2 : Tok} {d x : PySem.Str} {n : Nat} (hd : ∀ id, _codecs.runDecoder id _codecs.latin1Decoder none true b 0 [] = pure (x.cps, n)) :
    Meets («_codecs.decode.text» ⟨[.bytes b t, .str (PySem.Str.ofString "latin1") t1, .none, .str d t2], []⟩) (fun _ RR s => x.length ≤ sizeLine ∧ RR (.ok (.ret (.str x s.toks))) { s with toks := s.toks + 1 }) := by
  refine .of_wp fun prog w A RR s hS => ?_
  obtain ⟨hsz, h⟩ := hS
  show wpAny _ _ (Bytes.bytesLike _ (.bytes b t) >>= fun r => _) _ _ s
  refine wpAny_bind (wpAny_of_eq KBd.like_eq ?_)
  refine wpAny_bind (wpAny_of_eq KBd.held_eq ?_)
  show wpAny _ _ (_codecs.decodeRoad _ b (PySem.Str.ofString "latin1") none [] >>= fun v => _) _ _ s
  rw [dec_road, hd]
  refine wpAny_bind (wpAny_bind (wpAny_pure ?_))
  exact wpAny_mkStr (wpAny_pure ⟨_, rfl, h⟩) hsz
open Builtin in
theorem meets_dec {c : UInt8} {cs : List UInt8} {t u : Tok} {x : PySem.Str} {n : Nat} (hd : ∀ id, _codecs.runDecoder id _codecs.latin1Decoder none true (c :: cs).toArray 0 [] = pure (x.cps, n)) :
    Meets («bytes.decode» ⟨[.bytes (c :: cs).toArray t, .str (PySem.Str.ofString "latin1") u], []⟩) (fun _ RR s => x.length ≤ sizeLine ∧ ∀ t' k, RR (.ok (.ret (.str x t'))) { s with toks := k }) := by
  refine .of_wp fun prog w A RR s hS => ?_
  obtain ⟨hsz, h⟩ := hS
  rw [dec_entry]
  refine wpAny_bind (wpAny_mkStr ?_ (by decide))
  refine wpAny_bind (wpAny_mkStr ?_ (by decide))
  refine wpAny_bind (wpAny_mkStr ?_ (by decide))
  exact wpAny_bind (call_function_meets KBd.kind_text KBd.plain_text KBd.entry_text (KBd.args_text _ _ _ _) (meets_dtext hd) ⟨hsz, wpAny_pure ⟨_, rfl, h _ _⟩⟩)
section
variable {prog : Program} {w : World} {A : Around} {E : Value → Shared → Prop} {s : Shared} {Q : Value → Shared → Prop}
theorem toByte {n : Nat} (h : n < 256) : (((n : Nat) : Int).toNat.toUInt8).toNat = n := by
  rw [Int.toNat_natCast]
  show (UInt8.ofNat n).toNat = n
  rw [UInt8.toNat_ofNat']; omega
/-- bytes(the signs).decode('latin1') -/
theorem decodeLatin {l : List Nat} {t u : Tok} (h10 : l.length = 10) (hb : ∀ c ∈ l, c < 256) (h : ∀ t' k, Q (.str (S l) t') { s with toks := k }) :
    wpAny (model prog w) A (call (.builtin "bytes.decode") [.bytes (byteArr (l.map fun n : Nat => (n : Int))) t, .str (PySem.Str.ofString "latin1") u]) Q E s := by
  match l, h10 with
  | [c0, c1, c2, c3, c4, c5, c6, c7, c8, c9], _ =>
    simp only [List.forall_mem_cons] at hb
    obtain ⟨h0, h1, h2, h3, h4, h5, h6, h7, h8, h9, _⟩ := hb
    have e : byteArr ([c0, c1, c2, c3, c4, c5, c6, c7, c8, c9].map fun n : Nat => (n : Int)) = [((c0 : Int)).toNat.toUInt8, ((c1 : Int)).toNat.toUInt8, ((c2 : Int)).toNat.toUInt8, ((c3 : Int)).toNat.toUInt8, ((c4 : Int)).toNat.toUInt8, ((c5 : Int)).toNat.toUInt8, ((c6 : Int)).toNat.toUInt8, ((c7 : Int)).toNat.toUInt8, ((c8 : Int)).toNat.toUInt8, ((c9 : Int)).toNat.toUInt8].toArray := rfl
    rw [e]
    refine call_meets FB.slot_bytes_decode (typeIs_bytes _ _ _) FB.entry_bytes_decode (dec_args _ _) (meets_dec (fun id => dec_run)) ⟨?_, ?_⟩
    · rw [S_length, sizeLine_eq]; exact (by decide : 10 ≤ 16777216)
    · intro t' k
      rw [toByte h0, toByte h1, toByte h2, toByte h3, toByte h4, toByte h5, toByte h6, toByte h7, toByte h8, toByte h9]
      exact h t' k
end
section
variable {prog : Program} {w : World} {A : Around} {E : Value → Shared → Prop} {s₀ s : Shared} {L : Addr} {m : Str → Option Value} {os : List (Addr × Obj)} {env : Env} {Q : Value → Shared → Prop}
theorem tup2 {a b : PySem.Expr} {k : Nat} {pos : Pos} (h : wpAny (model prog w) A (eval a env) (fun va s₁ => wpAny (model prog w) A (eval b env) (fun vb s₂ => ∃ s₀ L m os, Fm s₀ L m os s₂ ∧ ∀ T s', Fm s₀ L m ((T, tupO [va, vb]) :: os) s' → Q (.ref T) s') E s₁) E s)
    (hs : backTo pos (starEach [a, b] env) = [(false, eval a env), (false, eval b env)] := by with_unfolding_all rfl) :
    wpAny (model prog w) A (eval (.Tuple [a, b] k pos) env) Q E s := by
  refine wpAny_Tuple_spliced ?_
  rw [hs]
  refine Calls.spliced_cons (wpAny_mono h (fun va s₁ h₁ => Calls.spliced_cons (wpAny_mono h₁ (fun vb s₂ h₂ => Calls.spliced_nil ?_) fun _ _ e => e)) fun _ _ e => e)
  obtain ⟨s₀, L, m, os, F, h⟩ := h₂
  exact ⟨(by rw [sizeLine_eq]; exact (by decide : 2 ≤ 16777216)), h _ _ (F.push _)⟩
/-- the parts of an f-string -/
theorem joinC {x : Sem Value} {rest : List (Sem Value)} {acc : List Nat} {QQ : Str → Shared → Prop} (h : wpAny (model prog w) A x (fun v s₁ => ∃ y t, v = .str (S y) t ∧ acc.length + y.length ≤ 10000 ∧ Joins (model prog w) A E rest (S (acc ++ y)) QQ s₁) E s) :
    Joins (model prog w) A E (x :: rest) (S acc) QQ s := by
  refine wpAny_mono h (fun v s₁ h₁ => ?_) fun _ _ e => e
  obtain ⟨y, t, rfl, hz, hr⟩ := h₁
  refine ⟨S y, t, rfl, ?_, ?_⟩
  · rw [S_append, S_length, List.length_append, sizeLine_eq]; omega
  · rw [S_append]; exact hr
theorem joinConst {i : Str} {l : List Nat} {k : Nat} {pos : Pos} {rest : List (Sem Value)} {acc : List Nat} {QQ : Str → Shared → Prop} (e : i = S l) (hz : acc.length + l.length ≤ 10000) (F : Fm s₀ L m os s)
    (h : ∀ s', Fm s₀ L m os s' → Joins (model prog w) A E rest (S (acc ++ l)) QQ s') : Joins (model prog w) A E (eval (.Constant (.str i) k pos) env :: rest) (S acc) QQ s :=
  joinC (cT e F fun t s' F' => ⟨l, t, rfl, hz, h s' F'⟩)
theorem joinName {x : Str} {p pos : Pos} {l : List Nat} {t : Tok} {rest : List (Sem Value)} {acc : List Nat} {QQ : Str → Shared → Prop} (hz : acc.length + l.length ≤ 10000) (F : Fm s₀ env.locals m os s) (hv : m x = some (.str (S l) t))
    (h : ∀ s', Fm s₀ env.locals m os s' → Joins (model prog w) A E rest (S (acc ++ l)) QQ s')
    (hk : env.scope.kind = .function := by with_unfolding_all rfl) (hl : env.kindOf x = some .local := by with_unfolding_all rfl) (hd : (x == ("__debug__" : Str)) = false := by with_unfolding_all rfl) :
    Joins (model prog w) A E (eval (.FormattedValue (.Name x p) 115 none pos) env :: rest) (S acc) QQ s := by
  have hsz : (S l).length ≤ sizeLine := by rw [S_length, sizeLine_eq]; omega
  refine joinC (wpAny_FormattedValue_s (nmL F hv ?_ hk hl hd))
  have fin : ∀ t' s', Fm s₀ env.locals m os s' → wpAny (model prog w) A (formatField (.str (S l) t') Str.empty) (fun v s₁ => ∃ y t, v = .str (S y) t ∧ acc.length + y.length ≤ 10000 ∧ Joins (model prog w) A E rest (S (acc ++ y)) QQ s₁) E s' :=
    fun t' s' F' => wpAny_formatField_str ⟨l, _, rfl, hz, h _ F'⟩ ⟨l, _, rfl, hz, h _ (F'.tok _)⟩ hsz
  show wpAny _ _ (habitSame "fstring-hands-on-the-str" (.str (S l) t)) _ _ _
  exact wpAny_habitSame_str (fin _ _ F) (fin _ _ (F.tok _)) hsz
end
variable {w : World} {A : Around} {s : Shared} {Q E : Value → Shared → Prop}
/-- header_encode of the signs' octets -/
theorem header_spec {l : List Nat} {t : Tok} (hl : ∀ c ∈ l, c ∈ alpha) (h10 : l.length = 10) (g : Gw w s.heap) (hr : A.depth < recursionLimit) (h : ∀ s' t', Keeps s s' → Q (.str (S (wordHead ++ coded l ++ [63, 61])) t') s') :
    wpAny (model pr w) A (call (.ref 45) [.bytes (byteArr (l.map fun n : Nat => (n : Int))) t]) Q E s := by
  have h38 : s.heap.get? 38 = some (tupO [.str (S [105, 115, 111, 45, 56, 56, 53, 57, 45, 49]) 1738]) := g.K _ _ (by with_unfolding_all rfl)
  with_reducible refine callDef g (by with_unfolding_all rfl) (by with_unfolding_all rfl) (by with_unfolding_all rfl) (by with_unfolding_all rfl) hr (BindsTo.of_defaults (T := 38) (items := [.str (S [105, 115, 111, 45, 56, 56, 53, 57, 45, 49]) 1738].toArray) (binds := [(Str.ofString "header_bytes", .bytes (byteArr (l.map fun n : Nat => (n : Int))) t), (Str.ofString "charset", .str (S [105, 115, 111, 45, 56, 56, 53, 57, 45, 49]) 1738)]) (by with_unfolding_all rfl) h38 (by with_unfolding_all rfl) (by with_unfolding_all rfl) (by with_unfolding_all rfl)) (by decide) (locs (by with_unfolding_all rfl)) ?_
  intro A s₁ hA hA1 hA2 hA3 hT F
  have hb : (byteArr (l.map fun n : Nat => (n : Int))).size = 10 := by rw [byteArr_size, List.length_map, h10]
  with_reducible refine ifS ?_
  with_reducible refine wpAny_isTrue_Not ?_
  with_reducible refine wpAny_isTrue_value ?_ (by with_unfolding_all rfl)
  with_reducible refine nmL F (by with_unfolding_all rfl) ?_
  with_reducible refine truthy_bytes (by rw [hb]; decide) ?_
  rw [hb]
  have F := F.tok (s₁.toks + 1 + 1)
  rw [if_neg (by decide)]
  with_reducible refine wpAny_execs_nil ?_
  dsimp only
  with_reducible refine asgN ?_
  with_reducible refine meth1 ?_
  with_reducible refine meth1 ?_
  with_reducible refine nmL F (by with_unfolding_all rfl) ?_
  with_reducible refine mB1 FB.slot_bytes_decode FB.type_bytes_decode ?_
  with_reducible refine wpAny_Constant_str ?_
  with_reducible refine decodeLatin h10 (fun c hc => Nat.lt_trans (alpha_lt (hl c hc)) (by decide)) ?_
  intro t1 k1
  have F := F.tok k1
  with_reducible refine mS1 PySem.F.slot_str_translate PySem.F.type_str_translate ?_
  with_reducible refine nmG (F.gw g) (v := .ref 22) (by with_unfolding_all rfl) ?_
  with_reducible refine translate (hmap_list (F.gw g)) (hmap_at w) hl h10 ?_
  intro t2 k2
  have F := F.tok k2
  with_reducible refine stL F ?_
  intro s₁ F
  with_reducible refine retS ?_
  with_reducible refine wpAny_JoinedStr ?_
  have hlen := coded_length l
  show Joins _ _ _ (eval _ _ :: eval _ _ :: eval _ _ :: eval _ _ :: eval _ _ :: []) (S []) _ _
  with_reducible refine joinConst (l := [61, 63]) (by decide +kernel) (by decide) F ?_
  intro s₁ F
  with_reducible refine joinName (l := [105, 115, 111, 45, 56, 56, 53, 57, 45, 49]) (by decide) F (by with_unfolding_all rfl) ?_
  intro s₁ F
  with_reducible refine joinConst (l := [63, 113, 63]) (by decide +kernel) (by decide) F ?_
  intro s₁ F
  with_reducible refine joinName (l := coded l) (by simp only [List.length_append, List.length_cons, List.length_nil]; omega) F (by with_unfolding_all rfl) ?_
  intro s₁ F
  with_reducible refine joinConst (l := [63, 61]) (by decide +kernel) (by simp only [List.length_append, List.length_cons, List.length_nil]; omega) F ?_
  intro s₁ F
  refine ⟨?_, ?_⟩
  · rw [S_length, sizeLine_eq]; simp only [List.length_append, List.length_cons, List.length_nil]; omega
  · exact h _ _ (F.tok _).keeps
end
end Mine
set_option maxHeartbeats 400000
set_option linter.unusedVariables false
namespace Mine
noncomputable section
theorem slice_S {a : List Nat} {i j : Nat} (hij : i ≤ j) (hj : j ≤ a.length) : Txt.slice (S a) (some (i : Int)) (some (j : Int)) = S ((a.drop i).take (j - i)) := by
  unfold Txt.slice
  have e := StrLaws.sliced_plain (S a) hij (by rw [S_length]; exact hj)
  have e2 := StrLaws.strSliceIndices_plain (len := (S a).length) hij (by rw [S_length]; exact hj)
  rw [e, S_toList]
  split
  · rename_i h
    rw [e2, List.length_map, List.length_range, S_length] at h
    have h : j - i = a.length := by simpa using h
    have : i = 0 := by omega
    subst this
    rw [List.drop_zero, List.take_of_length_le (by omega)]
  · rfl
section
variable {prog : Program} {w : World} {M : Model} {A : Around} {E : Value → Shared → Prop} {s₀ s : Shared} {L : Addr} {m : Str → Option Value} {os : List (Addr × Obj)} {env : Env} {Q : Value → Shared → Prop} {a b : List Nat} {t u : Tok}
/-- x[i:j] of a text -/
theorem sSlice {value lo hi : PySem.Expr} {p pos : Pos}
    (h : wpAny (model prog w) A (eval value env) (fun o s₁ => wpAny (model prog w) A (eval lo env) (fun vl s₂ => wpAny (model prog w) A (eval hi env) (fun vu s₃ =>
      ∃ a t i ti j tj s₀ L m os, o = .str (S a) t ∧ vl = .int ((i : Nat) : Int) ti ∧ vu = .int ((j : Nat) : Int) tj ∧ i ≤ j ∧ j ≤ a.length ∧ a.length ≤ 100000 ∧ Fm s₀ L m os s₃ ∧
        ∀ t' s', Fm s₀ L m os s' → Q (.str (S ((a.drop i).take (j - i))) t') s') E s₂) E s₁) E s)
    (ht : ∀ o r, letTemporaryGo value o r = pure () := by intro _ _; with_unfolding_all rfl) :
    wpAny (model prog w) A (eval (.Subscript value (.Slice (some lo) (some hi) none p) pos) env) Q E s := by
  refine wpAny_Subscript_str_slice (wpAny_mono h (fun o s₁ h₁ => wpAny_mono h₁ (fun vl s₂ h₂ => wpAny_mono h₂ (fun vu s₃ h₃ => ?_) fun _ _ e => e) fun _ _ e => e) fun _ _ e => e) ht
  obtain ⟨a, t, i, ti, j, tj, s₀, L, m, os, rfl, rfl, rfl, hij, hj, hz, F, hQ⟩ := h₃
  refine ⟨S a, t, some (i, ti), some (j, tj), rfl, rfl, rfl, post_val_or_str ?_⟩
  have e := slice_S (a := a) hij hj
  refine ⟨Nat.le_trans (Txt.slice_le (S a) (some (i : Int)) (some (j : Int))) (by rw [S_length, sizeLine_eq]; omega), fun t' k => ?_⟩
  show Q (.str (Txt.slice (S a) (some (i : Int)) (some (j : Int))) t') _
  rw [e]
  exact hQ _ _ ((F.push _).drop1.tok k)
theorem sTrue {Q : Bool → Shared → Prop} (hz : a.length ≤ 100000) (F : Fm s₀ L m os s) (h : ∀ s', Fm s₀ L m os s' → Q (decide (a ≠ [])) s') : wpAny (model prog w) A (truthy (.str (S a) t)) Q E s := by
  refine P.truthy_str (by rw [S_length]; omega) ?_
  have e : (((S a).length : Int) != 0) = decide (a ≠ []) := by
    rw [S_length]
    cases a with
    | nil => rfl
    | cons x r => simp; omega
  rw [e]
  exact h _ (F.tok _)
theorem nameTrue {x : Str} {p : Pos} {v : Value} {Q : Bool → Shared → Prop} (F : Fm s₀ env.locals m os s) (hv : m x = some v) (h : wpAny M A (truthy v) Q E s)
    (hk : env.scope.kind = .function := by with_unfolding_all rfl) (hl : env.kindOf x = some .local := by with_unfolding_all rfl) (hd : (x == ("__debug__" : Str)) = false := by with_unfolding_all rfl)
    (he : isTrue (.Name x p) env (eval (.Name x p) env) = (do let v ← eval (.Name x p) env; standAt (PySem.Expr.Name x p).pos; holding [v] (truthy v)) := by with_unfolding_all rfl) :
    wpAny M A (isTrue (.Name x p) env (eval (.Name x p) env)) Q E s := wpAny_isTrue_value (nmL F hv h hk hl hd) he
theorem sLast {value slice : PySem.Expr} {c : Nat} (hz : a.length ≤ 100000) (hc : a.getLast? = some c) (F : Fm s₀ L m os s) (h : ∀ t s', Fm s₀ L m os s' → Q (.str (S [c]) t) s')
    (hs : subscripted slice false (.str (S a) t) (.int (-1) u) = operate [.str (S a) t, .int (-1) u] (getItem (.str (S a) t) (.int (-1) u)) := by with_unfolding_all rfl) :
    wpAny (model prog w) A (subscriptTail value slice (.str (S a) t) (.int (-1) u)) Q E s := by
  refine tail_any (typeIs_str s (S a) t) slot_str_getitem.lookup (PyProof.Rows.getItem_str (c := c) ?_ ?_ (h _ _ (F.tok _))) hs
  · decide
  · rw [List.getLast?_eq_getElem?] at hc
    have hlt : a.length - 1 < a.length := (List.getElem?_eq_some_iff.mp hc).1
    have e : seqIndex? (-1) (S a).length = some (a.length - 1) := by
      unfold seqIndex?
      rw [S_length]
      simp
      omega
    rw [e]
    simpa [S] using hc
/-- a and b and c -/
theorem andQ3 {x y z : PySem.Expr} {pos : Pos} {whole : Sem Value} {Q : Bool → Shared → Prop}
    (h : wpAny M A (isTrue x env (eval x env)) (fun b s₁ => if b then wpAny M A (isTrue y env (eval y env)) (fun b s₂ => if b then wpAny M A (isTrue z env (eval z env)) Q E s₂ else Q false s₂) E s₁ else Q false s₁) E s) : wpAny M A (isTrue (.BoolOp .And [x, y, z] pos) env whole) Q E s := by
  refine wpAny_isTrue_BoolOp (wpAny_allTrue_And_cons (wpAny_mono h (fun b s₁ h₁ => ?_) fun _ _ e => e))
  cases b with
  | false => exact h₁
  | true =>
    refine wpAny_allTrue_And_cons (wpAny_mono h₁ (fun b s₂ h₂ => ?_) fun _ _ e => e)
    cases b with
    | false => exact h₂
    | true =>
      refine wpAny_allTrue_And_cons (wpAny_mono h₂ (fun b s₃ h₃ => ?_) fun _ _ e => e)
      cases b with
      | false => exact h₃
      | true => exact wpAny_allTrue_And_nil h₃
/-- while -/
theorem whileS {test : PySem.Expr} {body orelse rest : List Stmt} {pos : Pos} {Q : Flow → Shared → Prop} (I : Nat → Shared → Prop) (n : Nat) (h0 : I n s)
    (turn : ∀ n s, I n s → wpAny (model prog w) A (isTrue test env (eval test env)) (fun b s₂ =>
        if b then wpAny (model prog w) A (execs body env) (fun f s₃ => match f with
            | .next | .cont => ∃ k, k < n ∧ I k s₃
            | .brk => wpAny (model prog w) A (execs rest env) Q E s₃
            | .ret v => Q (.ret v) s₃) (fun _ _ => False) s₂
        else wpAny (model prog w) A (execs orelse env) (fun f s₃ => match f with | .next => wpAny (model prog w) A (execs rest env) Q E s₃ | f => Q f s₃) (fun _ _ => False) s₂) (fun _ _ => False) s) :
    wpAny (model prog w) A (execs (.While test body orelse pos :: rest) env) Q E s := by
  refine wpAny_execs_cons (wpAny_While (codeAny_whileLoop I (fun n s hI => ?_) n h0))
  refine wpAny_mono (turn n s hI) (fun b s₂ h₂ => ?_) fun _ _ q => q.elim
  cases b with
  | true =>
    refine wpAny_mono h₂ (fun f s₃ h₃ => ?_) fun _ _ q => q.elim
    cases f with
    | next => exact h₃
    | cont => exact h₃
    | brk => exact h₃
    | ret v => exact h₃
  | false =>
    refine wpAny_mono h₂ (fun f s₃ h₃ => ?_) fun _ _ q => q.elim
    cases f with
    | next => exact h₃
    | cont => exact h₃
    | brk => exact h₃
    | ret v => exact h₃
theorem contS {pos : Pos} {rest : List Stmt} {Q : Flow → Shared → Prop} (h : Q .cont s) : wpAny M A (execs (.Continue pos :: rest) env) Q E s := wpAny_execs_cons (wpAny_Continue h)
theorem brkS {pos : Pos} {rest : List Stmt} {Q : Flow → Shared → Prop} (h : Q .brk s) : wpAny M A (execs (.Break pos :: rest) env) Q E s := wpAny_execs_cons (wpAny_Break h)
end

theorem int16_eq (t u : Tok) : Builtin.«int.__new__» ⟨[.type "int", .str (S [51, 70]) t, .int 16 u], []⟩ = (mkInt 63 >>= fun v => ret v) := by kernel_rfl
theorem int16_tc (a b : Value) : checkTypeCall "int" ⟨[a, b], []⟩ = pure () := by kernel_rfl
theorem int16_nc (a b : Value) : checkBuiltinCall "int.__new__" ⟨[.type "int", a, b], []⟩ = pure () := by kernel_rfl
theorem init3 (a b c : Value) : argsOk "object.__init__" ⟨[a, b, c], []⟩ := by unfold argsOk; kernel_rfl
theorem gives16 (t u : Tok) : Gives (Builtin.«int.__new__» ⟨[.type "int", .str (S [51, 70]) t, .int 16 u], []⟩) (.int 63) := .of_eq (int16_eq t u)
section
variable {prog : Program} {w : World} {A : Around} {E : Value → Shared → Prop} {s₀ s : Shared} {L : Addr} {m : Str → Option Value} {os : List (Addr × Obj)} {Q : Value → Shared → Prop} {t u : Tok}
theorem int16 (F : Fm s₀ L m os s) (h : ∀ t s', Fm s₀ L m os s' → Q (.int 63 t) s') : wpAny (model prog w) A (call (.type "int") [.str (S [51, 70]) t, .int 16 u]) Q E s :=
  callType_new PySem.F.called_int PySem.F.newNe_int (int16_tc _ _) (int16_nc _ _) (fun obj => init3 obj _ _) PySem.F.entry_int_new (gives16 t u).meets (show (Made.int 63).post _ s from ⟨rfl, h _ _ (F.tok _)⟩)
end
variable {w : World} {A : Around} {s : Shared} {Q E : Value → Shared → Prop}
theorem unquote_spec {t : Tok} (g : Gw w s.heap) (hr : A.depth < recursionLimit) (h : ∀ s' t', Keeps s s' → Q (.str (S [63]) t') s') :
    wpAny (model pr w) A (call (.ref 37) [.str (S [61, 51, 70]) t]) Q E s := by
  with_reducible refine callDef g (by with_unfolding_all rfl) (by with_unfolding_all rfl) (by with_unfolding_all rfl) (by with_unfolding_all rfl) hr (BindsTo.of_eq (binds := [(Str.ofString "s", .str (S [61, 51, 70]) t)]) (by with_unfolding_all rfl)) (by decide) (locs (by with_unfolding_all rfl)) ?_
  intro A s₁ hA hA1 hA2 hA3 hT F
  with_reducible refine retS ?_
  with_reducible refine callB1 (F.gw g) (by with_unfolding_all rfl) boot_chr ?_
  with_reducible refine callT2 (F.gw g) (by with_unfolding_all rfl) boot_int ?_
  with_reducible refine sSlice ?_
  with_reducible refine nmL F (by with_unfolding_all rfl) ?_
  with_reducible refine cI F ?_
  intro _ s₁ F
  with_reducible refine cI F ?_
  intro _ s₁ F
  refine ⟨_, _, 1, _, 3, _, _, _, _, _, rfl, rfl, rfl, by decide, by decide, by decide, F, ?_⟩
  intro _ s₁ F
  have e1 : List.take (3 - 1) (List.drop 1 [61, 51, 70]) = [51, 70] := rfl
  rw [e1]
  with_reducible refine cI F ?_
  intro _ s₁ F
  with_reducible refine int16 F ?_
  intro _ s₁ F
  with_reducible refine chr_of_range (by decide) (by decide) ?_
  exact h _ _ (F.tok _).keeps
end
end Mine
set_option maxHeartbeats 400000
set_option linter.unusedVariables false
namespace Mine
noncomputable section
/-- a sign as it stands, or a coded '?' -/
def encA : Option Nat → List Nat
  | some c => [c]
  | none => [61, 51, 70]
def decA : Option Nat → Nat
  | some c => c
  | none => 63
def enc (l : List (Option Nat)) : List Nat := l.flatMap encA
def dec (l : List (Option Nat)) : List Nat := l.map decA
def OkA (l : List (Option Nat)) : Prop := ∀ c, some c ∈ l → 33 ≤ c ∧ c < 127 ∧ c ≠ 61
theorem enc_length : ∀ l : List (Option Nat), (enc l).length ≤ 3 * l.length
  | [] => by simp [enc]
  | a :: r => by
    have := enc_length r
    unfold enc at this ⊢
    rw [List.flatMap_cons, List.length_append, List.length_cons]
    have e : (encA a).length ≤ 3 := by cases a <;> simp [encA]
    omega
theorem enc_range {l : List (Option Nat)} (h : OkA l) : ∀ c ∈ enc l, 33 ≤ c ∧ c < 127 := by
  intro c hc
  unfold enc at hc
  obtain ⟨a, ha, hca⟩ := List.mem_flatMap.mp hc
  cases a with
  | none => simp only [encA, List.mem_cons, List.not_mem_nil, or_false] at hca; omega
  | some d =>
    simp only [encA, List.mem_singleton] at hca
    subst hca
    have := h c ha
    omega
theorem dec_range {l : List (Option Nat)} (h : OkA l) : ∀ c ∈ dec l, 33 ≤ c ∧ c < 127 := by
  intro c hc
  obtain ⟨a, ha, rfl⟩ := List.mem_map.mp hc
  cases a with
  | none => exact ⟨by decide, by decide⟩
  | some d => have := h d ha; exact ⟨this.1, this.2.1⟩

theorem noBreak : ∀ c, c < 127 → 33 ≤ c → Unicode.isLineBreak c = false := by decide +kernel
theorem lines_one {a : List Nat} (hn : a ≠ []) (h : ∀ c ∈ a, 33 ≤ c ∧ c < 127) : lineCuts (S a) = [(0, (S a).length)] := by
  have run : ∀ (m cur : Nat), cur + m ≤ a.length → Id.run (forIn (m := Id) (List.range' cur m) ((#[], 0) : StrLaws.LsSt) (StrLaws.lsBody (S a))) = (#[], 0) := by
    intro m
    induction m with
    | zero => intro cur _; rfl
    | succ m ih =>
      intro cur hc
      rw [List.range'_succ, List.forIn_cons]
      have hcur : cur < a.length := by omega
      have e : (S a).cps.getD cur 0 = a[cur] := by simp [S, Array.getD, hcur]
      have hb : (decide (((#[], 0) : StrLaws.LsSt).snd ≤ cur) && Unicode.isLineBreak ((S a).cps.getD cur 0)) = false := by
        have := h a[cur] (List.getElem_mem hcur)
        rw [e, noBreak _ this.2 this.1, Bool.and_false]
      unfold StrLaws.lsBody
      simp only [hb, Bool.false_eq_true, if_false]
      exact ih (cur + 1) (by omega)
  unfold lineCuts
  rw [StrLaws.ls_eq, S_length, run a.length 0 (by omega)]
  unfold StrLaws.lsEnd
  have hpos : 0 < a.length := List.length_pos_iff.mpr hn
  simp [S_length, hpos]
theorem rstrip_same {a : List Nat} (h : ∀ c ∈ a, 33 ≤ c ∧ c < 127) (hl : a.getLast? = some 61) : Txt.rstrip (S a) = S a := by
  obtain ⟨hi, h1, h2, h3, _⟩ := rstrip_cut (x := S a) (by intro c hc; rw [S_toList] at hc; have := h c hc; omega)
  have hn : a ≠ [] := by intro e; rw [e] at hl; cases hl
  have hpos : 0 < a.length := List.length_pos_iff.mpr hn
  rw [S_length] at h1 h3
  rw [List.getLast?_eq_getElem?] at hl
  by_cases hlt : hi < a.length
  · have := h3 (a.length - 1) (by omega) (by omega)
    have e : (S a).cps.getD (a.length - 1) 0 = 61 := by
      have hlt' : a.length - 1 < a.length := by omega
      rw [List.getElem?_eq_getElem hlt'] at hl
      have hl : a[a.length - 1] = 61 := by simpa using hl
      simp [S, Array.getD, hl]
      omega
    rw [e] at this
    exact absurd this (by decide +kernel)
  · have : hi = a.length := by omega
    rw [h2, this, ← S_length]
    exact strSub_whole _
theorem endsNot {a : List Nat} (h : ∀ c ∈ a, 33 ≤ c) : Txt.endswith (S a) (S [10]) = false := by
  unfold Txt.endswith Builtin.Str.subAt
  cases hb : decide (0 + (S [10]).length ≤ (S a).length) with
  | false => simp
  | true =>
    simp only [Bool.true_and]
    have hpos : 1 ≤ a.length := by
      have := of_decide_eq_true hb
      rw [S_length, S_length] at this
      simpa using this
    refine Bool.eq_false_iff.mpr fun he => ?_
    have he := eq_of_beq he
    have e2 := congrArg Array.toList he
    rw [S_length, S_length, Array.toList_extract] at e2
    have e3 : (S a).cps.toList = a := S_toList a
    have e4 : 10 ∈ a := by
      have : 10 ∈ (S [10]).cps.toList := by decide
      rw [← e2, e3] at this
      have := List.mem_of_mem_drop (List.mem_of_mem_take this)
      exact this
    have := h 10 e4
    omega

def hexS : List Nat := [48, 49, 50, 51, 52, 53, 54, 55, 56, 57, 97, 98, 99, 100, 101, 102, 65, 66, 67, 68, 69, 70]
section
variable {prog : Program} {w : World} {A : Around} {E : Value → Shared → Prop} {s : Shared} {Q : Value → Shared → Prop} {t u : Tok}
theorem inHex {c : Nat} {b : Bool} (e : (!(Builtin.Str.occurrences (S hexS) (S [c]) 0 (S hexS).length 1).isEmpty) = b) (h : Q (.bool b) s) : wpAny (model prog w) A (compareOp .In (.str (S [c]) u) (.str (S hexS) t)) Q E s :=
  P.in_str (by rw [e]; exact h)
theorem linesW {s₀ : Shared} {L : Addr} {m : Str → Option Value} {os : List (Addr × Obj)} {a : List Nat} (hn : a ≠ []) (hr : ∀ c ∈ a, 33 ≤ c ∧ c < 127) (hz : a.length ≤ 1000) (F : Fm s₀ L m os s)
    (h : ∀ l s', Fm s₀ L m ((l, listO [.str (S a) t]) :: os) s' → Q (.ref l) s') : wpAny (model prog w) A (call (.builtin "str.splitlines") [.str (S a) t]) Q E s := by
  have e := lines_one hn hr
  refine call_meets PySem.F.slot_str_splitlines (typeIs_str _ _ _) PySem.F.entry_str_splitlines (PySem.F.args_str_splitlines_1 _) (meets_str_splitlines (S a) t (by rw [S_length, sizeLine_eq]; omega) (by rw [e, sizeLine_eq]; exact (by decide : 1 ≤ 16777216))) ?_
  rw [e]
  simp only [BEq.rfl, if_true]
  exact h _ _ (F.push _)
end
theorem enc_cons (a : Option Nat) (r : List (Option Nat)) : enc (a :: r) = encA a ++ enc r := by unfold enc; rw [List.flatMap_cons]
theorem at_mid {pre suf : List Nat} {c : Nat} {k : Nat} (h : suf[k]? = some c) : (pre ++ suf)[(((pre.length : Nat) : Int) + ((k : Nat) : Int)).toNat]? = some c := by
  have : (((pre.length : Nat) : Int) + ((k : Nat) : Int)).toNat = pre.length + k := by omega
  rw [this, List.getElem?_append_right (by omega)]
  simpa using h
theorem at_mid0 {pre suf : List Nat} {c : Nat} (h : suf[0]? = some c) : (pre ++ suf)[(((pre.length : Nat) : Int)).toNat]? = some c := by
  have := at_mid (pre := pre) h
  simpa using this
variable {w : World} {A : Around} {s : Shared} {Q E : Value → Shared → Prop}
theorem decode_spec {at' : List (Option Nat)} {t : Tok} (hok : OkA at') (hhead : ∃ r, at' = some 63 :: r) (hlen : at'.length ≤ 100) (g : Gw w s.heap) (hr : A.depth + 1 < recursionLimit) (hh : A.handled = none)
    (h : ∀ s' t', Keeps s s' → Q (.str (S (61 :: dec at')) t') s') : wpAny (model pr w) A (call (.ref 58) [.str (S (61 :: (enc at' ++ [61]))) t]) Q E s := by
  have hel := enc_length at'
  have hW : ∀ c ∈ 61 :: (enc at' ++ [61]), 33 ≤ c ∧ c < 127 := by
    intro c hc
    rcases List.mem_cons.mp hc with rfl | hc
    · decide
    · rcases List.mem_append.mp hc with hc | hc
      · exact enc_range hok c hc
      · rw [List.mem_singleton.mp hc]; decide
  have hWl : (61 :: (enc at' ++ [61])).getLast? = some 61 := by
    rw [← List.cons_append, List.getLast?_append]; rfl
  have hWn : (61 :: (enc at' ++ [61])).length = (enc at').length + 2 := by simp
  generalize hWd : 61 :: (enc at' ++ [61]) = W at hW hWl hWn ⊢
  have hWne : W ≠ [] := by rw [← hWd]; exact List.cons_ne_nil _ _
  have h51 : s.heap.get? 51 = some { cls := .type "tuple", data := .seq [.str (S [10]) 187].toArray } := g.K _ _ (by with_unfolding_all rfl)
  with_reducible refine callDef g (by with_unfolding_all rfl) (by with_unfolding_all rfl) (by with_unfolding_all rfl) (by with_unfolding_all rfl) (by omega) (BindsTo.of_defaults (T := 51) (items := [.str (S [10]) 187].toArray) (binds := [(Str.ofString "encoded", .str (S W) t), (Str.ofString "eol", .str (S [10]) 187)]) (by with_unfolding_all rfl) h51 (by with_unfolding_all rfl) (by with_unfolding_all rfl) (by with_unfolding_all rfl)) (by decide) (locs (by with_unfolding_all rfl)) ?_
  intro A s₁ hA hA1 hA2 hA3 hT F
  have hh := hA1.trans hh
  with_reducible refine ifS ?_
  with_reducible refine wpAny_isTrue_Not ?_
  with_reducible refine nameTrue F (by with_unfolding_all rfl) ?_
  with_reducible refine sTrue (by omega) F ?_
  intro s₁ F
  rw [decide_eq_true hWne, if_neg (by decide)]
  with_reducible refine wpAny_execs_nil ?_
  dsimp only
  with_reducible refine asgN ?_
  with_reducible refine cT (l := []) (by decide +kernel) F ?_
  intro _ s₁ F
  with_reducible refine stL F ?_
  intro s₁ F
  with_reducible refine forS ?_
  with_reducible refine meth0 ?_
  with_reducible refine nmL F (by with_unfolding_all rfl) ?_
  with_reducible refine mS0 PySem.F.slot_str_splitlines PySem.F.type_str_splitlines ?_
  with_reducible refine linesW hWne hW (by omega) F ?_
  intro l s₁ F
  with_reducible refine forList (fx := [(l, listO [.str (S W) t])]) (os := []) hh (fun i m₁ os₁ => os₁ = [] ∧ m₁ "encoded" = some (.str (S W) t) ∧ m₁ "eol" = some (.str (S [10]) 187) ∧ ∃ t', m₁ "decoded" = some (.str (S (if i = 0 then [] else 61 :: dec at')) t')) F (isList_of F.hd) ?_ ?_ ?_ ?_ ?_
  · exact .inr ⟨_, List.mem_singleton.mpr rfl⟩
  · exact ⟨rfl, (by with_unfolding_all rfl), (by with_unfolding_all rfl), _, (by with_unfolding_all rfl)⟩
  · rintro i v m₁ _ s₁ q hi ⟨rfl, he, heol, td, hdec⟩ F
    have hi' : [Value.str (S W) t][i]? = some v := by simpa using hi
    have hi0 : i = 0 := by
      have := (List.getElem?_eq_some_iff.mp hi').1
      simpa using this
    subst hi0
    obtain rfl : Value.str (S W) t = v := by simpa using hi'
    rw [if_pos rfl] at hdec
    with_reducible refine wpAny_assign_Name ?_
    with_reducible refine stL F ?_
    intro s₁ F
    with_reducible refine asgN ?_
    with_reducible refine meth0 ?_
    with_reducible refine nmL F (by with_unfolding_all rfl) ?_
    with_reducible refine mS0 PySem.F.slot_str_rstrip PySem.F.type_str_rstrip ?_
    with_reducible refine SC.rstrip ?_ (by rw [S_length, sizeLine_eq]; omega)
    intro t1 k1
    rw [rstrip_same hW hWl]
    have F := F.tok k1
    with_reducible refine stL F ?_
    intro s₁ F
    with_reducible refine ifS ?_
    with_reducible refine wpAny_isTrue_Not ?_
    with_reducible refine nameTrue F (by with_unfolding_all rfl) ?_
    with_reducible refine sTrue (by omega) F ?_
    intro s₁ F
    rw [decide_eq_true hWne, if_neg (by decide)]
    with_reducible refine wpAny_execs_nil ?_
    dsimp only
    with_reducible refine asgN ?_
    with_reducible refine cI F ?_
    intro _ s₁ F
    with_reducible refine stL F ?_
    intro s₁ F
    with_reducible refine asgN ?_
    with_reducible refine callB1 (F.gw g) (by with_unfolding_all rfl) boot_len ?_
    with_reducible refine nmL F (by with_unfolding_all rfl) ?_
    with_reducible refine sLen (by omega) F ?_
    intro tn s₁ F
    with_reducible refine stL F ?_
    intro s₁ F
    with_reducible refine whileS (fun n s₂ => ∃ (m₂ : Str → Option Value) (i : Nat) (out : List Nat), Fm s s.heap.objs.size m₂ (q :: ([(l, listO [.str (S W) t])] ++ [])) s₂ ∧ m₂ "encoded" = some (.str (S W) t) ∧ m₂ "eol" = some (.str (S [10]) 187) ∧ m₂ "line" = some (.str (S W) t1) ∧ (∃ t', m₂ "n" = some (.int (W.length : Nat) t')) ∧ (∃ t', m₂ "i" = some (.int (i : Nat) t')) ∧ (∃ t', m₂ "decoded" = some (.str (S out) t')) ∧ n = W.length - i ∧ ((i = 0 ∧ out = []) ∨ (∃ pre rest, W = pre ++ (enc rest ++ [61]) ∧ i = pre.length ∧ out ++ dec rest = 61 :: dec at' ∧ OkA rest) ∨ (i = W.length ∧ out = 61 :: dec at'))) W.length ?_ ?_
    · exact ⟨_, 0, [], F, (by with_unfolding_all exact he), (by with_unfolding_all exact heol), (by with_unfolding_all rfl), ⟨_, (by with_unfolding_all rfl)⟩, ⟨_, (by with_unfolding_all rfl)⟩, ⟨_, (by with_unfolding_all exact hdec)⟩, rfl, .inl ⟨rfl, rfl⟩⟩
    · rintro n s₂ ⟨m₂, i, out, F, he, heol, hline, ⟨tn, hn⟩, ⟨ti, hi⟩, ⟨td, hd⟩, rfl, hst⟩
      with_reducible refine isTrueC ?_
      with_reducible refine nmL F (by with_unfolding_all exact hi) ?_
      with_reducible refine nmL F (by with_unfolding_all exact hn) ?_
      with_reducible refine lt_int ?_
      with_reducible refine trB ?_
      rcases hst with ⟨rfl, rfl⟩ | ⟨pre, rest, hsplit, rfl, hout, hokr⟩ | ⟨rfl, rfl⟩
      · have hW0 : W[((0 : Nat) : Int).toNat]? = some 61 := by rw [← hWd]; rfl
        obtain ⟨r0, hr0⟩ := hhead
        have hW1 : W[(((0 : Nat) : Int) + 1).toNat]? = some 63 := by rw [← hWd, hr0, enc_cons]; rfl
        have hW2 : 3 ≤ W.length := by rw [hWn, hr0, enc_cons]; simp [encA]
        rw [if_pos (by rw [decide_eq_true_eq]; omega)]
        with_reducible refine asgN ?_
        with_reducible refine Subscript_ ?_
        with_reducible refine nmL F (by with_unfolding_all exact hline) ?_
        with_reducible refine nmL F (by with_unfolding_all exact hi) ?_
        with_reducible refine sItem (by decide) (by omega) hW0 F ?_
        intro _ s₁ F
        with_reducible refine stL F ?_
        intro s₁ F
        with_reducible refine ifS ?_
        with_reducible refine isTrueC ?_
        with_reducible refine nmL F (by with_unfolding_all rfl) ?_
        with_reducible refine cT (l := [61]) (by decide +kernel) F ?_
        intro _ s₁ F
        with_reducible refine sNe ?_
        with_reducible refine trB ?_
        rw [if_neg (by decide)]
        with_reducible refine ifS ?_
        with_reducible refine isTrueC ?_
        with_reducible refine binO ?_
        with_reducible refine nmL F (by with_unfolding_all exact hi) ?_
        with_reducible refine cI F ?_
        intro _ s₁ F
        with_reducible refine iAdd F ?_
        intro _ s₁ F
        with_reducible refine nmL F (by with_unfolding_all exact hn) ?_
        with_reducible refine eq_int ?_
        with_reducible refine trB ?_
        rw [if_neg (by simp; omega)]
        with_reducible refine ifS ?_
        with_reducible refine andQ3 ?_
        with_reducible refine isTrueC ?_
        with_reducible refine binO ?_
        with_reducible refine nmL F (by with_unfolding_all exact hi) ?_
        with_reducible refine cI F ?_
        intro _ s₁ F
        with_reducible refine iAdd F ?_
        intro _ s₁ F
        with_reducible refine nmL F (by with_unfolding_all exact hn) ?_
        with_reducible refine lt_int ?_
        with_reducible refine trB ?_
        rw [if_pos (by simp; omega)]
        with_reducible refine isTrueC ?_
        with_reducible refine Subscript_ ?_
        with_reducible refine nmL F (by with_unfolding_all exact hline) ?_
        with_reducible refine binO ?_
        with_reducible refine nmL F (by with_unfolding_all exact hi) ?_
        with_reducible refine cI F ?_
        intro _ s₁ F
        with_reducible refine iAdd F ?_
        intro _ s₁ F
        with_reducible refine sItem (by decide) (by omega) hW1 F ?_
        intro _ s₁ F
        with_reducible refine nmG (F.gw g) (v := .str (S hexS) 1230) (by with_unfolding_all rfl) ?_
        with_reducible refine inHex (b := false) (by decide +kernel) ?_
        with_reducible refine trB ?_
        rw [if_neg (by decide), if_neg (by decide)]
        with_reducible refine augN ?_
        with_reducible refine nmL' F (by with_unfolding_all exact hd) ?_
        with_reducible refine nmL F (by with_unfolding_all rfl) ?_
        with_reducible refine sIAdd (by decide) F ?_
        intro _ s₁ F
        with_reducible refine stL F ?_
        intro s₁ F
        with_reducible refine augN ?_
        with_reducible refine nmL' F (by with_unfolding_all exact hi) ?_
        with_reducible refine cI F ?_
        intro _ s₁ F
        with_reducible refine iIAdd F ?_
        intro _ s₁ F
        with_reducible refine stL F ?_
        intro s₁ F
        with_reducible refine wpAny_execs_nil ?_
        dsimp only
        with_reducible refine wpAny_execs_nil ?_
        dsimp only
        with_reducible refine wpAny_execs_nil ?_
        dsimp only
        with_reducible refine ifS ?_
        with_reducible refine isTrueC ?_
        with_reducible refine nmL F (by with_unfolding_all rfl) ?_
        with_reducible refine nmL F (by with_unfolding_all exact hn) ?_
        with_reducible refine eq_int ?_
        with_reducible refine trB ?_
        rw [if_neg (by simp; omega)]
        with_reducible refine wpAny_execs_nil ?_
        dsimp only
        with_reducible refine wpAny_execs_nil ?_
        refine ⟨W.length - 1, by omega, _, 1, [] ++ [61], F, (by with_unfolding_all exact he), (by with_unfolding_all exact heol), (by with_unfolding_all exact hline), ⟨_, (by with_unfolding_all exact hn)⟩, ⟨_, (by with_unfolding_all rfl)⟩, ⟨_, (by with_unfolding_all rfl)⟩, rfl, .inr (.inl ⟨[61], at', ?_, rfl, rfl, hok⟩)⟩
        exact hWd.symm
      · cases rest with
        | nil =>
          have hsplit : W = pre ++ [61] := hsplit
          have hWp : W.length = pre.length + 1 := by rw [hsplit]; simp
          have hat : W[((pre.length : Nat) : Int).toNat]? = some 61 := by rw [hsplit]; exact at_mid0 rfl
          have hout' : out = 61 :: dec at' := by rw [← hout]; simp [dec]
          rw [if_pos (by rw [decide_eq_true_eq]; omega)]
          with_reducible refine asgN ?_
          with_reducible refine Subscript_ ?_
          with_reducible refine nmL F (by with_unfolding_all exact hline) ?_
          with_reducible refine nmL F (by with_unfolding_all exact hi) ?_
          with_reducible refine sItem (by omega) (by omega) hat F ?_
          intro _ s₁ F
          with_reducible refine stL F ?_
          intro s₁ F
          with_reducible refine ifS ?_
          with_reducible refine isTrueC ?_
          with_reducible refine nmL F (by with_unfolding_all rfl) ?_
          with_reducible refine cT (l := [61]) (by decide +kernel) F ?_
          intro _ s₁ F
          with_reducible refine sNe ?_
          with_reducible refine trB ?_
          rw [if_neg (by decide)]
          with_reducible refine ifS ?_
          with_reducible refine isTrueC ?_
          with_reducible refine binO ?_
          with_reducible refine nmL F (by with_unfolding_all exact hi) ?_
          with_reducible refine cI F ?_
          intro _ s₁ F
          with_reducible refine iAdd F ?_
          intro _ s₁ F
          with_reducible refine nmL F (by with_unfolding_all exact hn) ?_
          with_reducible refine eq_int ?_
          with_reducible refine trB ?_
          rw [if_pos (by rw [hWp]; simp)]
          with_reducible refine augN ?_
          with_reducible refine nmL' F (by with_unfolding_all exact hi) ?_
          with_reducible refine cI F ?_
          intro _ s₁ F
          with_reducible refine iIAdd F ?_
          intro _ s₁ F
          with_reducible refine stL F ?_
          intro s₁ F
          with_reducible refine contS ?_
          dsimp only
          refine ⟨W.length - W.length, by omega, _, W.length, out, F, (by with_unfolding_all exact he), (by with_unfolding_all exact heol), (by with_unfolding_all exact hline), ⟨_, (by with_unfolding_all exact hn)⟩, ⟨_, (by rw [hWp]; with_unfolding_all rfl)⟩, ⟨_, (by with_unfolding_all exact hd)⟩, rfl, .inr (.inr ⟨rfl, hout'⟩)⟩
        | cons a r =>
          cases a with
          | some c =>
            have hc := hokr c (List.mem_cons_self ..)
            have hsplit : W = pre ++ (c :: (enc r ++ [61])) := hsplit
            have hWp : W.length = pre.length + 2 + (enc r).length := by rw [hsplit]; simp; omega
            have hat : W[((pre.length : Nat) : Int).toNat]? = some c := by rw [hsplit]; exact at_mid0 rfl
            have hol : out.length ≤ 1000 := by
              have := congrArg List.length hout
              simp [dec] at this
              omega
            rw [if_pos (by rw [decide_eq_true_eq]; omega)]
            with_reducible refine asgN ?_
            with_reducible refine Subscript_ ?_
            with_reducible refine nmL F (by with_unfolding_all exact hline) ?_
            with_reducible refine nmL F (by with_unfolding_all exact hi) ?_
            with_reducible refine sItem (by omega) (by omega) hat F ?_
            intro _ s₁ F
            with_reducible refine stL F ?_
            intro s₁ F
            with_reducible refine ifS ?_
            with_reducible refine isTrueC ?_
            with_reducible refine nmL F (by with_unfolding_all rfl) ?_
            with_reducible refine cT (l := [61]) (by decide +kernel) F ?_
            intro _ s₁ F
            with_reducible refine sNe ?_
            with_reducible refine trB ?_
            rw [if_pos (by simp; omega)]
            with_reducible refine augN ?_
            with_reducible refine nmL' F (by with_unfolding_all exact hd) ?_
            with_reducible refine nmL F (by with_unfolding_all rfl) ?_
            with_reducible refine sIAdd (by simp; omega) F ?_
            intro _ s₁ F
            with_reducible refine stL F ?_
            intro s₁ F
            with_reducible refine augN ?_
            with_reducible refine nmL' F (by with_unfolding_all exact hi) ?_
            with_reducible refine cI F ?_
            intro _ s₁ F
            with_reducible refine iIAdd F ?_
            intro _ s₁ F
            with_reducible refine stL F ?_
            intro s₁ F
            with_reducible refine wpAny_execs_nil ?_
            dsimp only
            with_reducible refine ifS ?_
            with_reducible refine isTrueC ?_
            with_reducible refine nmL F (by with_unfolding_all rfl) ?_
            with_reducible refine nmL F (by with_unfolding_all exact hn) ?_
            with_reducible refine eq_int ?_
            with_reducible refine trB ?_
            rw [if_neg (by simp; omega)]
            with_reducible refine wpAny_execs_nil ?_
            dsimp only
            with_reducible refine wpAny_execs_nil ?_
            refine ⟨W.length - (pre ++ [c]).length, by simp; omega, _, (pre ++ [c]).length, out ++ [c], F, (by with_unfolding_all exact he), (by with_unfolding_all exact heol), (by with_unfolding_all exact hline), ⟨_, (by with_unfolding_all exact hn)⟩, ⟨_, (by rw [List.length_append]; with_unfolding_all rfl)⟩, ⟨_, (by with_unfolding_all rfl)⟩, rfl, .inr (.inl ⟨pre ++ [c], r, ?_, rfl, ?_, fun d hd => hokr d (List.mem_cons_of_mem _ hd)⟩)⟩
            · rw [hsplit]; simp
            · rw [← hout]; simp [dec, decA]
          | none =>
            have hsplit : W = pre ++ (61 :: 51 :: 70 :: (enc r ++ [61])) := hsplit
            have hWp : W.length = pre.length + 4 + (enc r).length := by rw [hsplit]; simp; omega
            have hat : W[((pre.length : Nat) : Int).toNat]? = some 61 := by rw [hsplit]; exact at_mid0 rfl
            have hat1 : W[(((pre.length : Nat) : Int) + 1).toNat]? = some 51 := by rw [hsplit]; exact at_mid (k := 1) rfl
            have hat2 : W[(((pre.length : Nat) : Int) + 2).toNat]? = some 70 := by rw [hsplit]; exact at_mid (k := 2) rfl
            have hsl : (W.drop pre.length).take (pre.length + 3 - pre.length) = [61, 51, 70] := by
              rw [hsplit, List.drop_append_of_le_length (Nat.le_refl _), List.drop_length, Nat.add_sub_cancel_left]; rfl
            have hol : out.length ≤ 1000 := by
              have := congrArg List.length hout
              simp [dec] at this
              omega
            rw [if_pos (by rw [decide_eq_true_eq]; omega)]
            with_reducible refine asgN ?_
            with_reducible refine Subscript_ ?_
            with_reducible refine nmL F (by with_unfolding_all exact hline) ?_
            with_reducible refine nmL F (by with_unfolding_all exact hi) ?_
            with_reducible refine sItem (by omega) (by omega) hat F ?_
            intro _ s₁ F
            with_reducible refine stL F ?_
            intro s₁ F
            with_reducible refine ifS ?_
            with_reducible refine isTrueC ?_
            with_reducible refine nmL F (by with_unfolding_all rfl) ?_
            with_reducible refine cT (l := [61]) (by decide +kernel) F ?_
            intro _ s₁ F
            with_reducible refine sNe ?_
            with_reducible refine trB ?_
            rw [if_neg (by decide)]
            with_reducible refine ifS ?_
            with_reducible refine isTrueC ?_
            with_reducible refine binO ?_
            with_reducible refine nmL F (by with_unfolding_all exact hi) ?_
            with_reducible refine cI F ?_
            intro _ s₁ F
            with_reducible refine iAdd F ?_
            intro _ s₁ F
            with_reducible refine nmL F (by with_unfolding_all exact hn) ?_
            with_reducible refine eq_int ?_
            with_reducible refine trB ?_
            rw [if_neg (by simp; omega)]
            with_reducible refine ifS ?_
            with_reducible refine andQ3 ?_
            with_reducible refine isTrueC ?_
            with_reducible refine binO ?_
            with_reducible refine nmL F (by with_unfolding_all exact hi) ?_
            with_reducible refine cI F ?_
            intro _ s₁ F
            with_reducible refine iAdd F ?_
            intro _ s₁ F
            with_reducible refine nmL F (by with_unfolding_all exact hn) ?_
            with_reducible refine lt_int ?_
            with_reducible refine trB ?_
            rw [if_pos (by simp; omega)]
            with_reducible refine isTrueC ?_
            with_reducible refine Subscript_ ?_
            with_reducible refine nmL F (by with_unfolding_all exact hline) ?_
            with_reducible refine binO ?_
            with_reducible refine nmL F (by with_unfolding_all exact hi) ?_
            with_reducible refine cI F ?_
            intro _ s₁ F
            with_reducible refine iAdd F ?_
            intro _ s₁ F
            with_reducible refine sItem (by omega) (by omega) hat1 F ?_
            intro _ s₁ F
            with_reducible refine nmG (F.gw g) (v := .str (S hexS) 1230) (by with_unfolding_all rfl) ?_
            with_reducible refine inHex (b := true) (by decide +kernel) ?_
            with_reducible refine trB ?_
            rw [if_pos rfl]
            with_reducible refine isTrueC ?_
            with_reducible refine Subscript_ ?_
            with_reducible refine nmL F (by with_unfolding_all exact hline) ?_
            with_reducible refine binO ?_
            with_reducible refine nmL F (by with_unfolding_all exact hi) ?_
            with_reducible refine cI F ?_
            intro _ s₁ F
            with_reducible refine iAdd F ?_
            intro _ s₁ F
            with_reducible refine sItem (by omega) (by omega) hat2 F ?_
            intro _ s₁ F
            with_reducible refine nmG (F.gw g) (v := .str (S hexS) 1230) (by with_unfolding_all rfl) ?_
            with_reducible refine inHex (b := true) (by decide +kernel) ?_
            with_reducible refine trB ?_
            rw [if_pos rfl]
            with_reducible refine augN ?_
            with_reducible refine nmL' F (by with_unfolding_all exact hd) ?_
            with_reducible refine callK1 (F.gw g) (by with_unfolding_all rfl) (by with_unfolding_all rfl) (by with_unfolding_all rfl) ?_
            with_reducible refine sSlice ?_
            with_reducible refine nmL F (by with_unfolding_all exact hline) ?_
            with_reducible refine nmL F (by with_unfolding_all exact hi) ?_
            with_reducible refine binO ?_
            with_reducible refine nmL F (by with_unfolding_all exact hi) ?_
            with_reducible refine cI F ?_
            intro _ s₁ F
            with_reducible refine iAdd F ?_
            intro _ s₁ F
            refine ⟨W, _, pre.length, _, pre.length + 3, _, _, _, _, _, rfl, rfl, rfl, by omega, by omega, by omega, F, ?_⟩
            intro _ s₁ F
            rw [hsl]
            refine ⟨F.gw g, ?_⟩
            with_reducible refine unquote_spec (F.gw g) (by omega) ?_
            intro s₁ _ k1
            have F := F.kept k1
            with_reducible refine sIAdd (by simp; omega) F ?_
            intro _ s₁ F
            with_reducible refine stL F ?_
            intro s₁ F
            with_reducible refine augN ?_
            with_reducible refine nmL' F (by with_unfolding_all exact hi) ?_
            with_reducible refine cI F ?_
            intro _ s₁ F
            with_reducible refine iIAdd F ?_
            intro _ s₁ F
            with_reducible refine stL F ?_
            intro s₁ F
            with_reducible refine wpAny_execs_nil ?_
            dsimp only
            with_reducible refine wpAny_execs_nil ?_
            dsimp only
            with_reducible refine wpAny_execs_nil ?_
            dsimp only
            with_reducible refine ifS ?_
            with_reducible refine isTrueC ?_
            with_reducible refine nmL F (by with_unfolding_all rfl) ?_
            with_reducible refine nmL F (by with_unfolding_all exact hn) ?_
            with_reducible refine eq_int ?_
            with_reducible refine trB ?_
            rw [if_neg (by simp; omega)]
            with_reducible refine wpAny_execs_nil ?_
            dsimp only
            with_reducible refine wpAny_execs_nil ?_
            refine ⟨W.length - (pre ++ [61, 51, 70]).length, by simp; omega, _, (pre ++ [61, 51, 70]).length, out ++ [63], F, (by with_unfolding_all exact he), (by with_unfolding_all exact heol), (by with_unfolding_all exact hline), ⟨_, (by with_unfolding_all exact hn)⟩, ⟨_, (by rw [List.length_append]; with_unfolding_all rfl)⟩, ⟨_, (by with_unfolding_all rfl)⟩, rfl, .inr (.inl ⟨pre ++ [61, 51, 70], r, ?_, rfl, ?_, fun d hd => hokr d (List.mem_cons_of_mem _ hd)⟩)⟩
            · rw [hsplit]; simp
            · rw [← hout]; simp [dec, decA]
      · rw [if_neg (by simp)]
        with_reducible refine wpAny_execs_nil ?_
        dsimp only
        with_reducible refine wpAny_execs_nil ?_
        exact ⟨_, [], ⟨rfl, he, heol, _, (by with_unfolding_all exact hd)⟩, F⟩
  · rintro m₁ _ s₁ ⟨rfl, he, heol, td, hdec⟩ F
    have hdec : m₁ "decoded" = some (.str (S (61 :: dec at')) td) := hdec
    have hdr : ∀ c ∈ 61 :: dec at', 33 ≤ c := by
      intro c hc
      rcases List.mem_cons.mp hc with rfl | hc
      · decide
      · exact (dec_range hok c hc).1
    with_reducible refine wpAny_execs_nil ?_
    dsimp only
    with_reducible refine ifS ?_
    with_reducible refine andQ ?_
    with_reducible refine isTrueC ?_
    with_reducible refine Subscript_ ?_
    with_reducible refine nmL F (by with_unfolding_all exact he) ?_
    with_reducible refine negC F ?_
    intro _ s₁ F
    with_reducible refine sLast (by omega) hWl F ?_
    intro _ s₁ F
    with_reducible refine cT (l := [13, 10]) (by decide +kernel) F ?_
    intro _ s₁ F
    with_reducible refine P.notIn_str ?_
    with_reducible refine trB ?_
    rw [if_pos (by decide +kernel)]
    with_reducible refine wpAny_isTrue_value ?_ (by with_unfolding_all rfl)
    with_reducible refine meth1 ?_
    with_reducible refine nmL F (by with_unfolding_all exact hdec) ?_
    with_reducible refine mS1 PySem.F.slot_str_endswith PySem.F.type_str_endswith ?_
    with_reducible refine nmL F (by with_unfolding_all exact heol) ?_
    with_reducible refine SC.endswith ?_
    with_reducible refine trB ?_
    rw [endsNot hdr, if_neg (by decide)]
    with_reducible refine wpAny_execs_nil ?_
    dsimp only
    with_reducible refine retS ?_
    with_reducible refine nmL F (by with_unfolding_all exact hdec) ?_
    exact h _ _ F.keeps
  · intro _ _; with_unfolding_all rfl
end
end Mine
set_option maxHeartbeats 400000
set_option linter.unusedVariables false
namespace Mine
noncomputable section
/-- an IndexError: its traceback, its context -/
def ExO (o : Obj) (a b : Value) : Prop := o.cls = .type "IndexError" ∧ ∃ vs, o.data = .fields vs ∧ vs[1]? = some a ∧ vs[2]? = some b
/-- a traceback's entry: where it flies -/
def TbO (o : Obj) (f : Value) : Prop := ∃ ts, o.data = .fields ts ∧ ts[3]? = some f
def NoF (o : Obj) : Prop := ∀ vs, o.data ≠ .fields vs
section
variable {prog : Program} {w : World} {M : Model} {A : Around} {E : Value → Shared → Prop} {s₀ s : Shared} {L Ll : Addr} {m : Str → Option Value} {os : List (Addr × Obj)} {env envl : Env} {e T : Addr} {oe oT ol : Obj}

theorem Fm.swap {p q : Addr × Obj} (F : Fm s₀ L m (p :: q :: os) s) : Fm s₀ L m (q :: p :: os) s := F.perm (List.Perm.swap p q os)
theorem Fm.second {p : Addr × Obj} {a : Addr} {o o' : Obj} (F : Fm s₀ L m (p :: (a, o) :: os) s) {h' : Heap} {tk : Nat} (e : h'.get? a = some o') (hs : Heap.SameBut a s.heap h') :
    Fm s₀ L m (p :: (a, o') :: os) { s with heap := h', toks := tk } := (F.swap.upd e hs).swap
theorem Fm.slots {p : Addr × Obj} (F : Fm s₀ L m (p :: (Ll, ol) :: os) s) {h' : Heap} (hs : Heap.SlotsOnly [L, Ll] s.heap h') :
    ∃ ol', ol'.data = ol.data ∧ Fm s₀ L m (p :: (Ll, ol') :: os) { s with heap := h' } := by
  obtain ⟨h1, h2, h3⟩ := hs
  have ho := F.own (Ll, ol) (List.mem_cons_of_mem _ (List.mem_cons_self ..))
  obtain ⟨sl, hsl⟩ := h3 Ll ol ho.1
  have hnd := F.nd
  simp only [List.map_cons, List.nodup_cons, List.mem_cons, not_or] at hnd
  refine ⟨{ ol with slots := sl }, rfl, ?_, ?_, F.fresh, ?_, ?_⟩
  · obtain ⟨h₁, t₁, e₁, hk⟩ := F.keeps
    refine ⟨h', s.toks, by rw [e₁], fun b ob eb => (h2 b ?_).trans ?_⟩
    · intro hm
      simp only [List.mem_cons, List.not_mem_nil, or_false] at hm
      rcases hm with rfl | rfl
      · exact absurd (Heap.lt_size eb) (Nat.not_lt.mpr F.fresh)
      · rw [ho.2.1] at eb; cases eb
    · have := hk b ob eb
      rw [e₁]; exact this
  · obtain ⟨o, es, ep, h1, h4⟩ := F.ns
    obtain ⟨sl', hsl'⟩ := h3 L o h1
    exact ⟨_, es, ep, hsl', h4⟩
  · intro q hq
    rcases List.mem_cons.mp hq with rfl | hq
    · have := F.own q (List.mem_cons_self ..)
      refine ⟨(h2 _ ?_).trans this.1, this.2⟩
      intro hm
      simp only [List.mem_cons, List.not_mem_nil, or_false] at hm
      rcases hm with e | e
      · exact this.2.2 e
      · exact hnd.1.1 e
    · rcases List.mem_cons.mp hq with rfl | hq
      · exact ⟨hsl, ho.2⟩
      · have := F.own q (List.mem_cons_of_mem _ (List.mem_cons_of_mem _ hq))
        refine ⟨(h2 _ ?_).trans this.1, this.2⟩
        intro hm
        simp only [List.mem_cons, List.not_mem_nil, or_false] at hm
        rcases hm with e | e
        · exact this.2.2 e
        · exact hnd.2.1 (e ▸ List.mem_map.mpr ⟨q, hq, rfl⟩)
  · exact F.nd

/-- the first entry of a traceback -/
theorem nfFirst {b : Value} {Q : Unit → Shared → Prop} (hfr : A.frames = some [env, envl]) (hf : env.frame = some L) (hfl : envl.frame = some Ll) (hk : env.scope.kind ≠ .module) (hkl : envl.scope.kind ≠ .module) (hol : NoF ol)
    (F : Fm s₀ L m ((e, oe) :: (Ll, ol) :: os) s) (he : ExO oe .none b)
    (h : ∀ oe' T oT ol' s', ExO oe' (.ref T) b → TbO oT (rawInt L) → ol'.data = ol.data → Fm s₀ L m ((e, oe') :: (T, oT) :: (Ll, ol') :: os) s' → Q () s') : wpAny M A (noteFrame (.ref e) env) Q E s := by
  obtain ⟨hcls, vs, hd, h1, h2⟩ := he
  unfold noteFrame
  simp only [hf]
  refine wpAny_bind (wpAny_field F.hd hd h1 ?_)
  rw [if_neg (by decide)]
  have hLl := F.own (Ll, ol) (List.mem_cons_of_mem _ (List.mem_cons_self ..))
  have hFF : s.heap.FunFrames s₀.heap [env, envl] := by
    refine ⟨hk, ?_, hkl, ⟨Ll, ol, hfl, hLl.2.1, hLl.1, hol⟩, trivial⟩
    obtain ⟨o, es, ep, g1, g2, _⟩ := F.ns
    exact ⟨L, o, hf, Heap.get?_none_of_le F.fresh, g1, fun vs q => by rw [g2] at q; cases q⟩
  refine wpAny_bind (wpAny_frameOf_fun hfr hFF hf fun h₁ hs₁ => ?_)
  have hs₁ : Heap.SlotsOnly [L, Ll] s.heap h₁ := by simpa [List.filterMap, hf, hfl] using hs₁
  obtain ⟨ol', hol', F₁⟩ := F.slots hs₁
  refine wpAny_bind (wpAny_entryPlaceOf fun pl hpl => ?_)
  unfold EntryCells.newEntry newFields
  refine wpAny_bind (wpAny_newObj_type ?_ (hpl.sizeOk5 _ _ _ _ _))
  have F₂ := (F₁.push { cls := .type "traceback", dict := none, data := .fields ([Value.none, .ref L, .none, rawInt L, .none] ++ (if pl.isEmpty then List.replicate 6 Value.none else pl)).toArray }).swap
  refine wpAny_setField F₂.hd hd (Array.getElem?_eq_some_iff.mp h1).1 ?_
  have hd₃ := Obj.data_mapFields hd (·.setIfInBounds 1 (Value.ref h₁.objs.size))
  have he₃ := Heap.get?_update_self (Obj.mapFields (·.setIfInBounds 1 (Value.ref h₁.objs.size))) F₂.hd (Obj.isFreed_of_fields hd₃)
  refine h _ _ _ _ _ ⟨(Obj.cls_mapFields _ _).trans hcls, _, hd₃, ?_, ?_⟩ ⟨_, rfl, ?_⟩ hol' (F₂.upd (tk := s.toks) he₃ (Heap.SameBut.update ..))
  · simp [(Array.getElem?_eq_some_iff.mp h1).1]
  · rw [Array.getElem?_setIfInBounds_ne (by decide)]; exact h2
  · first | (simp; done) | (rcases hpl with rfl | ⟨_, _, _, _, _, _, _, rfl⟩ <;> simp)
theorem nfAgain {b : Value} {Q : Unit → Shared → Prop} (hf : env.frame = some L) (F : Fm s₀ L m ((e, oe) :: (T, oT) :: os) s) (he : ExO oe (.ref T) b) (ht : TbO oT (rawInt L)) (h : Q () s) : wpAny M A (noteFrame (.ref e) env) Q E s := by
  obtain ⟨hcls, vs, hd, h1, h2⟩ := he
  obtain ⟨ts, hdT, h3⟩ := ht
  unfold noteFrame
  simp only [hf]
  refine wpAny_bind (wpAny_field F.hd hd h1 ?_)
  rw [if_pos (show (Value.ref T != Value.none) = true from by simp)]
  refine wpAny_bind (wpAny_field F.hd2 hdT h3 ?_)
  rw [if_pos (show (rawInt L == rawInt L) = true from by simp)]
  exact wpAny_pure h
theorem setFl {b f : Value} {x : Option Addr} {Q : Unit → Shared → Prop} (F : Fm s₀ L m ((e, oe) :: (T, oT) :: os) s) (he : ExO oe (.ref T) b) (ht : TbO oT f)
    (h : ∀ oT' s', TbO oT' (x.elim Value.none fun f => rawInt f) → Fm s₀ L m ((e, oe) :: (T, oT') :: os) s' → Q () s') : wpAny M A (setFlight (.ref e) x) Q E s := by
  obtain ⟨hcls, vs, hd, h1, h2⟩ := he
  obtain ⟨ts, hdT, h3⟩ := ht
  have hsz3 : 3 < ts.size := (Array.getElem?_eq_some_iff.mp h3).1
  unfold setFlight
  refine wpAny_bind (wpAny_field F.hd hd h1 ?_)
  rw [if_pos (show (Value.ref T != Value.none) = true from by simp)]
  refine wpAny_setField F.hd2 hdT hsz3 (h _ _ ⟨_, Obj.data_mapFields hdT _, by simp [hsz3]⟩ (F.second (tk := s.toks) (Heap.get?_update_self _ F.hd2 (Obj.isFreed_of_fields (Obj.data_mapFields hdT _))) (Heap.SameBut.update ..)))
/-- an exception that this frame has noted, in flight -/
def Held (s₀ : Shared) (L : Addr) (m : Str → Option Value) (Ll : Addr) (D : Data) (os : List (Addr × Obj)) (e : Addr) (b : Value) (s : Shared) : Prop :=
  ∃ oe T oT ol, ExO oe (.ref T) b ∧ TbO oT (rawInt L) ∧ ol.data = D ∧ Fm s₀ L m ((e, oe) :: (T, oT) :: (Ll, ol) :: os) s
theorem heldBack {D : Data} {b : Value} (hf : env.frame = some L) (H : Held s₀ L m Ll D os e b s) (h : ∀ s', Held s₀ L m Ll D os e b s' → E (.ref e) s') : cameBackBy M A env E (.ref e) s := by
  obtain ⟨oe, T, oT, ol, he, ht, hD, F⟩ := H
  obtain ⟨hcls, vs, hd, h1, h2⟩ := id he
  unfold cameBackBy
  refine wpAny_bind (wpAny_field F.hd hd h1 ?_)
  have : ¬ ((Value.ref T == Value.none) = true) := by simp
  rw [if_neg this]
  rw [hf]
  exact setFl F he ht fun oT' s' ht' F' => h s' ⟨oe, T, oT', ol, he, ht', hD, F'⟩
theorem heldOn {α : Type} {what : String} {D : Data} {b : Value} {Q : α → Shared → Prop} (hf : env.frame = some L) {f : Value} (he : ExO oe (.ref T) b) (ht : TbO oT f) (hD : ol.data = D) (F : Fm s₀ L m ((e, oe) :: (T, oT) :: (Ll, ol) :: os) s)
    (h : ∀ s', Held s₀ L m Ll D os e b s' → E (.ref e) s') : wpAny M A (PySem.passOn what (.ref e) env : Sem α) Q E s := by
  obtain ⟨hcls, vs, hd, h1, h2⟩ := id he
  unfold PySem.passOn
  refine wpAny_bind (wpAny_field F.hd hd h1 ?_)
  have : ¬ ((Value.ref T == Value.none) = true) := by simp
  rw [if_neg this]
  rw [hf]
  exact wpAny_bind (setFl F he ht fun oT' s' ht' F' => wpAny_throw (h s' ⟨oe, T, oT', ol, he, ht', hD, F'⟩))

theorem Fm.newly (F : Fm s₀ L m os s) {h' : Heap} {tk : Nat} (k : Kp s.heap h') (hn : s.heap.get? e = none) (ho : h'.get? e = some oe) : Fm s₀ L m ((e, oe) :: os) { s with heap := h', toks := tk } := by
  have F' : Fm s₀ L m os { s with heap := h', toks := tk } := F.kept ⟨h', tk, rfl, k⟩
  refine F'.add ho ?_ ?_ ?_
  · cases hq : s₀.heap.get? e with
    | none => rfl
    | some o => have := kkp F.keeps e o hq; rw [hn] at this; cases this
  · rintro rfl
    obtain ⟨o, _, _, h1, _⟩ := F.ns
    rw [hn] at h1; cases h1
  · intro hm
    obtain ⟨p, hp, rfl⟩ := List.mem_map.mp hm
    rw [(F.own p hp).1] at hn; cases hn
/-- xs[k], k too large: raised -/
theorem outNone {l : Addr} {items : Array Value} {k : Int} {t : Tok} {Q : Value → Shared → Prop} (hA : A.handled = none) (hl : s.heap.IsList l items) (hout : (items.size : Int) ≤ k) (hhi : k < 2 ^ 63) (F : Fm s₀ L m os s)
    (hE : ∀ e oe s', ExO oe .none .none → Fm s₀ L m ((e, oe) :: os) s' → E (.ref e) s') : wpAny (model prog w) A (getItem (.ref l) (.int k t)) Q E s := by
  refine wpAny_getItem_list_out hA hl (.inr hout) (by omega) hhi fun h' tk e hx => ?_
  obtain ⟨ob, tt, h1, h2, h3⟩ := hx.there
  exact hE e ob _ ⟨h2, _, h3, rfl, rfl⟩ (F.newly hx.keeps hx.new h1)
theorem entry_unchain : entryFor table "proto.unchain" = some Builtin.«proto.unchain» := by first | exact entryFor_of_fast (by kernel_rfl) | exact entryFor_of_tree (by kernel_rfl)
theorem raise2 {α : Type} {msg : String} {e1 : Addr} {oe1 : Obj} {a : Value} {Q : α → Shared → Prop} (hA : A.handled = some (.ref e1)) (h1 : ExO oe1 a .none) (F : Fm s₀ L m ((e1, oe1) :: os) s)
    (hE : ∀ e oe s', ExO oe .none (.ref e1) → Fm s₀ L m ((e, oe) :: (e1, oe1) :: os) s' → E (.ref e) s') : wpAny (model prog w) A (raiseErrorWords "IndexError" msg : Sem α) Q E s := by
  obtain ⟨hc1, vs1, hd1, _, h12⟩ := h1
  unfold raiseErrorWords
  refine wpAny_bind (wpAny_mkText (wpAny_bind ?_))
  unfold newExc newTuple
  refine wpAny_bind (wpAny_newObj_type ?_)
  refine wpAny_bind (m := firstArgMember _ _) (wpAny_of_eq (a := Value.none) (by simp only [firstArgMember, plainExc_IndexError.first]; rfl) ?_)
  rw [plainExc_IndexError.own]
  refine wpAny_newObj_type ?_
  have F1 := ((F.tok (s.toks + 1)).push { cls := .type "tuple", data := .seq [Value.str (msg : Str) s.toks].toArray }).drop1
  have F2 := F1.push { cls := .type "IndexError", data := .fields (#[.ref s.heap.objs.size, .none, .none, .none, .bool false, .none] ++ #[]) }
  unfold raiseNew
  refine wpAny_bind (wpAny_handled ?_)
  rw [hA]
  dsimp only
  have hne : (Value.ref e1 != Value.ref (s.heap.push { cls := .type "tuple", data := .seq [Value.str (msg : Str) s.toks].toArray }).objs.size) = true := by
    have := F1.lt (List.mem_cons_self ..)
    have h2 : e1 ≠ (s.heap.push { cls := .type "tuple", data := .seq [Value.str (msg : Str) s.toks].toArray }).objs.size := Nat.ne_of_lt this
    simp only [bne_iff_ne, ne_eq, Value.ref.injEq]; exact h2
  rw [if_pos hne]
  refine wpAny_bind (wpAny_holding (wpAny_runValue (codeAny_builtin entry_unchain ?_)))
  show wpAny _ _ (field (.ref e1) 2 >>= _) _ _ _
  refine wpAny_bind (wpAny_field F2.hd2 hd1 h12 ?_)
  rw [if_pos (by decide)]
  refine wpAny_pure ?_
  show wpAny _ _ (updateField _ 2 (.ref e1) >>= fun _ => throw _) _ _ _
  unfold updateField
  refine wpAny_bind (wpAny_bind (wpAny_load F2.hd ?_))
  dsimp only
  rw [if_pos (by simp)]
  refine wpAny_update F2.hd (wpAny_throw (hE _ _ _ ⟨rfl, _, rfl, ?_, ?_⟩ (F2.upd (tk := s.toks + 1) (Heap.get?_update_self _ F2.hd rfl) (Heap.SameBut.update ..))))
  · simp
  · simp

theorem out2 {l : Addr} {items : Array Value} {k : Int} {t : Tok} {e1 : Addr} {oe1 : Obj} {a : Value} {Q : Value → Shared → Prop} (hA : A.handled = some (.ref e1)) (h1 : ExO oe1 a .none) (F : Fm s₀ L m ((e1, oe1) :: os) s) (hl : s.heap.IsList l items) (hout : (items.size : Int) ≤ k) (hhi : k < 2 ^ 63)
    (hE : ∀ e oe s', ExO oe .none (.ref e1) → Fm s₀ L m ((e, oe) :: (e1, oe1) :: os) s' → E (.ref e) s') : wpAny (model prog w) A (getItem (.ref l) (.int k t)) Q E s := by
  obtain ⟨o, ho, hc, ne, hd⟩ := id hl
  unfold getItem
  try with_reducible refine wpAny_holding ?_
  first | refine wpAny_bind (wpAny_pure ?_) | skip
  refine wpAny_bind (wpAny_sequenceKey hl.typeIs (by decide) ?_)
  refine wpAny_bind (wpAny_callSpecial?_slot (name := Str.ofString "__getitem__") hl.typeIs PySem.slot_list_getitem
    (wpAny_call_entry PySem.slot_list_getitem hl.typeIs entry_list_getitem ?_ (args_list_getitem _ _)))
  show wpAny _ _ (Builtin.List.listSubscript? (.int k t) >>= _) _ _ s
  refine wpAny_bind (wpAny_listSubscript_int (fitsIndex_both (by omega) hhi) ?_)
  clear hhi
  obtain ⟨j, rfl⟩ := Int.eq_ofNat_of_zero_le (Int.le_trans (Int.natCast_nonneg items.size) hout)
  have hx : items[j]? = none := Array.getElem?_eq_none (by omega)
  show wpAny _ _ ((seqItemAt l j >>= fun r => pure (r.map (j, ·))) >>= _) _ _ s
  refine wpAny_bind (wpAny_bind (wpAny_seqItemAt ho hd (wpAny_pure ?_)))
  rw [hx]
  first
    | exact wpAny_bind (wpAny_rule (raise2 (by exact hA) h1 F hE))
    | exact wpAny_bind (wpAny_rule (wpAny_bind (raise2 (by exact hA) h1 F hE)))
    | exact wpAny_bind (wpAny_bind (wpAny_rule (raise2 (by exact hA) h1 F hE)))
    | exact wpAny_rule (raise2 (by exact hA) h1 F hE)
/-- a while-loop whose test is false at once, or raises -/
theorem while0 {test : PySem.Expr} {body rest : List Stmt} {pos : Pos} {Q : Flow → Shared → Prop}
    (h : wpAny (model prog w) A (isTrue test env (eval test env)) (fun b s₂ => b = false ∧ wpAny (model prog w) A (execs rest env) Q E s₂) (notedBy (model prog w) A env (cameBackBy (model prog w) A env E)) s) :
    wpAny (model prog w) A (execs (.While test body [] pos :: rest) env) Q E s := by
  refine wpAny_execs_cons (wpAny_While (codeAny_whileLoop (fun _ s' => s' = s) (fun n s' hI => ?_) 0 rfl))
  subst hI
  refine wpAny_mono h (fun b s₂ h₂ => ?_) fun x s' q => q
  obtain ⟨rfl, h₂⟩ := h₂
  rw [if_neg (by decide)]
  exact wpAny_execs_nil h₂
/-- raised in a loop's test: noted, then handed on by the loop -/
theorem notedFirst {A' : Around} {b : Value} {D : Data} (hfr : A.frames = some [env, envl]) (hf : env.frame = some L) (hfl : envl.frame = some Ll) (hk : env.scope.kind ≠ .module) (hkl : envl.scope.kind ≠ .module) (hol : NoF ol) (hD : ol.data = D)
    (F : Fm s₀ L m ((e, oe) :: (Ll, ol) :: os) s) (he : ExO oe .none b) (h : ∀ s', Held s₀ L m Ll D os e b s' → E (.ref e) s') : notedBy M A env (cameBackBy M A' env E) (.ref e) s := by
  unfold notedBy
  refine nfFirst hfr hf hfl hk hkl hol F he fun oe' T oT ol' s' h1 h2 h3 F' => ?_
  exact heldBack hf ⟨oe', T, oT, ol', h1, h2, h3.trans hD, F'⟩ h
theorem notedAgain {A' : Around} {b : Value} {D : Data} (hf : env.frame = some L) (H : Held s₀ L m Ll D os e b s) (h : ∀ s', Held s₀ L m Ll D os e b s' → E (.ref e) s') : notedBy M A env (cameBackBy M A' env E) (.ref e) s := by
  obtain ⟨oe, T, oT, ol, he, ht, hD, F⟩ := id H
  unfold notedBy
  exact nfAgain hf F he ht (heldBack hf H h)
/-- what the except clause of the try meets: caught -/
theorem caught {b : Value} {D : Data} {t : PySem.Expr} {b₀ : Stmt} {suite : List Stmt} {pos : Pos} {Q : Flow → Shared → Prop} {EE : Value → Shared → Prop} (hf : env.frame = some L) (H : Held s₀ L m Ll D os e b s)
    (ht : ∀ s' ol', ol'.data = D → Fm s₀ L m ((Ll, ol') :: os) s' → ∀ Q : Value → Shared → Prop, ∀ E', Q (.type "IndexError") s' → wpAny (model prog w) (A.mark (some (.ref e))) (eval t env) Q E' s')
    (h : ∀ ol' s', ol'.data = D → Fm s₀ L m ((Ll, ol') :: os) s' → ∀ E', wpAny (model prog w) (A.mark (some (.ref e))) (execs (b₀ :: suite) env) Q E' s') :
    wpAny (model prog w) A (noteFrame (.ref e) env) (fun _ s₂ => wpAny (model prog w) A (setFlight (.ref e) none) (fun _ s₃ => wpAny (model prog w) A (handleBy (.ref e) env [.ExceptHandler (some t) none (b₀ :: suite) pos]) Q E s₃) E s₂) EE s := by
  obtain ⟨oe, T, oT, ol, he, hT, hD, F⟩ := id H
  refine nfAgain hf F he hT ?_
  refine setFl F he hT fun oT' s₁ hT' F₁ => ?_
  refine wpAny_handleBy_builtin (X := "IndexError") (T := "IndexError") (b := true) (by rw [isSubtype_type]; kernel_rfl) (by rw [isSubtype_type]; kernel_rfl) (by rw [isSubtype_type]; kernel_rfl) ?_
  refine ht _ ol hD F₁.drop1.drop1 _ _ ⟨rfl, ⟨oe, F₁.hd, he.1⟩, ?_⟩
  rw [if_pos rfl]
  refine setFl F₁ he hT' fun oT'' s₂ hT'' F₂ => ?_
  exact h ol s₂ hD F₂.drop1.drop1 _
end
end
end Mine
set_option maxHeartbeats 400000
set_option linter.unusedVariables false
namespace Mine
noncomputable section
section
variable {prog : Program} {w : World} {M : Model} {A : Around} {E : Value → Shared → Prop} {s₀ s s₁ : Shared} {L Ll : Addr} {m ml : Str → Option Value} {os osl : List (Addr × Obj)} {env envl : Env} {ol : Obj}
/-- a call's frame within the caller's -/
theorem Fm.nest (F : Fm s₀ Ll ml osl s) (F1 : Fm s L m [] s₁) (ho : s.heap.get? Ll = some ol) : Fm s₀ L m ((Ll, ol) :: osl) s₁ := by
  have hlt : Ll < L := Nat.lt_of_lt_of_le F.ltL F1.fresh
  refine ⟨ktrans F.keeps F1.keeps, F1.ns, Nat.le_trans F.fresh (Nat.le_of_lt hlt), fun p hp => ?_, ?_⟩
  · rcases List.mem_cons.mp hp with rfl | hp
    · exact ⟨kkp F1.keeps _ _ ho, Heap.get?_none_of_le F.fresh, Nat.ne_of_lt hlt⟩
    · exact ⟨kkp F1.keeps _ _ (F.own p hp).1, (F.own p hp).2.1, Nat.ne_of_lt (Nat.lt_of_lt_of_le (F.lt hp) F1.fresh)⟩
  · rw [List.map_cons, List.nodup_cons]
    refine ⟨fun hm => ?_, F.nd⟩
    obtain ⟨p, hp, e⟩ := List.mem_map.mp hm
    exact (F.own p hp).2.2 e
theorem ns_data {h h' : Heap} {o o' : Obj} (hn : h.Ns Ll ml) (e : h.get? Ll = some o) (e' : h'.get? Ll = some o') (hd : o'.data = o.data) (hc : o'.cls = o.cls → True) : ∃ x es ep, h'.get? Ll = some x ∧ x.data = .dict es ep := by
  obtain ⟨x, es, ep, h1, h2, _⟩ := hn
  rw [e] at h1; cases h1
  exact ⟨o', es, ep, e', hd.trans h2⟩
theorem Fm.unnest (F : Fm s₀ Ll ml osl s) (ho : s.heap.get? Ll = some ol) {ol' : Obj} (hd : ol'.data = ol.data) {x : List (Addr × Obj)} (F1 : Fm s₀ L m ((Ll, ol') :: (x ++ osl)) s₁) : Fm s₀ Ll ml (x ++ osl) s₁ := by
  have hnd := F1.nd
  rw [List.map_cons, List.nodup_cons] at hnd
  refine ⟨F1.keeps, ?_, F.fresh, fun p hp => ?_, hnd.2⟩
  · obtain ⟨o, es, ep, h1, h2, h3⟩ := F.ns
    rw [ho] at h1; cases h1
    exact ⟨ol', es, ep, F1.hd, hd.trans h2, h3⟩
  · have := F1.own p (List.mem_cons_of_mem _ hp)
    exact ⟨this.1, this.2.1, fun e => hnd.1 (e ▸ List.mem_map.mpr ⟨p, hp, rfl⟩)⟩
theorem lExtend {l b : Addr} {vs ws : List Value} {n n2 : Nat} {Q : Value → Shared → Prop} (hz : vs.length + ws.length ≤ 100000) (F : Fm s₀ L m ((l, listO vs n) :: os) s) (hb : s.heap.get? b = some (listO ws n2)) (h : ∀ n' s', Fm s₀ L m ((l, listO (vs ++ ws) n') :: os) s' → Q .none s') :
    wpAny (model prog w) A (call (.builtin "list.extend") [.ref l, .ref b]) Q E s := by
  have hsz' : vs.toArray.size + ws.toArray.size ≤ sizeLine := by rw [List.size_toArray, List.size_toArray, sizeLine_eq]; omega
  refine call_meets PySem.F.slot_list_extend (isList_of F.hd).typeIs PySem.F.entry_list_extend (PySem.F.args_list_extend_2 _ _) (AutoSeq1.list_extend_list_list_0 l vs.toArray n b ws.toArray n2 (extend_door hsz') (Nat.le_trans (Nat.le_add_right _ _) hsz') (by omega)) ⟨F.hd, hb, ?_⟩
  have e : vs.toArray ++ ws.toArray = (vs ++ ws).toArray := by simp
  have ho' : (s.heap.update l (Obj.mapSeq fun x => x ++ ws.toArray)).get? l = some (listO (vs ++ ws) (if (vs.toArray ++ ws.toArray).size == vs.toArray.size then n else n + 1)) := by
    rw [Heap.get?_update_self _ F.hd (by rw [mapSeq_app]; rfl), mapSeq_app, e]
  exact h _ _ (F.upd (tk := s.toks) ho' (Heap.SameBut.update ..))
/-- xs[i:] -/
theorem lFrom {value lo : PySem.Expr} {p pos : Pos} {Q : Value → Shared → Prop}
    (h : wpAny (model prog w) A (eval value env) (fun o s₁ => wpAny (model prog w) A (eval lo env) (fun vl s₂ => ∃ l, ∃ vs : List Value, ∃ k t s₀ L m os, o = .ref l ∧ s₂.heap.IsList l vs.toArray ∧ vl = .int ((k : Nat) : Int) t ∧ k ≤ vs.length ∧ vs.length ≤ 100000 ∧ Fm s₀ L m os s₂ ∧
      ∀ l' s', Fm s₀ L m ((l', listO (vs.drop k)) :: os) s' → Q (.ref l') s') E s₁) E s)
    (ht : ∀ o r, letTemporaryGo value o r = pure () := by intro _ _; with_unfolding_all rfl) :
    wpAny (model prog w) A (eval (.Subscript value (.Slice (some lo) none none p) pos) env) Q E s := by
  refine wpAny_Subscript_list_slice (wpAny_mono h (fun o s₁ h₁ => wpAny_mono h₁ (fun vl s₂ h₂ => evalPart_none_step ?_) fun _ _ e => e) fun _ _ e => e) ht
  obtain ⟨l, vs, k, t, s₀, L, m, os, rfl, hl, rfl, hk, hz, F, hQ⟩ := h₂
  refine ⟨l, vs.toArray, some (k : Int), none, rfl, hl, by rw [List.size_toArray, sizeLine_eq]; omega, .int _ _, .none, ?_⟩
  rw [slicePick_from _ _ (by rw [List.size_toArray]; exact hk)]
  have F2 := (F.push { cls := .type "slice", data := .fields #[.int ((k : Nat) : Int) t, .none, .none] }).drop1.push (listO (vs.drop k))
  have := hQ _ _ F2
  rw [show ({ s₂ with heap := s₂.heap.push { cls := .type "slice", data := .fields #[.int ((k : Nat) : Int) t, .none, .none] } } : Shared).heap.objs.size = s₂.heap.objs.size + 1 from Heap.size_push ..] at this
  exact this
/-- x = y = value -/
theorem asg2 {x y : Str} {px py pos : Pos} {value : PySem.Expr} {rest : List Stmt} {Q : Flow → Shared → Prop}
    (h : wpAny M A (eval value env) (fun v s₁ => wpAny M A (storeName env x v) (fun _ s₂ => wpAny M A (storeName env y v) (fun _ s₃ => wpAny M A (execs rest env) Q E s₃) E s₂) E s₁) E s)
    (he : (assignEach [.Name x px, .Name y py] env).map (·.2) = [assign (.Name x px) env, assign (.Name y py) env] := by with_unfolding_all rfl)
    (hw : swappedStores [.Name x px, .Name y py] value env = pure none := by with_unfolding_all rfl) : wpAny M A (execs (.Assign [.Name x px, .Name y py] value pos :: rest) env) Q E s :=
  wpAny_execs_cons (wpAny_Assign_two (wpAny_mono h (fun v s₁ h₁ => wpAny_assign_Name (wpAny_mono h₁ (fun _ s₂ h₂ => wpAny_assign_Name h₂) fun _ _ e => e)) fun _ _ e => e) he hw)
theorem tryS {body orelse rest : List Stmt} {h₀ : ExceptHandler} {pos : Pos} {Q : Flow → Shared → Prop} (P : Value → Shared → Prop)
    (hP : ∀ x s₁, P x s₁ → wpAny (model prog w) A (noteFrame x env) (fun _ s₂ => wpAny (model prog w) A (setFlight x none) (fun _ s₃ => wpAny (model prog w) A (handleBy x env [h₀]) (fun f s' => match f with | .next => wpAny (model prog w) A (execs rest env) Q E s' | f => Q f s') E s₃) E s₂) E s₁)
    (h : wpAny (model prog w) A (execs body env) (fun f s₁ => match f with | .next => wpAny (model prog w) A (execs orelse env) (fun f s' => match f with | .next => wpAny (model prog w) A (execs rest env) Q E s' | f => Q f s') E s₁ | f => Q f s₁) P s) :
    wpAny (model prog w) A (execs (.Try body [h₀] orelse [] pos :: rest) env) Q E s := by
  refine wpAny_execs_cons (wpAny_Try_except (wpAny_mono h (fun f s₁ h₁ => ?_) fun x s₁ h₁ => hP x s₁ h₁))
  cases f <;> exact h₁
theorem subOut {value slice : PySem.Expr} {l : Addr} {items : Array Value} {k : Int} {t : Tok} {Q : Value → Shared → Prop} (hA : A.handled = none) (hl : s.heap.IsList l items) (hout : (items.size : Int) ≤ k) (hhi : k < 2 ^ 63) (F : Fm s₀ L m os s)
    (hE : ∀ e oe s', ExO oe .none .none → Fm s₀ L m ((e, oe) :: os) s' → E (.ref e) s')
    (hs : subscripted slice false (.ref l) (.int k t) = operate [.ref l, .int k t] (getItem (.ref l) (.int k t)) := by with_unfolding_all rfl) :
    wpAny (model prog w) A (subscriptTail value slice (.ref l) (.int k t)) Q E s := tail_any hl.typeIs slot_list_getitem.lookup (outNone hA hl hout hhi F hE) hs
theorem subOut2 {value slice : PySem.Expr} {l : Addr} {items : Array Value} {k : Int} {t : Tok} {e1 : Addr} {oe1 : Obj} {a : Value} {Q : Value → Shared → Prop} (hA : A.handled = some (.ref e1)) (h1 : ExO oe1 a .none) (hl : s.heap.IsList l items) (hout : (items.size : Int) ≤ k) (hhi : k < 2 ^ 63) (F : Fm s₀ L m ((e1, oe1) :: os) s)
    (hE : ∀ e oe s', ExO oe .none (.ref e1) → Fm s₀ L m ((e, oe) :: (e1, oe1) :: os) s' → E (.ref e) s')
    (hs : subscripted slice false (.ref l) (.int k t) = operate [.ref l, .int k t] (getItem (.ref l) (.int k t)) := by with_unfolding_all rfl) :
    wpAny (model prog w) A (subscriptTail value slice (.ref l) (.int k t)) Q E s := tail_any hl.typeIs slot_list_getitem.lookup (out2 hA h1 F hl hout hhi hE) hs

def Flies (s₀ : Shared) (L : Addr) (m : Str → Option Value) (Ll : Addr) (D : Data) (os : List (Addr × Obj)) (e : Addr) (s : Shared) : Prop :=
  (∃ b, Held s₀ L m Ll D os e b s) ∨ ∃ oe ol b, ExO oe .none b ∧ ol.data = D ∧ Fm s₀ L m ((e, oe) :: (Ll, ol) :: os) s
theorem caughtF {D : Data} {e : Addr} {t : PySem.Expr} {b₀ : Stmt} {suite : List Stmt} {pos : Pos} {Q : Flow → Shared → Prop} {EE : Value → Shared → Prop} (hfr : A.frames = some [env, envl]) (hf : env.frame = some L) (hfl : envl.frame = some Ll) (hk : env.scope.kind ≠ .module) (hkl : envl.scope.kind ≠ .module) (hDn : ∀ vs, D ≠ .fields vs)
    (H : Flies s₀ L m Ll D os e s)
    (ht : ∀ s' ol', ol'.data = D → Fm s₀ L m ((Ll, ol') :: os) s' → ∀ Q : Value → Shared → Prop, ∀ E', Q (.type "IndexError") s' → wpAny (model prog w) (A.mark (some (.ref e))) (eval t env) Q E' s')
    (h : ∀ ol' s', ol'.data = D → Fm s₀ L m ((Ll, ol') :: os) s' → ∀ E', wpAny (model prog w) (A.mark (some (.ref e))) (execs (b₀ :: suite) env) Q E' s') :
    wpAny (model prog w) A (noteFrame (.ref e) env) (fun _ s₂ => wpAny (model prog w) A (setFlight (.ref e) none) (fun _ s₃ => wpAny (model prog w) A (handleBy (.ref e) env [.ExceptHandler (some t) none (b₀ :: suite) pos]) Q E s₃) E s₂) EE s := by
  rcases H with ⟨b, H⟩ | ⟨oe, ol, b, he, hD, F⟩
  · exact caught hf H ht h
  · refine nfFirst hfr hf hfl hk hkl (fun vs q => hDn vs (hD ▸ q)) F he fun oe' T oT ol' s' h1 h2 h3 F' => ?_
    have := caught (EE := fun _ _ => True) (t := t) (b₀ := b₀) (suite := suite) (pos := pos) (Q := Q) (E := E) hf ⟨oe', T, oT, ol', h1, h2, h3.trans hD, F'⟩ ht h
    refine setFl F' h1 h2 fun oT' s₁ hT' F₁ => ?_
    refine wpAny_handleBy_builtin (X := "IndexError") (T := "IndexError") (b := true) (by rw [isSubtype_type]; kernel_rfl) (by rw [isSubtype_type]; kernel_rfl) (by rw [isSubtype_type]; kernel_rfl) ?_
    refine ht _ ol' (h3.trans hD) F₁.drop1.drop1 _ _ ⟨rfl, ⟨oe', F₁.hd, h1.1⟩, ?_⟩
    rw [if_pos rfl]
    refine setFl F₁ h1 hT' fun oT'' s₂ hT'' F₂ => ?_
    exact h ol' s₂ (h3.trans hD) F₂.drop1.drop1 _
theorem Fm.rot4 {a b c d : Addr × Obj} (F : Fm s₀ L m (a :: b :: c :: d :: os) s) : Fm s₀ L m (d :: a :: b :: c :: os) s :=
  F.perm ((List.Perm.swap a d (b :: c :: os)).trans (List.Perm.cons a ((List.Perm.swap b d (c :: os)).trans (List.Perm.cons b (List.Perm.swap c d os)))))
end
end
end Mine
set_option maxHeartbeats 1000000
set_option linter.unusedVariables false
namespace Mine
noncomputable section
abbrev Txs := List (List Nat)
/-- what sorted_list_difference tells -/
inductive Dif : Txs → Txs → Txs → Txs → Prop
  | l {ys} : Dif [] ys [] ys
  | r {xs} : Dif xs [] xs []
  | lt {x y xs ys M U} : x < y → Dif xs (y :: ys) M U → Dif (x :: xs) (y :: ys) (x :: M) U
  | gt {x y xs ys M U} : y < x → Dif (x :: xs) ys M U → Dif (x :: xs) (y :: ys) M (y :: U)
  | eq {x xs ys M U} : Dif xs ys M U → Dif (x :: xs) (x :: ys) M U
theorem lt_irr {x : List Nat} (h : x < x) : False := List.lt_irrefl x h
theorem lt_asm {x y : List Nat} (h : x < y) (h' : y < x) : False := lt_irr (List.lt_trans h h')
theorem Dif.nil_l {ys M U : Txs} (h : Dif [] ys M U) : M = [] ∧ U = ys := by
  cases h <;> exact ⟨rfl, rfl⟩
theorem Dif.nil_r {xs M U : Txs} (h : Dif xs [] M U) : M = xs ∧ U = [] := by
  cases h <;> exact ⟨rfl, rfl⟩
theorem Dif.isLt {x y : List Nat} {xs ys M U : Txs} (h : Dif (x :: xs) (y :: ys) M U) (hl : x < y) : ∃ M', M = x :: M' ∧ Dif xs (y :: ys) M' U := by
  cases h with
  | lt _ d => exact ⟨_, rfl, d⟩
  | gt hg _ => exact (lt_asm hl hg).elim
  | eq _ => exact (lt_irr hl).elim
theorem Dif.isGt {x y : List Nat} {xs ys M U : Txs} (h : Dif (x :: xs) (y :: ys) M U) (hl : y < x) : ∃ U', U = y :: U' ∧ Dif (x :: xs) ys M U' := by
  cases h with
  | lt hg _ => exact (lt_asm hl hg).elim
  | gt _ d => exact ⟨_, rfl, d⟩
  | eq _ => exact (lt_irr hl).elim
theorem Dif.isEq {x : List Nat} {xs ys M U : Txs} (h : Dif (x :: xs) (x :: ys) M U) : Dif xs ys M U := by
  cases h with
  | lt hg _ => exact (lt_irr hg).elim
  | gt hg _ => exact (lt_irr hg).elim
  | eq d => exact d
theorem Dif.done {xs ys M U : Txs} (h : Dif xs ys M U) (he : xs = [] ∨ ys = []) : M = xs ∧ U = ys := by
  rcases he with rfl | rfl
  · exact h.nil_l
  · exact h.nil_r
theorem lt_or {x y : List Nat} (h1 : ¬ x < y) (h2 : ¬ y < x) : x = y := List.le_antisymm (List.not_lt.mp h2) (List.not_lt.mp h1)
theorem drop_cons {xs r : Txs} {x : List Nat} {i : Nat} (h : xs.drop i = x :: r) : xs[i]? = some x ∧ xs.drop (i + 1) = r ∧ i < xs.length := by
  have hlt : i < xs.length := by
    by_cases hh : i < xs.length
    · exact hh
    · rw [List.drop_of_length_le (by omega)] at h; cases h
  rw [List.drop_eq_getElem_cons hlt] at h
  cases h
  exact ⟨List.getElem?_eq_getElem hlt, rfl, hlt⟩
theorem next_ne {xs r : Txs} {x y : List Nat} {i : Nat} (hp : xs.Pairwise (· < ·)) (h : xs.drop i = x :: y :: r) : y ≠ x := by
  have h2 : (xs.drop i).Pairwise (· < ·) := hp.sublist (List.drop_sublist _ _)
  rw [h, List.pairwise_cons] at h2
  intro e
  exact lt_irr (e ▸ h2.1 y (List.mem_cons_self ..))
theorem txAt {vs : List Value} {ls : Txs} (h : TextsAre vs ls) {k : Nat} {l : List Nat} (hl : ls[k]? = some l) : ∃ t, vs[k]? = some (.str (S l) t) := by
  have hk : k < vs.length := by rw [h.length, List.length_map]; exact (List.getElem?_eq_some_iff.mp hl).1
  obtain ⟨l', t, h1, h2⟩ := strsAt h (List.getElem?_eq_getElem hk)
  rw [hl] at h1; cases h1
  exact ⟨t, by rw [List.getElem?_eq_getElem hk, h2]⟩
theorem texts_append {vs ws : List Value} {a b : Txs} (h : TextsAre vs a) (h' : TextsAre ws b) : TextsAre (vs ++ ws) (a ++ b) := by
  unfold TextsAre
  rw [List.map_append]
  exact h.append' h'
theorem texts_drop : ∀ {vs : List Value} {a : List Str}, StrsAre vs a → ∀ k, StrsAre (vs.drop k) (a.drop k)
  | _, _, h, 0 => h
  | _, _, .nil, _ + 1 => .nil
  | _, _, .cons _ _ h, k + 1 => texts_drop h k
theorem texts_drop' {vs : List Value} {a : Txs} (h : TextsAre vs a) (k : Nat) : TextsAre (vs.drop k) (a.drop k) := by
  have := texts_drop h k
  rw [← List.map_drop] at this
  exact this
structure Nms (m : Str → Option Value) (l1 l2 lm lu : Addr) (i j : Nat) : Prop where
  ex : m "expected" = some (.ref l1)
  ac : m "actual" = some (.ref l2)
  mi : m "missing" = some (.ref lm)
  un : m "unexpected" = some (.ref lu)
  i : ∃ t, m "i" = some (.int (i : Nat) t)
  j : ∃ t, m "j" = some (.int (j : Nat) t)
def SldP (s₀ : Shared) (L Ll : Addr) (D : Data) (osl : List (Addr × Obj)) (l1 l2 lm lu : Addr) (xs ys M U : Txs) (x : Value) (s : Shared) : Prop :=
  ∃ e m i j vm nm vu nu miss unexp, x = .ref e ∧ Flies s₀ L m Ll D ((lm, listO vm nm) :: (lu, listO vu nu) :: osl) e s ∧ Nms m l1 l2 lm lu i j ∧ TextsAre vm miss ∧ TextsAre vu unexp ∧ i ≤ xs.length ∧ j ≤ ys.length ∧ miss ++ xs.drop i = M ∧ unexp ++ ys.drop j = U
def SldI (s₀ : Shared) (L Ll : Addr) (D : Data) (osl : List (Addr × Obj)) (l1 l2 lm lu : Addr) (xs ys M U : Txs) (n : Nat) (s : Shared) : Prop :=
  ∃ m ol vm nm vu nu miss unexp i j M' U', n = (xs.length - i) + (ys.length - j) ∧ ol.data = D ∧ Fm s₀ L m ((Ll, ol) :: (lm, listO vm nm) :: (lu, listO vu nu) :: osl) s ∧ Nms m l1 l2 lm lu i j ∧ TextsAre vm miss ∧ TextsAre vu unexp ∧ i ≤ xs.length ∧ j ≤ ys.length ∧
    Dif (xs.drop i) (ys.drop j) M' U' ∧ miss ++ M' = M ∧ unexp ++ U' = U
variable {w : World} {A : Around} {s : Shared} {Q E : Value → Shared → Prop}
theorem kindNe : ScopeKind.function ≠ ScopeKind.module := by decide
theorem sld_spec {s₀ : Shared} {l1 l2 Ll : Addr} {vs1 vs2 : List Value} {n1 n2 : Nat} {xs ys M U : Txs} {ml : Str → Option Value} {osl : List (Addr × Obj)} {envl : Env}
    (F0 : Fm s₀ Ll ml osl s) (g : Gw w s₀.heap) (h1 : (l1, listO vs1 n1) ∈ osl) (h2 : (l2, listO vs2 n2) ∈ osl) (hi1 : TextsAre vs1 xs) (hi2 : TextsAre vs2 ys) (hx : xs.Pairwise (· < ·)) (hy : ys.Pairwise (· < ·)) (hz1 : xs.length ≤ 1000) (hz2 : ys.length ≤ 1000) (hdif : Dif xs ys M U) (hMl : M.length ≤ 1000) (hUl : U.length ≤ 1000)
    (hr : A.depth < recursionLimit) (hh : A.handled = none) (hfr : A.frames = some [envl]) (hfl : envl.frame = some Ll) (hkl : envl.scope.kind ≠ .module)
    (h : ∀ T lm lu vm nm vu nu s', TextsAre vm M → TextsAre vu U → Fm s₀ Ll ml ([(T, tupO [.ref lm, .ref lu]), (lm, listO vm nm), (lu, listO vu nu)] ++ osl) s' → Q (.ref T) s') :
    wpAny (model pr w) A (call (.ref 65) [.ref l1, .ref l2]) Q E s := by
  have hv1 : vs1.length = xs.length := by rw [hi1.length, List.length_map]
  have hv2 : vs2.length = ys.length := by rw [hi2.length, List.length_map]
  obtain ⟨ol0, es0, ep0, ho0, hD0, hrest0⟩ := id F0.ns
  with_reducible refine callDef (F0.gw g) (by with_unfolding_all rfl) (by with_unfolding_all rfl) (by with_unfolding_all rfl) (by with_unfolding_all rfl) hr (BindsTo.of_eq (binds := [(Str.ofString "expected", .ref l1), (Str.ofString "actual", .ref l2)]) (by with_unfolding_all rfl)) (by decide) (locs (by with_unfolding_all rfl)) ?_
  intro A s₁ hA hA1 hA2 hA3 hT F1
  have hh := hA1.trans hh
  have hfr := (congrArg Around.frames hA).trans (Around.frames_deeper hfr)
  have F := F0.nest F1 ho0
  with_reducible refine asg2 ?_
  with_reducible refine cI F ?_
  intro _ s₁ F
  with_reducible refine stL F ?_
  intro s₁ F
  with_reducible refine stL F ?_
  intro s₁ F
  with_reducible refine asgN ?_
  with_reducible refine mkNil F ?_
  intro lm s₁ F
  with_reducible refine stL F ?_
  intro s₁ F
  with_reducible refine asgN ?_
  with_reducible refine mkNil F ?_
  intro lu s₁ F
  with_reducible refine stL F ?_
  intro s₁ F
  have F := (F.rot3).swap.rot3.unrot3
  have hDn : ∀ vs, Data.dict es0 ep0 ≠ .fields vs := fun vs q => by cases q
  with_reducible refine whileS (SldI s₀ s.heap.objs.size Ll (.dict es0 ep0) osl l1 l2 lm lu xs ys M U) (xs.length + ys.length) ?_ ?_
  · exact ⟨_, ol0, [], 0, [], 0, [], [], 0, 0, M, U, rfl, hD0, (F.perm (by first | exact List.Perm.refl _ | exact List.Perm.swap _ _ _ | exact List.Perm.cons _ (List.Perm.swap _ _ _) | (refine (List.Perm.swap _ _ _).trans (List.Perm.cons _ (List.Perm.swap _ _ _))) | (refine (List.Perm.cons _ (List.Perm.swap _ _ _)).trans (List.Perm.swap _ _ _)))), ⟨(by with_unfolding_all rfl), (by with_unfolding_all rfl), (by with_unfolding_all rfl), (by with_unfolding_all rfl), ⟨_, (by with_unfolding_all rfl)⟩, ⟨_, (by with_unfolding_all rfl)⟩⟩, .nil, .nil, Nat.zero_le _, Nat.zero_le _, hdif, rfl, rfl⟩
  clear F F1
  rintro n s₁ ⟨m, ol, vm, nm, vu, nu, miss, unexp, i, j, M', U', rfl, hD, F, N, hvm, hvu, hil, hjl, hd, hM, hU⟩
  obtain ⟨ti, hi⟩ := N.i
  obtain ⟨tj, hj⟩ := N.j
  have hex := N.ex
  have hac := N.ac
  have hmi := N.mi
  have hun := N.un
  have hol : NoF ol := fun vs q => by rw [hD] at q; cases q
  have hvml : vm.length ≤ 1000 := by
    rw [hvm.length, List.length_map]
    have := congrArg List.length hM
    rw [List.length_append] at this
    omega
  have hvul : vu.length ≤ 1000 := by
    rw [hvu.length, List.length_map]
    have := congrArg List.length hU
    rw [List.length_append] at this
    omega
  with_reducible refine wpAny_isTrue_value ?_ (by with_unfolding_all rfl)
  with_reducible refine wpAny_Constant_bool ?_
  with_reducible refine trB ?_
  rw [if_pos rfl]
  with_reducible refine tryS (SldP s₀ s.heap.objs.size Ll (.dict es0 ep0) osl l1 l2 lm lu xs ys M U) ?_ ?_
  · clear F N hi hj hex hac hmi hun hvm hvu hil hjl hd hM hU hol hD hvml hvul
    rintro x s₁ ⟨e, m, i, j, vm, nm, vu, nu, miss, unexp, rfl, H, N, hvm, hvu, hil, hjl, hM, hU⟩
    obtain ⟨ti, hi⟩ := N.i
    obtain ⟨tj, hj⟩ := N.j
    have hex := N.ex
    have hac := N.ac
    have hmi := N.mi
    have hun := N.un
    with_reducible refine caughtF hfr (by with_unfolding_all rfl) hfl (by with_unfolding_all exact kindNe) hkl hDn H ?_ ?_
    · intro s' ol' hD' F' QQ E' hq
      with_reducible refine nmB (F'.gw g) (by with_unfolding_all rfl) (by decide +kernel) hq
    · intro ol s₁ hD F E'
      with_reducible refine exprS ?_
      with_reducible refine meth1 ?_
      with_reducible refine nmL F (by with_unfolding_all exact hmi) ?_
      with_reducible refine mL1 F.hd2 PySem.F.slot_list_extend PySem.F.type_list_extend ?_
      with_reducible refine lFrom ?_
      with_reducible refine nmL F (by with_unfolding_all exact hex) ?_
      with_reducible refine nmL F (by with_unfolding_all exact hi) ?_
      refine ⟨l1, vs1, i, _, _, _, _, _, rfl, isList_of (F.get (by repeat (first | exact h1 | apply List.mem_cons_of_mem))), rfl, by omega, by omega, F, ?_⟩
      intro l' s₁ F
      have hl' := F.hd
      with_reducible refine lExtend ?_ F.rot3 hl' ?_
      · rw [hvm.length, List.length_drop, List.length_map]
        have := congrArg List.length hM
        rw [List.length_append] at this
        omega
      intro n' s₁ F
      have F := F.swap.drop1
      dsimp only
      with_reducible refine exprS ?_
      with_reducible refine meth1 ?_
      with_reducible refine nmL F (by with_unfolding_all exact hun) ?_
      with_reducible refine mL1 F.rot3.hd PySem.F.slot_list_extend PySem.F.type_list_extend ?_
      with_reducible refine lFrom ?_
      with_reducible refine nmL F (by with_unfolding_all exact hac) ?_
      with_reducible refine nmL F (by with_unfolding_all exact hj) ?_
      refine ⟨l2, vs2, j, _, _, _, _, _, rfl, isList_of (F.get (by repeat (first | exact h2 | apply List.mem_cons_of_mem))), rfl, by omega, by omega, F, ?_⟩
      intro l'' s₁ F
      have hl' := F.hd
      with_reducible refine lExtend ?_ F.rot4 hl' ?_
      · rw [hvu.length, List.length_drop, List.length_map]
        have := congrArg List.length hU
        rw [List.length_append] at this
        omega
      intro n'' s₁ F
      have F := F.swap.drop1
      dsimp only
      with_reducible refine brkS ?_
      dsimp only
      with_reducible refine retS ?_
      with_reducible refine tup2 ?_
      with_reducible refine nmL F (by with_unfolding_all exact hmi) ?_
      with_reducible refine nmL F (by with_unfolding_all exact hun) ?_
      refine ⟨_, _, _, _, F, ?_⟩
      intro T s₁ F
      exact h T lm lu _ _ _ _ s₁ (hM ▸ texts_append hvm (texts_drop' hi1 i)) (hU ▸ texts_append hvu (texts_drop' hi2 j)) (F0.unnest ho0 (hD.trans hD0.symm) (x := [(T, _), (lm, _), (lu, _)]) (F.rot4.perm (List.Perm.cons _ (List.Perm.cons _ (List.Perm.swap _ _ _)))))
  with_reducible refine asgN ?_
  with_reducible refine Subscript_ ?_
  with_reducible refine nmL F (by with_unfolding_all exact hex) ?_
  with_reducible refine nmL F (by with_unfolding_all exact hi) ?_
  cases hdx : xs.drop i with
  | nil =>
    have hxi : xs.length ≤ i := List.drop_eq_nil_iff.mp hdx
    obtain ⟨e1, e2⟩ := hd.done (.inl hdx)
    with_reducible refine subOut hh (isList_of (F.get (by repeat (first | exact h1 | apply List.mem_cons_of_mem)))) (by rw [List.size_toArray, hv1]; omega) (by omega) F ?_
    intro e oe s' hxo F'
    exact ⟨e, m, i, j, vm, nm, vu, nu, miss, unexp, rfl, .inr ⟨oe, ol, _, hxo, hD, F'⟩, N, hvm, hvu, hil, hjl, e1 ▸ hM, e2 ▸ hU⟩
  | cons x xr =>
    obtain ⟨hxi, hxr, hilt⟩ := drop_cons hdx
    obtain ⟨tx, hvx⟩ := txAt hi1 hxi
    with_reducible refine subL (isList_of (F.get (by repeat (first | exact h1 | apply List.mem_cons_of_mem)))) (by omega) (by omega) hvx ?_
    with_reducible refine stL F ?_
    intro s₁ F
    with_reducible refine asgN ?_
    with_reducible refine Subscript_ ?_
    with_reducible refine nmL F (by with_unfolding_all exact hac) ?_
    with_reducible refine nmL F (by with_unfolding_all exact hj) ?_
    cases hdy : ys.drop j with
    | nil =>
      have hyj : ys.length ≤ j := List.drop_eq_nil_iff.mp hdy
      obtain ⟨e1, e2⟩ := hd.done (.inr hdy)
      with_reducible refine subOut hh (isList_of (F.get (by repeat (first | exact h2 | apply List.mem_cons_of_mem)))) (by rw [List.size_toArray, hv2]; omega) (by omega) F ?_
      intro e oe s' hxo F'
      exact ⟨e, _, i, j, vm, nm, vu, nu, miss, unexp, rfl, .inr ⟨oe, ol, _, hxo, hD, F'⟩, ⟨(by with_unfolding_all exact hex), (by with_unfolding_all exact hac), (by with_unfolding_all exact hmi), (by with_unfolding_all exact hun), ⟨_, (by with_unfolding_all exact hi)⟩, ⟨_, (by with_unfolding_all exact hj)⟩⟩, hvm, hvu, hil, hjl, e1 ▸ hM, e2 ▸ hU⟩
    | cons y yr =>
      obtain ⟨hyj, hyr, hjlt⟩ := drop_cons hdy
      obtain ⟨ty, hvy⟩ := txAt hi2 hyj
      with_reducible refine subL (isList_of (F.get (by repeat (first | exact h2 | apply List.mem_cons_of_mem)))) (by omega) (by omega) hvy ?_
      with_reducible refine stL F ?_
      intro s₁ F
      with_reducible refine ifS ?_
      with_reducible refine isTrueC ?_
      with_reducible refine nmL F (by with_unfolding_all rfl) ?_
      with_reducible refine nmL F (by with_unfolding_all rfl) ?_
      with_reducible refine sLt ?_
      with_reducible refine trB ?_
      rw [hdx, hdy] at hd
      by_cases hlt : x < y
      · rw [if_pos (by simpa using hlt)]
        obtain ⟨M2, rfl, hd2⟩ := hd.isLt hlt
        with_reducible refine exprS ?_
        with_reducible refine meth1 ?_
        with_reducible refine nmL F (by with_unfolding_all exact hmi) ?_
        with_reducible refine mL1 F.hd2 PySem.F.slot_list_append PySem.F.type_list_append ?_
        with_reducible refine nmL F (by with_unfolding_all rfl) ?_
        with_reducible refine lAppend (by omega) F.swap ?_
        intro n' s₁ F
        have F := F.swap
        dsimp only
        with_reducible refine augN ?_
        with_reducible refine nmL' F (by with_unfolding_all exact hi) ?_
        with_reducible refine cI F ?_
        intro _ s₁ F
        with_reducible refine iIAdd F ?_
        intro _ s₁ F
        with_reducible refine stL F ?_
        intro s₁ F
        have hvm' := texts_snoc hvm (l := x) (t := tx)
        have hM' : (miss ++ [x]) ++ M2 = M := by rw [← hM]; simp
        with_reducible refine while0 ?_
        with_reducible refine isTrueC ?_
        with_reducible refine Subscript_ ?_
        with_reducible refine nmL F (by with_unfolding_all exact hex) ?_
        with_reducible refine nmL F (by with_unfolding_all rfl) ?_
        cases hdx2 : xs.drop (i + 1) with
        | nil =>
          rw [← hxr, hdx2, ← hdy] at hd2
          obtain ⟨e1, e2⟩ := hd2.done (.inl rfl)
          have hxi : xs.length ≤ i + 1 := List.drop_eq_nil_iff.mp hdx2
          with_reducible refine subOut hh (isList_of (F.get (by repeat (first | exact h1 | apply List.mem_cons_of_mem)))) (by rw [List.size_toArray, hv1]; omega) (by omega) F ?_
          intro e oe s' hxo F'
          refine notedFirst hfr (by with_unfolding_all rfl) hfl (by with_unfolding_all exact kindNe) hkl hol hD F' hxo fun s' H => ?_
          exact ⟨e, _, i + 1, j, _, _, vu, nu, _, unexp, rfl, .inl ⟨_, H⟩, ⟨(by with_unfolding_all exact hex), (by with_unfolding_all exact hac), (by with_unfolding_all exact hmi), (by with_unfolding_all exact hun), ⟨_, (by with_unfolding_all rfl)⟩, ⟨_, (by with_unfolding_all exact hj)⟩⟩, hvm', hvu, hilt, hjl, (by rw [hdx2]; rw [e1] at hM'; exact hM'), e2 ▸ hU⟩
        | cons x2 xr2 =>
          obtain ⟨hxi2, hxr2, hilt2⟩ := drop_cons hdx2
          obtain ⟨tx2, hvx2⟩ := txAt hi1 hxi2
          have hne := next_ne hx (hdx.trans (by rw [← hxr, hdx2]))
          with_reducible refine subL (k := (i : Int) + 1) (isList_of (F.get (by repeat (first | exact h1 | apply List.mem_cons_of_mem)))) (by omega) (by omega) hvx2 ?_
          with_reducible refine nmL F (by with_unfolding_all rfl) ?_
          with_reducible refine sEq ?_
          with_reducible refine trB ?_
          refine ⟨by simpa using hne, ?_⟩
          with_reducible refine wpAny_execs_nil ?_
          dsimp only
          with_reducible refine wpAny_execs_nil ?_
          dsimp only
          with_reducible refine wpAny_execs_nil ?_
          dsimp only
          with_reducible refine wpAny_execs_nil ?_
          refine ⟨(xs.length - (i + 1)) + (ys.length - j), by omega, _, ol, _, _, vu, nu, _, unexp, i + 1, j, M2, U', rfl, hD, F, ⟨(by with_unfolding_all exact hex), (by with_unfolding_all exact hac), (by with_unfolding_all exact hmi), (by with_unfolding_all exact hun), ⟨_, (by with_unfolding_all rfl)⟩, ⟨_, (by with_unfolding_all exact hj)⟩⟩, hvm', hvu, hilt, hjl, ?_, hM', hU⟩
          rw [hxr, hdy]; exact hd2
      · rw [if_neg (by simpa using hlt)]
        with_reducible refine ifS ?_
        with_reducible refine isTrueC ?_
        with_reducible refine nmL F (by with_unfolding_all rfl) ?_
        with_reducible refine nmL F (by with_unfolding_all rfl) ?_
        with_reducible refine sGt ?_
        with_reducible refine trB ?_
        by_cases hgt : y < x
        · rw [if_pos (by simpa using hgt)]
          obtain ⟨U2, rfl, hd2⟩ := hd.isGt hgt
          with_reducible refine exprS ?_
          with_reducible refine meth1 ?_
          with_reducible refine nmL F (by with_unfolding_all exact hun) ?_
          with_reducible refine mL1 F.rot3.hd PySem.F.slot_list_append PySem.F.type_list_append ?_
          with_reducible refine nmL F (by with_unfolding_all rfl) ?_
          with_reducible refine lAppend (by omega) F.rot3 ?_
          intro n' s₁ F
          have F := F.unrot3
          dsimp only
          with_reducible refine augN ?_
          with_reducible refine nmL' F (by with_unfolding_all exact hj) ?_
          with_reducible refine cI F ?_
          intro _ s₁ F
          with_reducible refine iIAdd F ?_
          intro _ s₁ F
          with_reducible refine stL F ?_
          intro s₁ F
          have hvu' := texts_snoc hvu (l := y) (t := ty)
          have hU' : (unexp ++ [y]) ++ U2 = U := by rw [← hU]; simp
          with_reducible refine while0 ?_
          with_reducible refine isTrueC ?_
          with_reducible refine Subscript_ ?_
          with_reducible refine nmL F (by with_unfolding_all exact hac) ?_
          with_reducible refine nmL F (by with_unfolding_all rfl) ?_
          cases hdy2 : ys.drop (j + 1) with
          | nil =>
            rw [← hyr, hdy2, ← hdx] at hd2
            obtain ⟨e1, e2⟩ := hd2.done (.inr rfl)
            have hyj : ys.length ≤ j + 1 := List.drop_eq_nil_iff.mp hdy2
            with_reducible refine subOut hh (isList_of (F.get (by repeat (first | exact h2 | apply List.mem_cons_of_mem)))) (by rw [List.size_toArray, hv2]; omega) (by omega) F ?_
            intro e oe s' hxo F'
            refine notedFirst hfr (by with_unfolding_all rfl) hfl (by with_unfolding_all exact kindNe) hkl hol hD F' hxo fun s' H => ?_
            exact ⟨e, _, i, j + 1, vm, nm, _, _, miss, _, rfl, .inl ⟨_, H⟩, ⟨(by with_unfolding_all exact hex), (by with_unfolding_all exact hac), (by with_unfolding_all exact hmi), (by with_unfolding_all exact hun), ⟨_, (by with_unfolding_all exact hi)⟩, ⟨_, (by with_unfolding_all rfl)⟩⟩, hvm, hvu', hil, hjlt, e1 ▸ hM, (by rw [hdy2]; rw [e2] at hU'; exact hU')⟩
          | cons y2 yr2 =>
            obtain ⟨hyj2, hyr2, hjlt2⟩ := drop_cons hdy2
            obtain ⟨ty2, hvy2⟩ := txAt hi2 hyj2
            have hne := next_ne hy (hdy.trans (by rw [← hyr, hdy2]))
            with_reducible refine subL (k := (j : Int) + 1) (isList_of (F.get (by repeat (first | exact h2 | apply List.mem_cons_of_mem)))) (by omega) (by omega) hvy2 ?_
            with_reducible refine nmL F (by with_unfolding_all rfl) ?_
            with_reducible refine sEq ?_
            with_reducible refine trB ?_
            refine ⟨by simpa using hne, ?_⟩
            with_reducible refine wpAny_execs_nil ?_
            dsimp only
            with_reducible refine wpAny_execs_nil ?_
            dsimp only
            with_reducible refine wpAny_execs_nil ?_
            dsimp only
            with_reducible refine wpAny_execs_nil ?_
            dsimp only
            with_reducible refine wpAny_execs_nil ?_
            refine ⟨(xs.length - i) + (ys.length - (j + 1)), by omega, _, ol, vm, nm, _, _, miss, _, i, j + 1, M', U2, rfl, hD, F, ⟨(by with_unfolding_all exact hex), (by with_unfolding_all exact hac), (by with_unfolding_all exact hmi), (by with_unfolding_all exact hun), ⟨_, (by with_unfolding_all exact hi)⟩, ⟨_, (by with_unfolding_all rfl)⟩⟩, hvm, hvu', hil, hjlt, ?_, hM, hU'⟩
            rw [hyr, hdx]; exact hd2
        · rw [if_neg (by simpa using hgt)]
          obtain rfl := lt_or hlt hgt
          have hd2 := hd.isEq
          with_reducible refine augN ?_
          with_reducible refine nmL' F (by with_unfolding_all exact hi) ?_
          with_reducible refine cI F ?_
          intro _ s₁ F
          with_reducible refine iIAdd F ?_
          intro _ s₁ F
          with_reducible refine stL F ?_
          intro s₁ F
          with_reducible refine wpAny_execs_cons (wpAny_Try_finally ?_)
          with_reducible refine while0 ?_
          with_reducible refine isTrueC ?_
          with_reducible refine Subscript_ ?_
          with_reducible refine nmL F (by with_unfolding_all exact hex) ?_
          with_reducible refine nmL F (by with_unfolding_all rfl) ?_
          cases hdx2 : xs.drop (i + 1) with
          | nil =>
            have hxi : xs.length ≤ i + 1 := List.drop_eq_nil_iff.mp hdx2
            with_reducible refine subOut hh (isList_of (F.get (by repeat (first | exact h1 | apply List.mem_cons_of_mem)))) (by rw [List.size_toArray, hv1]; omega) (by omega) F ?_
            intro e oe s' hxo F'
            refine notedFirst hfr (by with_unfolding_all rfl) hfl (by with_unfolding_all exact kindNe) hkl hol hD F' hxo fun s' H => ?_
            clear F F' hxo hol hD
            obtain ⟨oe, T, oT, ol, he, hTb, hD, F⟩ := H
            have hol : NoF ol := fun vs q => by rw [hD] at q; cases q
            refine nfAgain (by with_unfolding_all rfl) F he hTb ⟨ref_ne_byPass _, ?_⟩
            refine nfAgain (by with_unfolding_all rfl) F he hTb ?_
            refine setFl F he hTb fun oT' s₁ hTb' F => ?_
            with_reducible refine augN ?_
            with_reducible refine nmL' F (by with_unfolding_all exact hj) ?_
            with_reducible refine cI F ?_
            intro _ s₁ F
            with_reducible refine iIAdd F ?_
            intro _ s₁ F
            with_reducible refine stL F ?_
            intro s₁ F
            with_reducible refine while0 ?_
            with_reducible refine isTrueC ?_
            with_reducible refine Subscript_ ?_
            with_reducible refine nmL F (by with_unfolding_all exact hac) ?_
            with_reducible refine nmL F (by with_unfolding_all rfl) ?_
            cases hdy2 : ys.drop (j + 1) with
            | nil =>
              have hyj : ys.length ≤ j + 1 := List.drop_eq_nil_iff.mp hdy2
              with_reducible refine subOut2 rfl he (isList_of (F.get (by repeat (first | exact h2 | apply List.mem_cons_of_mem)))) (by rw [List.size_toArray, hv2]; omega) (by omega) F ?_
              intro e2 oe2 s' hxo F'
              have F' := F'.sub (os' := (e2, oe2) :: (Ll, ol) :: (lm, listO vm nm) :: (lu, listO vu nu) :: osl) (List.Sublist.cons_cons _ (List.Sublist.cons _ (List.Sublist.cons _ (List.Sublist.refl _))))
              refine notedFirst hfr (by with_unfolding_all rfl) hfl (by with_unfolding_all exact kindNe) hkl hol hD F' hxo fun s' H => ?_
              refine notedAgain (by with_unfolding_all rfl) H fun s' H => ?_
              have hd2 := hd2.done (.inl (hxr.symm.trans hdx2))
              exact ⟨e2, _, i + 1, j + 1, vm, nm, vu, nu, miss, unexp, rfl, .inl ⟨_, H⟩, ⟨(by with_unfolding_all exact hex), (by with_unfolding_all exact hac), (by with_unfolding_all exact hmi), (by with_unfolding_all exact hun), ⟨_, (by with_unfolding_all rfl)⟩, ⟨_, (by with_unfolding_all rfl)⟩⟩, hvm, hvu, hilt, hjlt, (by rw [hxr, ← hd2.1]; exact hM), (by rw [hyr, ← hd2.2]; exact hU)⟩
            | cons y2 yr2 =>
              obtain ⟨hyj2, hyr2, hjlt2⟩ := drop_cons hdy2
              obtain ⟨ty2, hvy2⟩ := txAt hi2 hyj2
              have hne := next_ne hy (hdy.trans (by rw [← hyr, hdy2]))
              with_reducible refine subL (k := (j : Int) + 1) (isList_of (F.get (by repeat (first | exact h2 | apply List.mem_cons_of_mem)))) (by omega) (by omega) hvy2 ?_
              with_reducible refine nmL F (by with_unfolding_all rfl) ?_
              with_reducible refine sEq ?_
              with_reducible refine trB ?_
              refine ⟨by simpa using hne, ?_⟩
              with_reducible refine wpAny_execs_nil ?_
              dsimp only
              refine heldOn (by with_unfolding_all rfl) he hTb' hD F fun s' H => ?_
              have hd2 := hd2.done (.inl (hxr.symm.trans hdx2))
              exact ⟨e, _, i + 1, j + 1, vm, nm, vu, nu, miss, unexp, rfl, .inl ⟨_, H⟩, ⟨(by with_unfolding_all exact hex), (by with_unfolding_all exact hac), (by with_unfolding_all exact hmi), (by with_unfolding_all exact hun), ⟨_, (by with_unfolding_all rfl)⟩, ⟨_, (by with_unfolding_all rfl)⟩⟩, hvm, hvu, hilt, hjlt, (by rw [hxr, ← hd2.1]; exact hM), (by rw [hyr, ← hd2.2]; exact hU)⟩
          | cons x2 xr2 =>
            obtain ⟨hxi2, hxr2, hilt2⟩ := drop_cons hdx2
            obtain ⟨tx2, hvx2⟩ := txAt hi1 hxi2
            have hne := next_ne hx (hdx.trans (by rw [← hxr, hdx2]))
            with_reducible refine subL (k := (i : Int) + 1) (isList_of (F.get (by repeat (first | exact h1 | apply List.mem_cons_of_mem)))) (by omega) (by omega) hvx2 ?_
            with_reducible refine nmL F (by with_unfolding_all rfl) ?_
            with_reducible refine sEq ?_
            with_reducible refine trB ?_
            refine ⟨by simpa using hne, ?_⟩
            with_reducible refine wpAny_execs_nil ?_
            dsimp only
            with_reducible refine wpAny_execs_nil ?_
            dsimp only
            with_reducible refine augN ?_
            with_reducible refine nmL' F (by with_unfolding_all exact hj) ?_
            with_reducible refine cI F ?_
            intro _ s₁ F
            with_reducible refine iIAdd F ?_
            intro _ s₁ F
            with_reducible refine stL F ?_
            intro s₁ F
            with_reducible refine while0 ?_
            with_reducible refine isTrueC ?_
            with_reducible refine Subscript_ ?_
            with_reducible refine nmL F (by with_unfolding_all exact hac) ?_
            with_reducible refine nmL F (by with_unfolding_all rfl) ?_
            cases hdy2 : ys.drop (j + 1) with
            | nil =>
              have hyj : ys.length ≤ j + 1 := List.drop_eq_nil_iff.mp hdy2
              with_reducible refine subOut hh (isList_of (F.get (by repeat (first | exact h2 | apply List.mem_cons_of_mem)))) (by rw [List.size_toArray, hv2]; omega) (by omega) F ?_
              intro e oe s' hxo F'
              refine notedFirst hfr (by with_unfolding_all rfl) hfl (by with_unfolding_all exact kindNe) hkl hol hD F' hxo fun s' H => ?_
              refine notedAgain (by with_unfolding_all rfl) H fun s' H => ?_
              have hd2 := hd2.done (.inr (hyr.symm.trans hdy2))
              exact ⟨e, _, i + 1, j + 1, vm, nm, vu, nu, miss, unexp, rfl, .inl ⟨_, H⟩, ⟨(by with_unfolding_all exact hex), (by with_unfolding_all exact hac), (by with_unfolding_all exact hmi), (by with_unfolding_all exact hun), ⟨_, (by with_unfolding_all rfl)⟩, ⟨_, (by with_unfolding_all rfl)⟩⟩, hvm, hvu, hilt, hjlt, (by rw [hxr, ← hd2.1]; exact hM), (by rw [hyr, ← hd2.2]; exact hU)⟩
            | cons y2 yr2 =>
              obtain ⟨hyj2, hyr2, hjlt2⟩ := drop_cons hdy2
              obtain ⟨ty2, hvy2⟩ := txAt hi2 hyj2
              have hne := next_ne hy (hdy.trans (by rw [← hyr, hdy2]))
              with_reducible refine subL (k := (j : Int) + 1) (isList_of (F.get (by repeat (first | exact h2 | apply List.mem_cons_of_mem)))) (by omega) (by omega) hvy2 ?_
              with_reducible refine nmL F (by with_unfolding_all rfl) ?_
              with_reducible refine sEq ?_
              with_reducible refine trB ?_
              refine ⟨by simpa using hne, ?_⟩
              with_reducible refine wpAny_execs_nil ?_
              dsimp only
              with_reducible refine wpAny_execs_nil ?_
              dsimp only
              with_reducible refine wpAny_execs_nil ?_
              dsimp only
              with_reducible refine wpAny_execs_nil ?_
              dsimp only
              with_reducible refine wpAny_execs_nil ?_
              dsimp only
              with_reducible refine wpAny_execs_nil ?_
              refine ⟨(xs.length - (i + 1)) + (ys.length - (j + 1)), by omega, _, ol, vm, nm, vu, nu, miss, unexp, i + 1, j + 1, M', U', rfl, hD, F, ⟨(by with_unfolding_all exact hex), (by with_unfolding_all exact hac), (by with_unfolding_all exact hmi), (by with_unfolding_all exact hun), ⟨_, (by with_unfolding_all rfl)⟩, ⟨_, (by with_unfolding_all rfl)⟩⟩, hvm, hvu, hilt, hjlt, ?_, hM, hU⟩
              rw [hxr, hyr]; exact hd2
end
end Mine
set_option maxHeartbeats 400000
set_option linter.unusedVariables false
namespace Mine
noncomputable section
/-- lists, sign for sign -/
theorem lt_cons {a b : Nat} {x y : List Nat} : (a :: x) < (b :: y) ↔ a < b ∨ a = b ∧ x < y := List.cons_lt_cons_iff
theorem lt_pre {x y : List Nat} (h : x < y) : ∀ z : List Nat, z ++ x < z ++ y
  | [] => h
  | a :: z => lt_cons.mpr (.inr ⟨rfl, lt_pre h z⟩)
theorem lt_suf : ∀ {x y : List Nat}, x < y → x.length = y.length → ∀ u v : List Nat, x ++ u < y ++ v
  | [], [], h, _, u, v => (lt_irr h).elim
  | a :: x, b :: y, h, hl, u, v => by
    rcases lt_cons.mp h with h1 | ⟨rfl, h1⟩
    · exact lt_cons.mpr (.inl h1)
    · exact lt_cons.mpr (.inr ⟨rfl, lt_suf h1 (by simpa using hl) u v⟩)
theorem rowUp : ∀ k < 9, ∀ i < (rowTab.getD k []).length, ∀ j < i, (rowTab.getD k []).getD j 0 < (rowTab.getD k []).getD i 0 := by decide
theorem rowPos : ∀ k < 9, 0 < (rowTab.getD k []).length := by decide
theorem restGo_mono {p q : Nat} (h : p ≤ q) : ∀ k, restGo p k ≤ restGo q k
  | 0 => h
  | k + 1 => Nat.div_le_div_right (restGo_mono h k)
theorem signGo_lt {p q : Nat} (h : p < q) : ∀ k, k ≤ 9 → restGo p k = restGo q k → signGo p k < signGo q k
  | 0, _, e => absurd e (Nat.ne_of_lt h)
  | k + 1, hk, e => by
    have hk9 : k < 9 := by omega
    have hp := rowPos k hk9
    rw [signGo, signGo, lt_cons]
    rw [restGo, restGo] at e
    by_cases he : restGo p k = restGo q k
    · exact .inr ⟨by rw [he], signGo_lt h k (by omega) he⟩
    · left
      have hle := restGo_mono (Nat.le_of_lt h) k
      have h1 := Nat.mod_lt (restGo q k) hp
      refine rowUp k hk9 _ h1 _ ?_
      generalize (rowTab.getD k []).length = n at *
      have e1 := Nat.div_add_mod (restGo p k) n
      have e2 := Nat.div_add_mod (restGo q k) n
      rw [e] at e1
      omega
def kindHead : List Nat := [45, 61, 98, 99, 100, 108, 112, 115]
theorem rest9 {p : Nat} (hp : p < 32768) : restGo p 9 < 8 := by simp [restGo, rowTab]; omega
theorem kindUp : ∀ i < 8, ∀ j < i, kindHead.getD j 0 < kindHead.getD i 0 := by decide
theorem rowsNo63 : ∀ k < 9, ∀ i < (rowTab.getD k []).length, (rowTab.getD k []).getD i 0 ≠ 63 ∧ (rowTab.getD k []).getD i 0 ∈ alpha := by decide
theorem signGo_in (p : Nat) : ∀ k, k ≤ 9 → ∀ c ∈ signGo p k, c ≠ 63 ∧ c ∈ alpha
  | 0, _, c, h => by simp [signGo] at h
  | k + 1, hk, c, h => by
    rw [signGo] at h
    rcases List.mem_cons.mp h with rfl | h
    · exact rowsNo63 k (by omega) _ (Nat.mod_lt _ (rowPos k (by omega)))
    · exact signGo_in p k (by omega) c h
theorem kindIn : ∀ i < 8, kindSigns.getD i 0 ∈ alpha := by decide
theorem signsOf_in {p : Nat} (hp : p < 32768) : ∀ c ∈ signsOf p, c ∈ alpha := by
  intro c hc
  rw [signsOf] at hc
  rcases List.mem_cons.mp hc with rfl | hc
  · exact kindIn _ (rest9 hp)
  · exact (signGo_in p 9 (by omega) c hc).2
def tailOf (i : Nat) : List Nat := if i = 1 then [51, 70] else []
theorem hdrKind : ∀ i < 8, hdr (kindSigns.getD i 0) = kindHead.getD i 0 :: tailOf i := by decide
theorem coded_signs {p : Nat} (hp : p < 32768) : coded (signsOf p) = kindHead.getD (restGo p 9) 0 :: (tailOf (restGo p 9) ++ signGo p 9) := by
  rw [signsOf, coded_cons, hdrKind _ (rest9 hp)]
  unfold coded
  rw [ex_free 63 _ _ fun h => (signGo_in p 9 (by omega) 63 h).1 rfl]
  rfl
theorem word_lt {p q : Nat} (hq : q < 32768) (h : p < q) : wordOf p < wordOf q := by
  have hp : p < 32768 := by omega
  unfold wordOf
  rw [List.append_assoc, List.append_assoc]
  refine lt_pre ?_ _
  rw [coded_signs hp, coded_signs hq, List.cons_append, List.cons_append, lt_cons]
  have hm := restGo_mono (Nat.le_of_lt h) 9
  by_cases he : restGo p 9 = restGo q 9
  · refine .inr ⟨by rw [he], ?_⟩
    rw [he, List.append_assoc, List.append_assoc]
    exact lt_pre (lt_suf (signGo_lt h 9 (by omega) he) (by rw [signGo_length, signGo_length]) _ _) _
  · exact .inl (kindUp _ (rest9 hq) _ (by omega))
end
end Mine
set_option maxHeartbeats 400000
set_option linter.unusedVariables false
namespace Mine
noncomputable section
/-- each once, of a sorted row: strictly rising, the same members -/
theorem dd_facts {κ : Type} [DecidableEq κ] {le lt : κ → κ → Prop} (hlt : ∀ a b, le a b → a ≠ b → lt a b) (tr : ∀ a b c, lt a b → le b c → lt a c) :
    ∀ (xs k : List κ), k.Pairwise lt → (∀ a ∈ k, ∀ b ∈ xs, le a b) → xs.Pairwise le → (∀ z, k.getLast? = some z → ∀ a ∈ k, a = z ∨ lt a z) →
      (xs.foldl ddGo k).Pairwise lt ∧ ∀ y, y ∈ xs.foldl ddGo k ↔ y ∈ k ∨ y ∈ xs
  | [], k, hk, _, _, _ => ⟨hk, fun y => by simp⟩
  | x :: r, k, hk, hkx, hx, hz => by
    rw [List.pairwise_cons] at hx
    rw [List.foldl_cons]
    by_cases h : k.getLast? = some x
    · have e : ddGo k x = k := if_pos h
      rw [e]
      obtain ⟨h1, h2⟩ := dd_facts hlt tr r k hk (fun a ha b hb => hkx a ha b (List.mem_cons_of_mem _ hb)) hx.2 hz
      refine ⟨h1, fun y => ?_⟩
      rw [h2]
      have hxk : x ∈ k := List.mem_of_getLast? h
      constructor
      · rintro (h | h)
        · exact .inl h
        · exact .inr (List.mem_cons_of_mem _ h)
      · rintro (h | h)
        · exact .inl h
        · rcases List.mem_cons.mp h with rfl | h
          · exact .inl hxk
          · exact .inr h
    · have e : ddGo k x = k ++ [x] := if_neg h
      have hlast : ∀ a ∈ k, lt a x := by
        intro a ha
        cases hl : k.getLast? with
        | none => rw [List.getLast?_eq_none_iff] at hl; rw [hl] at ha; cases ha
        | some z =>
          have hzk : z ∈ k := List.mem_of_getLast? hl
          have hzx : lt z x := hlt z x (hkx z hzk x (List.mem_cons_self ..)) fun q => h (by rw [hl, q])
          rcases hz z hl a ha with rfl | hh
          · exact hzx
          · exact tr a z x hh (hkx z hzk x (List.mem_cons_self ..))
      rw [e]
      have g1 : (k ++ [x]).Pairwise lt := by
        rw [List.pairwise_append]
        refine ⟨hk, List.pairwise_singleton _ _, fun a ha b hb => ?_⟩
        rw [List.mem_singleton.mp hb]; exact hlast a ha
      have g2 : ∀ a ∈ k ++ [x], ∀ b ∈ r, le a b := by
        intro a ha b hb
        rcases List.mem_append.mp ha with ha | ha
        · exact hkx a ha b (List.mem_cons_of_mem _ hb)
        · rw [List.mem_singleton.mp ha]; exact hx.1 b hb
      have g3 : ∀ z, (k ++ [x]).getLast? = some z → ∀ a ∈ k ++ [x], a = z ∨ lt a z := by
        intro z hz' a ha
        rw [List.getLast?_append] at hz'
        have hz' : x = z := by simpa using hz'
        subst hz'
        rcases List.mem_append.mp ha with ha | ha
        · exact .inr (hlast a ha)
        · exact .inl (List.mem_singleton.mp ha)
      obtain ⟨h1, h2⟩ := dd_facts hlt tr r (k ++ [x]) g1 g2 hx.2 g3
      refine ⟨h1, fun y => ?_⟩
      rw [h2, List.mem_append, List.mem_singleton, List.mem_cons]
      exact or_assoc
/-- two rising rows with the same members are one -/
theorem rising_ext {κ : Type} {lt : κ → κ → Prop} (irr : ∀ a, ¬ lt a a) (asm : ∀ a b, lt a b → ¬ lt b a) : ∀ (a b : List κ), a.Pairwise lt → b.Pairwise lt → (∀ y, y ∈ a ↔ y ∈ b) → a = b
  | [], [], _, _, _ => rfl
  | [], y :: r, _, _, h => absurd ((h y).mpr (List.mem_cons_self ..)) (by simp)
  | x :: r, [], _, _, h => absurd ((h x).mp (List.mem_cons_self ..)) (by simp)
  | x :: r, y :: t, ha, hb, h => by
    rw [List.pairwise_cons] at ha hb
    have hxy : x = y := by
      rcases List.mem_cons.mp ((h x).mp (List.mem_cons_self ..)) with e | e
      · exact e
      · rcases List.mem_cons.mp ((h y).mpr (List.mem_cons_self ..)) with e' | e'
        · exact e'.symm
        · exact absurd (ha.1 y e') (asm _ _ (hb.1 x e))
    subst hxy
    have : r = t := rising_ext irr asm r t ha.2 hb.2 fun z => by
      constructor
      · intro hz
        rcases List.mem_cons.mp ((h z).mp (List.mem_cons_of_mem _ hz)) with rfl | e
        · exact absurd (ha.1 z hz) (irr z)
        · exact e
      · intro hz
        rcases List.mem_cons.mp ((h z).mpr (List.mem_cons_of_mem _ hz)) with rfl | e
        · exact absurd (hb.1 z hz) (irr z)
        · exact e
    rw [this]
theorem ddI {ns : List Int} (h : ns.Pairwise (· ≤ ·)) : (dd ns).Pairwise (· < ·) ∧ ∀ y, y ∈ dd ns ↔ y ∈ ns := by
  obtain ⟨h1, h2⟩ := dd_facts (κ := Int) (le := (· ≤ ·)) (lt := (· < ·)) (fun a b h1 h2 => by omega) (fun a b c h1 h2 => by omega) ns [] List.Pairwise.nil (by simp) h (by simp)
  exact ⟨h1, fun y => (h2 y).trans (by simp)⟩
theorem ddT {ns : Txs} (h : ns.Pairwise (fun a b => ¬ b < a)) : (dd ns).Pairwise (· < ·) ∧ ∀ y, y ∈ dd ns ↔ y ∈ ns := by
  obtain ⟨h1, h2⟩ := dd_facts (κ := List Nat) (le := fun a b => ¬ b < a) (lt := (· < ·)) (fun a b h1 h2 => by
      by_cases hab : a < b
      · exact hab
      · exact absurd (lt_or hab h1) h2)
    (fun a b c h1 h2 => by
      by_cases hac : a < c
      · exact hac
      · exfalso
        have hcb : ¬ c < b := h2
        by_cases hca : c < a
        · exact hcb (List.lt_trans hca h1)
        · have := lt_or hac hca
          subst this
          exact hcb h1) ns [] List.Pairwise.nil (by simp) h (by simp)
  exact ⟨h1, fun y => (h2 y).trans (by simp)⟩
/-- a place's word -/
def wI (p : Int) : List Nat := wordOf p.toNat
def InP (p : Int) : Prop := 0 ≤ p ∧ p < 32768
theorem wI_lt {p q : Int} (hp : InP p) (hq : InP q) (h : p < q) : wI p < wI q := by
  unfold InP at hp hq
  exact word_lt (by omega) (by omega)
theorem wI_lt_iff {p q : Int} (hp : InP p) (hq : InP q) : wI p < wI q ↔ p < q := by
  constructor
  · intro h
    rcases Int.lt_trichotomy p q with h1 | h1 | h1
    · exact h1
    · subst h1; exact (lt_irr h).elim
    · exact (lt_asm h (wI_lt hq hp h1)).elim
  · exact wI_lt hp hq
theorem wI_inj {p q : Int} (hp : InP p) (hq : InP q) (h : wI p = wI q) : p = q := by
  rcases Int.lt_trichotomy p q with h1 | h1 | h1
  · exact (lt_irr (h ▸ wI_lt hp hq h1)).elim
  · exact h1
  · exact (lt_irr (h ▸ wI_lt hq hp h1)).elim
theorem map_rising {ps : List Int} (hp : ∀ p ∈ ps, InP p) (h : ps.Pairwise (· < ·)) : (ps.map wI).Pairwise (· < ·) := by
  rw [List.pairwise_map]
  exact h.imp_of_mem fun ha hb hab => wI_lt (hp _ ha) (hp _ hb) hab
/-- the words of a row, once each, are the words of its places -/
theorem words_are {ps ps' : List Int} {ws : Txs} (hp : ∀ p ∈ ps, InP p) (h1 : ps'.Perm ps) (h2 : ps'.Pairwise (· ≤ ·)) (h3 : ws.Perm (ps.map wI)) (h4 : ws.Pairwise (fun a b => ¬ b < a)) : dd ws = (dd ps').map wI := by
  obtain ⟨a1, a2⟩ := ddI h2
  obtain ⟨b1, b2⟩ := ddT h4
  have hp' : ∀ p ∈ dd ps', InP p := fun p hm => hp p (h1.mem_iff.mp ((a2 p).mp hm))
  refine rising_ext (lt := (· < ·)) (fun a h => lt_irr h) (fun a b h h' => lt_asm h h') _ _ b1 (map_rising hp' a1) fun y => ?_
  rw [b2, h3.mem_iff, List.mem_map, List.mem_map]
  constructor
  · rintro ⟨p, hpm, rfl⟩
    exact ⟨p, (a2 p).mpr (h1.mem_iff.mpr hpm), rfl⟩
  · rintro ⟨p, hpm, rfl⟩
    exact ⟨p, h1.mem_iff.mp ((a2 p).mp hpm), rfl⟩
/-- the order -/
theorem cmp_order : ∀ (a b : List Int), (∀ p ∈ a, InP p) → (∀ p ∈ b, InP p) → cmpT (a.map wI) (b.map wI) = orderOf a b
  | [], [], _, _ => rfl
  | [], _ :: _, _, _ => rfl
  | _ :: _, [], _, _ => rfl
  | x :: r, y :: t, ha, hb => by
    have hx := ha x (List.mem_cons_self ..)
    have hy := hb y (List.mem_cons_self ..)
    have ih := cmp_order r t (fun p h => ha p (List.mem_cons_of_mem _ h)) (fun p h => hb p (List.mem_cons_of_mem _ h))
    unfold cmpT at ih ⊢
    rw [List.map_cons, List.map_cons]
    simp only [ltT, orderOf]
    by_cases hxy : x = y
    · subst hxy
      simp only [if_true]
      exact ih
    · have hne : ¬ wI x = wI y := fun e => hxy (wI_inj hx hy e)
      have hne' : ¬ wI y = wI x := fun e => hxy (wI_inj hx hy e.symm)
      rw [if_neg hne, if_neg hne', if_neg hxy]
      by_cases hlt : x < y
      · have h1 := wI_lt hx hy hlt
        have h2 : ¬ wI y < wI x := fun h => lt_asm h1 h
        rw [if_neg (by omega), decide_eq_true h1, decide_eq_false h2]; rfl
      · have hgt : y < x := by omega
        have h1 := wI_lt hy hx hgt
        have h2 : ¬ wI x < wI y := fun h => lt_asm h1 h
        rw [if_pos (by omega), decide_eq_true h1, decide_eq_false h2]; rfl
end
end Mine
set_option maxHeartbeats 400000
set_option linter.unusedVariables false
namespace Mine
noncomputable section
def notIn (r : List Int) (p : Int) : Bool := !(r.any (· == p))
theorem notIn_iff {r : List Int} {p : Int} : notIn r p = true ↔ p ∉ r := by
  unfold notIn
  simp only [Bool.not_eq_true', List.any_eq_false, beq_iff_eq]
  exact ⟨fun h hm => h p hm rfl, fun h x hx e => h (e ▸ hx)⟩
theorem filter_all {r : List Int} {a : List Int} (h : ∀ p ∈ a, p ∉ r) : a.filter (notIn r) = a := List.filter_eq_self.mpr fun p hp => notIn_iff.mpr (h p hp)
theorem filter_drop {a r : List Int} {y : Int} (h : ∀ p ∈ a, p ≠ y) : a.filter (notIn (y :: r)) = a.filter (notIn r) := by
  refine List.filter_congr fun p hp => ?_
  have := h p hp
  rw [Bool.eq_iff_iff, notIn_iff, notIn_iff]
  simp [this]
theorem dif_places : ∀ (n : Nat) (a b : List Int), a.length + b.length = n → (∀ p ∈ a, InP p) → (∀ p ∈ b, InP p) → a.Pairwise (· < ·) → b.Pairwise (· < ·) →
    Dif (a.map wI) (b.map wI) ((a.filter (notIn b)).map wI) ((b.filter (notIn a)).map wI) := by
  intro n
  induction n using Nat.strongRecOn with
  | ind n ih =>
    intro a b hn ha hb sa sb
    cases a with
    | nil =>
      rw [filter_all (r := []) (a := b) (by simp)]
      exact Dif.l
    | cons x r =>
      cases b with
      | nil =>
        rw [filter_all (r := []) (a := x :: r) (by simp)]
        exact Dif.r
      | cons y t =>
        have hx := ha x (List.mem_cons_self ..)
        have hy := hb y (List.mem_cons_self ..)
        have sa' := List.pairwise_cons.mp sa
        have sb' := List.pairwise_cons.mp sb
        have hr : ∀ p ∈ r, InP p := fun p h => ha p (List.mem_cons_of_mem _ h)
        have ht : ∀ p ∈ t, InP p := fun p h => hb p (List.mem_cons_of_mem _ h)
        simp only [List.length_cons] at hn
        rcases Int.lt_trichotomy x y with h | h | h
        · have e1 : (x :: r).filter (notIn (y :: t)) = x :: r.filter (notIn (y :: t)) := by
            rw [List.filter_cons_of_pos]
            rw [notIn_iff]
            intro hm
            rcases List.mem_cons.mp hm with e | e
            · omega
            · have := sb'.1 x e; omega
          have e2 : (y :: t).filter (notIn (x :: r)) = (y :: t).filter (notIn r) := filter_drop fun p hp => by
            rcases List.mem_cons.mp hp with rfl | hp
            · omega
            · have := sb'.1 p hp; omega
          rw [e1, e2, List.map_cons, List.map_cons, List.map_cons]
          refine Dif.lt (wI_lt hx hy h) ?_
          have := ih (r.length + (y :: t).length) (by simp only [List.length_cons]; omega) r (y :: t) rfl hr hb sa'.2 sb
          rw [List.map_cons] at this
          exact this
        · subst h
          have e1 : (x :: r).filter (notIn (x :: t)) = r.filter (notIn t) := by
            rw [List.filter_cons_of_neg (by rw [notIn_iff]; simp)]
            exact filter_drop fun p hp => by have := sa'.1 p hp; omega
          have e2 : (x :: t).filter (notIn (x :: r)) = t.filter (notIn r) := by
            rw [List.filter_cons_of_neg (by rw [notIn_iff]; simp)]
            exact filter_drop fun p hp => by have := sb'.1 p hp; omega
          rw [e1, e2, List.map_cons, List.map_cons]
          exact Dif.eq (ih (r.length + t.length) (by omega) r t rfl hr ht sa'.2 sb'.2)
        · have e1 : (y :: t).filter (notIn (x :: r)) = y :: t.filter (notIn (x :: r)) := by
            rw [List.filter_cons_of_pos]
            rw [notIn_iff]
            intro hm
            rcases List.mem_cons.mp hm with e | e
            · omega
            · have := sa'.1 y e; omega
          have e2 : (x :: r).filter (notIn (y :: t)) = (x :: r).filter (notIn t) := filter_drop fun p hp => by
            rcases List.mem_cons.mp hp with rfl | hp
            · omega
            · have := sa'.1 p hp; omega
          rw [e1, e2, List.map_cons, List.map_cons, List.map_cons]
          refine Dif.gt (wI_lt hy hx h) ?_
          have := ih ((x :: r).length + t.length) (by simp only [List.length_cons]; omega) (x :: r) t rfl ha ht sa sb'.2
          rw [List.map_cons] at this
          exact this
/-- a word by its atoms -/
def atomOf (c : Nat) : Option Nat := if c = 63 then none else some c
def atomsOf (p : Nat) : List (Option Nat) := wordHead.tail.map some ++ (signsOf p).map atomOf ++ [some 63]
theorem enc_append (a b : List (Option Nat)) : enc (a ++ b) = enc a ++ enc b := by unfold enc; rw [List.flatMap_append]
theorem enc_some : ∀ l : List Nat, enc (l.map some) = l
  | [] => rfl
  | c :: l => by rw [List.map_cons, enc_cons, enc_some l]; rfl
theorem enc_atoms : ∀ l : List Nat, enc (l.map atomOf) = coded l
  | [] => rfl
  | c :: l => by
    rw [List.map_cons, enc_cons, enc_atoms l, coded_cons]
    unfold atomOf hdr
    split <;> rfl
theorem dec_atoms (l : List Nat) : dec (l.map atomOf) = l := by
  unfold dec
  rw [List.map_map]
  refine (List.map_congr_left fun c _ => ?_).trans (List.map_id _)
  show decA (atomOf c) = c
  unfold atomOf
  split
  · rename_i h; exact h.symm
  · rfl
theorem word_atoms (p : Nat) : wordOf p = 61 :: (enc (atomsOf p) ++ [61]) := by
  unfold wordOf atomsOf
  rw [enc_append, enc_append, enc_some, enc_atoms]
  simp [enc, encA, wordHead]
theorem dec_word (p : Nat) : 61 :: dec (atomsOf p) = wordHead ++ signsOf p ++ [63] := by
  unfold atomsOf
  have e1 : dec (wordHead.tail.map some ++ (signsOf p).map atomOf ++ [some 63]) = dec (wordHead.tail.map some) ++ dec ((signsOf p).map atomOf) ++ dec [some 63] := by
    unfold dec; rw [List.map_append, List.map_append]
  rw [e1, dec_atoms]
  rfl
theorem alphaOk : ∀ c ∈ alpha, 33 ≤ c ∧ c < 127 ∧ c ≠ 61 := by decide
theorem headOk : ∀ c ∈ wordHead.tail, 33 ≤ c ∧ c < 127 ∧ c ≠ 61 := by decide
theorem atoms_ok {p : Nat} (hp : p < 32768) : OkA (atomsOf p) := by
  intro c hc
  unfold atomsOf at hc
  rcases List.mem_append.mp hc with hc | hc
  · rcases List.mem_append.mp hc with hc | hc
    · obtain ⟨d, hd, e⟩ := List.mem_map.mp hc
      cases e
      exact headOk c hd
    · obtain ⟨d, hd, e⟩ := List.mem_map.mp hc
      unfold atomOf at e
      split at e
      · cases e
      · cases e; exact alphaOk c (signsOf_in hp c hd)
  · have : c = 63 := by simpa using hc
    subst this; decide
theorem atoms_len (p : Nat) : (atomsOf p).length ≤ 100 := by
  unfold atomsOf
  simp [signsOf_length, wordHead]
theorem atoms_head (p : Nat) : ∃ r, atomsOf p = some 63 :: r := ⟨_, rfl⟩
theorem word_small (p : Nat) (hp : p < 32768) : ∀ c ∈ wordOf p, c < 0x110000 := by
  intro c hc
  rw [word_atoms] at hc
  rcases List.mem_cons.mp hc with rfl | hc
  · decide
  · rcases List.mem_append.mp hc with hc | hc
    · have := enc_range (atoms_ok hp) c hc; omega
    · have : c = 61 := by simpa using hc
      subst this; decide
end
end Mine
set_option maxHeartbeats 1000000
set_option linter.unusedVariables false
namespace Mine
noncomputable section
/-- place, by naturals -/
def kindN : List Nat := [1, 6, 3, 1, 4, 1, 2, 1, 0, 1, 5, 1, 7, 1, 1, 1]
def gx (f u : Nat) : Nat := f / 2 * 4 + [0, 3, 1, 2].getD (f % 2 + 2 * u) 0
def placeN (n : Nat) : Nat := ((kindN.getD (n / 4096 % 16) 0 * 16 + gx (n / 64 % 8) (n / 2048 % 2)) * 16 + gx (n / 8 % 8) (n / 1024 % 2)) * 16 + gx (n / 1 % 8) (n / 512 % 2)
theorem dm (n a b : Nat) : ((n : Int).fdiv (a : Nat)).fmod (b : Nat) = ((n / a % b : Nat) : Int) := by rw [fdiv_nat, fmod_nat]
theorem kindEq : ∀ K < 16, kindTab.getD K 0 = ((kindN.getD K 0 : Nat) : Int) := by decide
theorem xEq : ∀ i < 4, xTab.getD i 0 = (([0, 3, 1, 2].getD i 0 : Nat) : Int) := by decide
theorem gxEq (f u : Nat) (hu : u < 2) : ((f : Nat) : Int).fdiv 2 * 4 + xTab.getD (((f : Nat) : Int).fmod 2 + 2 * ((u : Nat) : Int)).toNat 0 = ((gx f u : Nat) : Int) := by
  have e1 : ((f : Nat) : Int).fdiv 2 = ((f / 2 : Nat) : Int) := fdiv_nat f 2
  have e2 : ((f : Nat) : Int).fmod 2 = ((f % 2 : Nat) : Int) := fmod_nat f 2
  have e3 : (((f % 2 : Nat) : Int) + 2 * ((u : Nat) : Int)).toNat = f % 2 + 2 * u := by omega
  rw [e1, e2, e3, xEq _ (by omega)]
  unfold gx
  omega
theorem placeI_nat (n : Nat) : placeI n = ((placeN n : Nat) : Int) := by
  have k0 : ((n : Int).fdiv 4096).fmod 16 = ((n / 4096 % 16 : Nat) : Int) := dm n 4096 16
  have f0 : ((n : Int).fdiv (8 ^ (2 - ((0 : Nat) : Int)).toNat)).fmod 8 = ((n / 64 % 8 : Nat) : Int) := dm n 64 8
  have f1 : ((n : Int).fdiv (8 ^ (2 - ((1 : Nat) : Int)).toNat)).fmod 8 = ((n / 8 % 8 : Nat) : Int) := dm n 8 8
  have f2 : ((n : Int).fdiv (8 ^ (2 - ((2 : Nat) : Int)).toNat)).fmod 8 = ((n / 1 % 8 : Nat) : Int) := dm n 1 8
  have u0 : ((n : Int).fdiv (2 ^ (11 - ((0 : Nat) : Int)).toNat)).fmod 2 = ((n / 2048 % 2 : Nat) : Int) := dm n 2048 2
  have u1 : ((n : Int).fdiv (2 ^ (11 - ((1 : Nat) : Int)).toNat)).fmod 2 = ((n / 1024 % 2 : Nat) : Int) := dm n 1024 2
  have u2 : ((n : Int).fdiv (2 ^ (11 - ((2 : Nat) : Int)).toNat)).fmod 2 = ((n / 512 % 2 : Nat) : Int) := dm n 512 2
  show placeGo n 3 = _
  rw [placeGo, placeGo, placeGo, placeGo, k0, f0, f1, f2, u0, u1, u2]
  rw [Int.add_assoc, gxEq _ _ (by omega), Int.add_assoc, gxEq _ _ (by omega), Int.add_assoc, gxEq _ _ (by omega), Int.toNat_natCast, kindEq _ (by omega)]
  unfold placeN
  simp only [Int.natCast_add, Int.natCast_mul]
  rfl
theorem gx_lt : ∀ f < 8, ∀ u < 2, gx f u < 16 := by decide
theorem kindN_lt : ∀ K < 16, kindN.getD K 0 < 8 := by decide
theorem placeN_lt (n : Nat) : placeN n < 32768 := by
  have h0 := kindN_lt (n / 4096 % 16) (by omega)
  have h1 := gx_lt (n / 64 % 8) (by omega) (n / 2048 % 2) (by omega)
  have h2 := gx_lt (n / 8 % 8) (by omega) (n / 1024 % 2) (by omega)
  have h3 := gx_lt (n / 1 % 8) (by omega) (n / 512 % 2) (by omega)
  unfold placeN
  omega
/-- the signs, three by three -/
def triS (a : Nat) : List Nat := [[45, 114].getD (a / 8) 0, [45, 119].getD (a / 4 % 2) 0, [45, 83, 115, 120].getD (a % 4) 0]
def triT (a : Nat) : List Nat := [[45, 114].getD (a / 8) 0, [45, 119].getD (a / 4 % 2) 0, [45, 84, 116, 120].getD (a % 4) 0]
theorem signs_tri {k a b c : Nat} (hk : k < 8) (ha : a < 16) (hb : b < 16) (hc : c < 16) : signsOf (((k * 16 + a) * 16 + b) * 16 + c) = kindSigns.getD k 0 :: (triS a ++ triS b ++ triT c) := by
  generalize hp : ((k * 16 + a) * 16 + b) * 16 + c = p
  have e9 : p / 4 / 2 / 2 / 4 / 2 / 2 / 4 / 2 / 2 = k := by omega
  have e8 : p / 4 / 2 / 2 / 4 / 2 / 2 / 4 / 2 % 2 = a / 8 := by omega
  have e7 : p / 4 / 2 / 2 / 4 / 2 / 2 / 4 % 2 = a / 4 % 2 := by omega
  have e6 : p / 4 / 2 / 2 / 4 / 2 / 2 % 4 = a % 4 := by omega
  have e5 : p / 4 / 2 / 2 / 4 / 2 % 2 = b / 8 := by omega
  have e4 : p / 4 / 2 / 2 / 4 % 2 = b / 4 % 2 := by omega
  have e3 : p / 4 / 2 / 2 % 4 = b % 4 := by omega
  have e2 : p / 4 / 2 % 2 = c / 8 := by omega
  have e1 : p / 4 % 2 = c / 4 % 2 := by omega
  show kindSigns.getD (p / 4 / 2 / 2 / 4 / 2 / 2 / 4 / 2 / 2) 0 :: [[45, 114].getD (p / 4 / 2 / 2 / 4 / 2 / 2 / 4 / 2 % 2) 0, [45, 119].getD (p / 4 / 2 / 2 / 4 / 2 / 2 / 4 % 2) 0, [45, 83, 115, 120].getD (p / 4 / 2 / 2 / 4 / 2 / 2 % 4) 0,
    [45, 114].getD (p / 4 / 2 / 2 / 4 / 2 % 2) 0, [45, 119].getD (p / 4 / 2 / 2 / 4 % 2) 0, [45, 83, 115, 120].getD (p / 4 / 2 / 2 % 4) 0, [45, 114].getD (p / 4 / 2 % 2) 0, [45, 119].getD (p / 4 % 2) 0, [45, 84, 116, 120].getD (p % 4) 0] = _
  have e0 : p % 4 = c % 4 := by omega
  rw [e9, e8, e7, e6, e5, e4, e3, e2, e1, e0]
  rfl
/-- the bits -/
theorem and_bit (n k : Nat) : n &&& 2 ^ k = (n / 2 ^ k % 2) * 2 ^ k := by
  have hb : n.testBit k = decide (n / 2 ^ k % 2 = 1) := Nat.testBit_eq_decide_div_mod_eq
  have : n / 2 ^ k % 2 = 0 ∨ n / 2 ^ k % 2 = 1 := by omega
  rcases this with h | h
  · rw [h, Nat.zero_mul]
    refine Nat.eq_of_testBit_eq fun i => ?_
    rw [Nat.testBit_and, Nat.testBit_two_pow, Nat.zero_testBit]
    by_cases hi : k = i
    · subst hi; rw [hb, h]; rfl
    · simp [hi]
  · rw [h, Nat.one_mul]
    refine Nat.eq_of_testBit_eq fun i => ?_
    rw [Nat.testBit_and, Nat.testBit_two_pow]
    by_cases hi : k = i
    · subst hi; rw [hb, h]; rfl
    · simp [hi]
theorem bA (n b : Nat) : Builtin.bitAnd (n : Int) (b : Nat) = ((n &&& b : Nat) : Int) := by
  rw [bitAnd_pp (by omega) (by omega), Int.toNat_natCast, Int.toNat_natCast]

theorem and_two (n i j : Nat) : n &&& (2 ^ i ||| 2 ^ j) = (n / 2 ^ i % 2) * 2 ^ i ||| (n / 2 ^ j % 2) * 2 ^ j := by rw [Nat.and_or_distrib_left, and_bit, and_bit]
theorem and_kind (n : Nat) : n &&& 61440 = ((n / 2 ^ 12 % 2) * 2 ^ 12 ||| (n / 2 ^ 13 % 2) * 2 ^ 13) ||| ((n / 2 ^ 14 % 2) * 2 ^ 14 ||| (n / 2 ^ 15 % 2) * 2 ^ 15) := by
  rw [← and_two, ← and_two, ← Nat.and_or_distrib_left]; rfl
theorem kindAll : ∀ a < 2, ∀ b < 2, ∀ c < 2, ∀ d < 2, (a * 2 ^ 12 ||| b * 2 ^ 13) ||| (c * 2 ^ 14 ||| d * 2 ^ 15) = (a + 2 * b + 4 * c + 8 * d) * 4096 := by decide
theorem and_kind' (n : Nat) : n &&& 61440 = (n / 4096 % 16) * 4096 := by
  rw [and_kind, kindAll _ (by omega) _ (by omega) _ (by omega) _ (by omega)]
  congr 1
  omega
theorem bitEq (n k : Nat) : decide (Builtin.bitAnd (n : Int) ((2 ^ k : Nat) : Int) = ((2 ^ k : Nat) : Int)) = decide (n / 2 ^ k % 2 = 1) := by
  rw [bA, and_bit]
  have hp : 0 < 2 ^ k := Nat.two_pow_pos k
  have : n / 2 ^ k % 2 = 0 ∨ n / 2 ^ k % 2 = 1 := by omega
  rcases this with h | h
  · rw [h, Nat.zero_mul]
    have : ¬ (((0 : Nat) : Int) = ((2 ^ k : Nat) : Int)) := by omega
    rw [decide_eq_false this]; rfl
  · rw [h, Nat.one_mul]; simp
theorem two1 : ∀ a < 2, ∀ b < 2, decide (((a * 2 ^ 6 ||| b * 2 ^ 11 : Nat) : Int) = 2112) = (decide (a = 1) && decide (b = 1)) := by decide
theorem two2 : ∀ a < 2, ∀ b < 2, decide (((a * 2 ^ 3 ||| b * 2 ^ 10 : Nat) : Int) = 1032) = (decide (a = 1) && decide (b = 1)) := by decide
theorem two3 : ∀ a < 2, ∀ b < 2, decide (((a * 2 ^ 0 ||| b * 2 ^ 9 : Nat) : Int) = 513) = (decide (a = 1) && decide (b = 1)) := by decide
theorem bit2a (n : Nat) : decide (Builtin.bitAnd (n : Int) 2112 = 2112) = (decide (n / 2 ^ 6 % 2 = 1) && decide (n / 2 ^ 11 % 2 = 1)) := by
  rw [show (2112 : Int) = ((2 ^ 6 ||| 2 ^ 11 : Nat) : Int) from rfl, bA, and_two]
  exact two1 _ (by omega) _ (by omega)
theorem bit2b (n : Nat) : decide (Builtin.bitAnd (n : Int) 1032 = 1032) = (decide (n / 2 ^ 3 % 2 = 1) && decide (n / 2 ^ 10 % 2 = 1)) := by
  rw [show (1032 : Int) = ((2 ^ 3 ||| 2 ^ 10 : Nat) : Int) from rfl, bA, and_two]
  exact two2 _ (by omega) _ (by omega)
theorem bit2c (n : Nat) : decide (Builtin.bitAnd (n : Int) 513 = 513) = (decide (n / 2 ^ 0 % 2 = 1) && decide (n / 2 ^ 9 % 2 = 1)) := by
  rw [show (513 : Int) = ((2 ^ 0 ||| 2 ^ 9 : Nat) : Int) from rfl, bA, and_two]
  exact two3 _ (by omega) _ (by omega)
/-- a row of one bit, a row of three -/
theorem one_sign' {n k c : Nat} {b : Int} {i : Nat} {r : FRow} (hi : i ≠ 0) (hr : fmRow i = [r]) (hb : r.bit = ((2 ^ k : Nat) : Int)) : fmSign n i = if n / 2 ^ k % 2 = 1 then r.ch else 45 := by
  unfold fmSign
  rw [hr]
  have : fmTest n i r = decide (n / 2 ^ k % 2 = 1) := by
    unfold fmTest
    rw [if_neg hi, hb]
    exact bitEq n k
  simp only [List.find?_cons, this, List.find?_nil]
  by_cases h : n / 2 ^ k % 2 = 1
  · simp [h]
  · simp [h, hi]
theorem three_sign {n j k : Nat} {i : Nat} {r1 r2 r3 : FRow} (hi : i ≠ 0) (hr : fmRow i = [r1, r2, r3]) (h1 : decide (Builtin.bitAnd (n : Int) r1.bit = r1.bit) = (decide (n / 2 ^ j % 2 = 1) && decide (n / 2 ^ k % 2 = 1))) (h2 : r2.bit = ((2 ^ k : Nat) : Int)) (h3 : r3.bit = ((2 ^ j : Nat) : Int)) :
    fmSign n i = if n / 2 ^ j % 2 = 1 ∧ n / 2 ^ k % 2 = 1 then r1.ch else if n / 2 ^ k % 2 = 1 then r2.ch else if n / 2 ^ j % 2 = 1 then r3.ch else 45 := by
  unfold fmSign
  rw [hr]
  have t1 : fmTest n i r1 = (decide (n / 2 ^ j % 2 = 1) && decide (n / 2 ^ k % 2 = 1)) := by unfold fmTest; rw [if_neg hi]; exact h1
  have t2 : fmTest n i r2 = decide (n / 2 ^ k % 2 = 1) := by unfold fmTest; rw [if_neg hi, h2]; exact bitEq n k
  have t3 : fmTest n i r3 = decide (n / 2 ^ j % 2 = 1) := by unfold fmTest; rw [if_neg hi, h3]; exact bitEq n j
  simp only [List.find?_cons, t1, t2, t3, List.find?_nil]
  by_cases ha : n / 2 ^ j % 2 = 1 <;> by_cases hb : n / 2 ^ k % 2 = 1 <;> simp [ha, hb, hi]
theorem kindRow : ∀ K < 16, (match (fmRow 0).find? (fun r => decide (((K * 4096 : Nat) : Int) = r.bit)) with | some r => r.ch | none => 63) = kindSigns.getD (kindN.getD K 0) 0 := by decide
theorem sign0 (n : Nat) : fmSign n 0 = kindSigns.getD (kindN.getD (n / 4096 % 16) 0) 0 := by
  rw [← kindRow _ (by omega : n / 4096 % 16 < 16)]
  unfold fmSign
  have : fmTest n 0 = fun r => decide ((((n / 4096 % 16) * 4096 : Nat) : Int) = r.bit) := by
    funext r
    unfold fmTest
    rw [if_pos rfl, ← and_kind', ← bA]; rfl
  rw [this]
  rfl
theorem triS_eq : ∀ r < 2, ∀ w < 2, ∀ x < 2, ∀ u < 2, triS (gx (4 * r + 2 * w + x) u) = [if r = 1 then 114 else 45, if w = 1 then 119 else 45, if x = 1 ∧ u = 1 then 115 else if u = 1 then 83 else if x = 1 then 120 else 45] := by decide
theorem triT_eq : ∀ r < 2, ∀ w < 2, ∀ x < 2, ∀ u < 2, triT (gx (4 * r + 2 * w + x) u) = [if r = 1 then 114 else 45, if w = 1 then 119 else 45, if x = 1 ∧ u = 1 then 116 else if u = 1 then 84 else if x = 1 then 120 else 45] := by decide
/-- filemode's signs are the place's -/
theorem filemode_signs (n : Nat) : fmSigns n 10 = signsOf (placeN n) := by
  have h0 := kindN_lt (n / 4096 % 16) (by omega)
  have h1 := gx_lt (n / 64 % 8) (by omega) (n / 2048 % 2) (by omega)
  have h2 := gx_lt (n / 8 % 8) (by omega) (n / 1024 % 2) (by omega)
  have h3 := gx_lt (n / 1 % 8) (by omega) (n / 512 % 2) (by omega)
  rw [placeN, signs_tri h0 h1 h2 h3]
  have f0 : n / 64 % 8 = 4 * (n / 2 ^ 8 % 2) + 2 * (n / 2 ^ 7 % 2) + n / 2 ^ 6 % 2 := by omega
  have f1 : n / 8 % 8 = 4 * (n / 2 ^ 5 % 2) + 2 * (n / 2 ^ 4 % 2) + n / 2 ^ 3 % 2 := by omega
  have f2 : n / 1 % 8 = 4 * (n / 2 ^ 2 % 2) + 2 * (n / 2 ^ 1 % 2) + n / 2 ^ 0 % 2 := by omega
  rw [f0, f1, f2, triS_eq _ (by omega) _ (by omega) _ (by omega) _ (by omega), triS_eq _ (by omega) _ (by omega) _ (by omega) _ (by omega), triT_eq _ (by omega) _ (by omega) _ (by omega) _ (by omega)]
  show [fmSign n 0, fmSign n 1, fmSign n 2, fmSign n 3, fmSign n 4, fmSign n 5, fmSign n 6, fmSign n 7, fmSign n 8, fmSign n 9] = _
  rw [sign0, one_sign' (n := n) (k := 8) (i := 1) (c := 0) (b := 0) (by decide) rfl rfl, one_sign' (n := n) (k := 7) (i := 2) (c := 0) (b := 0) (by decide) rfl rfl, three_sign (n := n) (j := 6) (k := 11) (i := 3) (by decide) rfl (bit2a n) rfl rfl,
    one_sign' (n := n) (k := 5) (i := 4) (c := 0) (b := 0) (by decide) rfl rfl, one_sign' (n := n) (k := 4) (i := 5) (c := 0) (b := 0) (by decide) rfl rfl, three_sign (n := n) (j := 3) (k := 10) (i := 6) (by decide) rfl (bit2b n) rfl rfl,
    one_sign' (n := n) (k := 2) (i := 7) (c := 0) (b := 0) (by decide) rfl rfl, one_sign' (n := n) (k := 1) (i := 8) (c := 0) (b := 0) (by decide) rfl rfl, three_sign (n := n) (j := 0) (k := 9) (i := 9) (by decide) rfl (bit2c n) rfl rfl]
  rfl
end
end Mine
set_option maxHeartbeats 400000
set_option linter.unusedVariables false
namespace Mine
noncomputable section
section
variable {prog : Program} {w : World} {M : Model} {A : Around} {E : Value → Shared → Prop} {s₀ s s' : Shared} {L : Addr} {m : Str → Option Value} {os : List (Addr × Obj)} {env : Env} {Q : Value → Shared → Prop}
theorem Fm.got {D : Addr} {o : Obj} (F : Fm s₀ L m os s) (k : Keeps s s') (hn : s.heap.get? D = none) (ho : s'.heap.get? D = some o) : Fm s₀ L m ((D, o) :: os) s' := by
  obtain ⟨h', tk, rfl, hk⟩ := k
  exact F.newly hk hn ho
theorem nmN {C : Addr} {x : Str} {pos : Pos} {v : Value} (ns : s.heap.Ns C m) (hv : m x = some v) (h : Q v s) (hL : env.locals = C := by with_unfolding_all rfl)
    (hk : env.scope.kind = .function := by with_unfolding_all rfl) (hl : env.kindOf x = some .local := by with_unfolding_all rfl) (hd : (x == ("__debug__" : Str)) = false := by with_unfolding_all rfl) :
    wpAny M A (eval (.Name x pos) env) Q E s := wpAny_Name (wpAny_loadName_local hk hl (hL ▸ ns) hv h) hd
/-- what a comprehension's element and test must do -/
structure Quiet (prog : Program) (w : World) (A : Around) (env : Env) (scope : Scope) (cl : List (Str × Addr)) (x : Str) (ifs : List PySem.Expr) (elt : PySem.Expr) (P : Value → Prop) (p : Value → Bool) (G : Value → Value → Prop) (s : Shared) : Prop where
  test : ∀ C v s₃ m₃ E', P v → s₃.heap.Ns C m₃ → m₃ x = some v → Kp s.heap s₃.heap →
    wpAny (model prog w) A (forIn ifs true fun c r => if r = true then do let ok ← isTrue c (compEnvC scope cl C env) (eval c (compEnvC scope cl C env)); pure (ForInStep.yield ok) else pure (ForInStep.yield r)) (fun ok s₄ => ok = p v ∧ Keeps s₃ s₄) E' s₃
  elt : ∀ C v s₃ m₃ E', P v → p v = true → s₃.heap.Ns C m₃ → m₃ x = some v → Kp s.heap s₃.heap → wpAny (model prog w) A (eval elt (compEnvC scope cl C env)) (fun y s₄ => G v y ∧ Keeps s₃ s₄) E' s₃
theorem Quiet.noTest {scope : Scope} {cl : List (Str × Addr)} {x : Str} {elt : PySem.Expr} {P : Value → Prop} {G : Value → Value → Prop}
    (h : ∀ C v s₃ m₃ E', P v → s₃.heap.Ns C m₃ → m₃ x = some v → Kp s.heap s₃.heap → wpAny (model prog w) A (eval elt (compEnvC scope cl C env)) (fun y s₄ => G v y ∧ Keeps s₃ s₄) E' s₃) :
    Quiet prog w A env scope cl x [] elt P (fun _ => true) G s where
  test := fun C v s₃ m₃ E' _ _ _ _ => wpAny_tests_nil ⟨rfl, krfl⟩
  elt := fun C v s₃ m₃ E' hP _ hn hm hk => h C v s₃ m₃ E' hP hn hm hk
theorem paired_map {α β : Type} {F G : α → β → Prop} {P : α → Prop} (h : ∀ a b, P a → F a b → G a b) : ∀ {l : List α} {r : List β}, (∀ a ∈ l, P a) → Paired F l r → Paired G l r
  | _, _, _, .nil => .nil
  | _, _, hp, .cons a r => .cons (h _ _ (hp _ (List.mem_cons_self ..)) a) (paired_map h (fun x hx => hp x (List.mem_cons_of_mem _ hx)) r)

theorem vs_of {items vs : List Value} (hlen : vs.length = items.toArray.size) (hP : ∀ (j : Nat) (v : Value), vs[j]? = some v → items.toArray[j]? = some v) : vs = items := by
  refine List.ext_getElem? fun j => ?_
  cases h : vs[j]? with
  | some v => have := hP j v h; simpa using this.symm
  | none =>
    have h1 := List.getElem?_eq_none_iff.mp h
    rw [hlen] at h1
    exact (List.getElem?_eq_none (by simpa using h1)).symm
/-- [elt for x in a list if ..] -/
theorem compL {elt iter : PySem.Expr} {x : Str} {px : Pos} {ifs : List PySem.Expr} {scope : Scope} {cl : List (Str × Addr)} {pos : Pos} {P : Value → Prop} (p : Value → Bool) (G : Value → Value → Prop) (hh : A.handled = none)
    (hclos : closureFor scope env = pure cl)
    (h : wpAny (model prog w) A (eval iter env) (fun xv s₁ => ∃ l, ∃ vs : List Value, xv = .ref l ∧ s₁.heap.IsList l vs.toArray ∧ vs.length ≤ 1000 ∧ (∀ v ∈ vs, P v) ∧ Quiet prog w A env scope cl x ifs elt P p G s₁ ∧
      ∀ D ys n s', Paired G (vs.filter p) ys → Keeps s₁ s' → s₁.heap.get? D = none → s'.heap.get? D = some (listO ys n) → Q (.ref D) s') E s)
    (hcell : ∀ y ∈ scope.names, y.2 ≠ .cell := by with_unfolding_all decide) (hkind : scope.kind = .function := by with_unfolding_all rfl)
    (hnames : ∀ y ∈ scope.names, y.2 = .local → scope.names.lookup y.1 = some .local := by with_unfolding_all decide) (hx : scope.names.lookup x = some .local := by with_unfolding_all rfl)
    (hs : ∀ x, foldedSetIterable iter env x = pure x := by intro _; with_unfolding_all rfl) :
    wpAny (model prog w) A (eval (.ListComp elt [⟨.Name x px, iter, ifs, 0⟩] scope pos) env) Q E s := by
  refine wpAny_ListComp_free p G hclos hcell hkind hnames hx (wpAny_mono h (fun xv s₁ h₁ => ?_) fun _ _ e => e) hs
  obtain ⟨l, vs, rfl, hl, hz, hPv, hq, hQ⟩ := h₁
  obtain ⟨ol, hol, _⟩ := id hl
  have hlt : l < s₁.heap.objs.size := Heap.lt_size hol
  refine wpAny_pyIter_list hl ?_
  have up : ∀ {h' : Heap}, (∀ b o, b ∉ [s₁.heap.objs.size] → (s₁.heap.push { cls := .type "list_iterator", data := .fields #[.ref l, .int 0 0] }).get? b = some o → h'.get? b = some o) → Kp s₁.heap h' := fun k b o e =>
    k b o (fun hm => Nat.ne_of_lt (Heap.lt_size e) (List.mem_singleton.mp hm)) (Heap.get?_push_of_some _ e)
  have hmem : ∀ i v, vs.toArray[i]? = some v → P v := fun i v e => hPv v (by rw [List.getElem?_toArray] at e; exact List.mem_of_getElem? e)
  refine ⟨_, _, _, _, _, _, rfl, Walks.list hh s₁.heap.objs.size l (Nat.ne_of_lt hlt) vs.toArray, by rw [List.size_toArray, sizeLine_eq]; omega, ⟨⟨_, Heap.get?_push_size _ rfl, rfl, rfl⟩, hl.push _⟩, ?_, ⟨?_, ?_⟩, ?_⟩
  · intro b hb
    show b < (s₁.heap.push _).objs.size
    rw [Heap.size_push]
    rcases List.mem_cons.mp hb with rfl | hb
    · exact Nat.lt_succ_self _
    · rw [List.mem_singleton.mp hb]; exact Nat.lt_succ_of_lt hlt
  · intro C i v s₃ m₃ E' hC hP hn hm hk htk
    exact hq.test C v s₃ m₃ E' (hmem i v hP) hn hm (up hk)
  · intro C i v s₃ m₃ E' hC hP hp hn hm hk htk
    exact hq.elt C v s₃ m₃ E' (hmem i v hP) hp hn hm (up hk)
  · intro D h' tk ys vs' hD _ hpl hlen hP hF hk
    obtain rfl := vs_of hlen hP
    obtain ⟨n, hD'⟩ := hpl
    have hD1 : s₁.heap.get? D = none := by
      cases e : s₁.heap.get? D with
      | none => rfl
      | some o => have := Heap.get?_push_of_some { cls := .type "list_iterator", data := .fields #[.ref l, .int 0 0] } e; rw [this] at hD; cases hD
    refine hQ D ys.toList n _ hF ⟨h', tk, rfl, up hk⟩ hD1 ?_
    show h'.get? D = _
    rw [hD']
/-- y = [elt for x in a list if ..] -/
theorem compA {elt iter : PySem.Expr} {x y : Str} {px py : Pos} {ifs : List PySem.Expr} {scope : Scope} {cl : List (Str × Addr)} {pos spos : Pos} {rest : List Stmt} {Q : Flow → Shared → Prop} {P : Value → Prop} (p : Value → Bool) (G : Value → Value → Prop) (hh : A.handled = none)
    (hclos : closureFor scope env = pure cl)
    (h : wpAny (model prog w) A (eval iter env) (fun xv s₁ => ∃ l, ∃ vs : List Value, ∃ s₀ m os, xv = .ref l ∧ s₁.heap.IsList l vs.toArray ∧ vs.length ≤ 1000 ∧ (∀ v ∈ vs, P v) ∧ Quiet prog w A env scope cl x ifs elt P p G s₁ ∧ Fm s₀ env.locals m os s₁ ∧
      ∀ D ys n s', Paired G (vs.filter p) ys → Fm s₀ env.locals (fun z => if z = y then some (.ref D) else m z) ((D, listO ys n) :: os) s' → wpAny (model prog w) A (execs rest env) Q E s') E s)
    (hsw : swapsWith (.ListComp elt [⟨.Name x px, iter, ifs, 0⟩] scope pos) (some (.Name y py)) spos.line env = pure true := by with_unfolding_all rfl)
    (hcell : ∀ y ∈ scope.names, y.2 ≠ .cell := by with_unfolding_all decide) (hkind : scope.kind = .function := by with_unfolding_all rfl)
    (hnames : ∀ y ∈ scope.names, y.2 = .local → scope.names.lookup y.1 = some .local := by with_unfolding_all decide) (hx : scope.names.lookup x = some .local := by with_unfolding_all rfl)
    (hy : env.kindOf y = some .local := by with_unfolding_all rfl) (hk : env.scope.kind = .function := by with_unfolding_all rfl)
    (hs : ∀ x, foldedSetIterable iter env x = pure x := by intro _; with_unfolding_all rfl) :
    wpAny (model prog w) A (execs (.Assign [.Name y py] (.ListComp elt [⟨.Name x px, iter, ifs, 0⟩] scope pos) spos :: rest) env) Q E s := by
  refine wpAny_execs_cons (wpAny_Assign_ListComp_free p G hsw hclos hcell hkind hnames hx hy (by rw [hk]; rfl) (wpAny_mono h (fun xv s₁ h₁ => ?_) fun _ _ e => e) hs)
  obtain ⟨l, vs, s₀, m, os, rfl, hl, hz, hPv, hq, F, hQ⟩ := h₁
  obtain ⟨ol, hol, _⟩ := id hl
  have hlt : l < s₁.heap.objs.size := Heap.lt_size hol
  refine wpAny_pyIter_list hl ?_
  have up : ∀ {h' : Heap}, (∀ b o, b ∉ [s₁.heap.objs.size] → (s₁.heap.push { cls := .type "list_iterator", data := .fields #[.ref l, .int 0 0] }).get? b = some o → h'.get? b = some o) → Kp s₁.heap h' := fun k b o e =>
    k b o (fun hm => Nat.ne_of_lt (Heap.lt_size e) (List.mem_singleton.mp hm)) (Heap.get?_push_of_some _ e)
  have hmem : ∀ i v, vs.toArray[i]? = some v → P v := fun i v e => hPv v (by rw [List.getElem?_toArray] at e; exact List.mem_of_getElem? e)
  refine ⟨_, _, _, _, _, _, m, rfl, Walks.list hh s₁.heap.objs.size l (Nat.ne_of_lt hlt) vs.toArray, by rw [List.size_toArray, sizeLine_eq]; omega, ⟨⟨_, Heap.get?_push_size _ rfl, rfl, rfl⟩, hl.push _⟩, ?_, ?_, F.ns.push _, ⟨?_, ?_⟩, ?_⟩
  · intro b hb
    show b < (s₁.heap.push _).objs.size
    rw [Heap.size_push]
    rcases List.mem_cons.mp hb with rfl | hb
    · exact Nat.lt_succ_self _
    · rw [List.mem_singleton.mp hb]; exact Nat.lt_succ_of_lt hlt
  · intro hm
    exact Nat.ne_of_lt F.ltL (List.mem_singleton.mp hm)
  · intro C i v s₃ m₃ E' hC hP hn hm hk htk
    exact hq.test C v s₃ m₃ E' (hmem i v hP) hn hm (up hk)
  · intro C i v s₃ m₃ E' hC hP hp hn hm hk htk
    exact hq.elt C v s₃ m₃ E' (hmem i v hP) hp hn hm (up hk)
  · intro D h' tk ys vs' hD _ hpl hlen hP hF hns hk
    obtain rfl := vs_of hlen hP
    obtain ⟨n, hD'⟩ := hpl
    have hD1 : s₁.heap.get? D = none := by
      cases e : s₁.heap.get? D with
      | none => rfl
      | some o => have := Heap.get?_push_of_some { cls := .type "list_iterator", data := .fields #[.ref l, .int 0 0] } e; rw [this] at hD; cases hD
    have kk : ∀ b o, b ≠ env.locals → s₁.heap.get? b = some o → h'.get? b = some o := fun b o hb e =>
      hk b o hb (fun hm => Nat.ne_of_lt (Heap.lt_size e) (List.mem_singleton.mp hm)) (Heap.get?_push_of_some _ e)
    have F1 : Fm s₀ env.locals (fun z => if z = y then some (.ref D) else m z) os { s₁ with heap := h', toks := tk } := by
      refine ⟨?_, hns, F.fresh, fun q hq => ⟨kk _ _ (F.own q hq).2.2 (F.own q hq).1, (F.own q hq).2⟩, F.nd⟩
      obtain ⟨h₁, t₁, e₁, hk₁⟩ := F.keeps
      refine ⟨h', tk, by rw [e₁], fun b ob eb => kk b ob ?_ ?_⟩
      · exact Nat.ne_of_lt (Nat.lt_of_lt_of_le (Heap.lt_size eb) F.fresh)
      · have := hk₁ b ob eb
        rw [e₁]; exact this
    refine hQ D ys.toList n _ hF (F1.add ?_ ?_ ?_ ?_)
    · show h'.get? D = _
      rw [hD']
    · cases e : s₀.heap.get? D with
      | none => rfl
      | some o => have := kkp F.keeps _ _ e; rw [hD1] at this; cases this
    · rintro rfl
      obtain ⟨o, _, _, h1, _⟩ := F.ns
      rw [hD1] at h1; cases h1
    · intro hm
      obtain ⟨q, hq, rfl⟩ := List.mem_map.mp hm
      rw [(F.own q hq).1] at hD1; cases hD1
end
end
end Mine
set_option maxHeartbeats 400000
set_option linter.unusedVariables false
namespace Mine
noncomputable section
def GI (f : Int → Int) (v y : Value) : Prop := ∀ n t, v = .int n t → ∃ t', y = .int (f n) t'
def GT (f : Int → List Nat) (v y : Value) : Prop := ∀ n t, v = .int n t → ∃ t', y = .str (S (f n)) t'
def GO (v y : Value) : Prop := ∀ c t, v = .str (S [c]) t → ∃ t', y = .int (c : Nat) t'
def GW (f : Int → List Nat) (v y : Value) : Prop := ∀ p t, InP p → v = .str (S (wI p)) t → ∃ t', y = .str (S (f p)) t'
theorem pairI {f : Int → Int} : ∀ {vs ys : List Value} {ns : List Int}, IntsAre vs ns → Paired (GI f) vs ys → IntsAre ys (ns.map f)
  | _, _, _, .nil, .nil => .nil
  | _, _, _, .cons n t h, .cons a r => by
    obtain ⟨t', rfl⟩ := a n t rfl
    exact .cons _ _ (pairI h r)
theorem pairT {f : Int → List Nat} : ∀ {vs ys : List Value} {ns : List Int}, IntsAre vs ns → Paired (GT f) vs ys → TextsAre ys (ns.map f)
  | _, _, _, .nil, .nil => .nil
  | _, _, _, .cons n t h, .cons a r => by
    obtain ⟨t', rfl⟩ := a n t rfl
    exact .cons _ _ (pairT h r)
theorem pairO : ∀ {vs ys : List Value} {l : List Nat}, TextsAre vs (l.map fun c => [c]) → Paired GO vs ys → IntsAre ys (l.map fun c : Nat => (c : Int))
  | [], _, [], _, .nil => .nil
  | v :: vs, _, c :: l, h, .cons a r => by
    unfold TextsAre at h
    rw [List.map_cons, List.map_cons] at h
    cases h with
    | cons x t h =>
      obtain ⟨t', rfl⟩ := a c t rfl
      exact .cons _ _ (pairO h r)
  | [], _, c :: l, h, _ => by unfold TextsAre at h; rw [List.map_cons, List.map_cons] at h; cases h
  | v :: vs, _, [], h, _ => by unfold TextsAre at h; cases h
theorem pairW {f : Int → List Nat} : ∀ {vs ys : List Value} {ps : List Int}, (∀ p ∈ ps, InP p) → TextsAre vs (ps.map wI) → Paired (GW f) vs ys → TextsAre ys (ps.map f)
  | [], _, [], _, _, .nil => .nil
  | v :: vs, _, p :: ps, hp, h, .cons a r => by
    unfold TextsAre at h
    rw [List.map_cons, List.map_cons] at h
    cases h with
    | cons x t h =>
      obtain ⟨t', rfl⟩ := a p t (hp p (List.mem_cons_self ..)) rfl
      exact .cons _ _ (pairW (fun q hq => hp q (List.mem_cons_of_mem _ hq)) h r)
  | [], _, p :: ps, _, h, _ => by unfold TextsAre at h; rw [List.map_cons, List.map_cons] at h; cases h
  | v :: vs, _, [], _, h, _ => by unfold TextsAre at h; cases h
/-- f for f in .. if f not in .. -/
def keepP (r : List Int) : Value → Bool
  | .int n _ => notIn r n
  | _ => false
theorem pairF {r : List Int} : ∀ {vs ys : List Value} {ns : List Int}, IntsAre vs ns → Paired (fun v y => y = v) (vs.filter (keepP r)) ys → IntsAre ys (ns.filter (notIn r)) := by
  intro vs ys ns h hp
  have e : ∀ {a b : List Value}, Paired (fun v y => y = v) a b → b = a := by
    intro a b hab
    induction hab with
    | nil => rfl
    | cons h _ ih => rw [h, ih]
  rw [e hp]
  clear hp e ys
  induction h with
  | nil => exact .nil
  | cons n t h ih =>
    by_cases hn : notIn r n = true
    · rw [List.filter_cons_of_pos hn, List.filter_cons_of_pos (by exact hn)]
      exact .cons _ _ ih
    · rw [List.filter_cons_of_neg hn, List.filter_cons_of_neg (by exact hn)]
      exact ih
theorem filter_tt {α : Type} (l : List α) : l.filter (fun _ => true) = l := List.filter_eq_self.mpr fun _ _ => rfl
theorem textsOfSigns : ∀ {l : List Nat} {vs : List Value}, vs.length = l.length → (∀ (j : Nat) (v : Value), vs[j]? = some v → ∃ c u, l[j]? = some c ∧ v = .str (S [c]) u) → TextsAre vs (l.map fun c => [c])
  | [], [], _, _ => .nil
  | [], _ :: _, h, _ => by simp at h
  | _ :: _, [], h, _ => by simp at h
  | c :: r, v :: t', hlen, hP => by
    obtain ⟨c', u, hc, rfl⟩ := hP 0 v rfl
    have : c = c' := by simpa using hc
    subst this
    exact .cons _ _ (textsOfSigns (by simpa using hlen) fun j v hv => by
      obtain ⟨c', u, hc, e⟩ := hP (j + 1) v (by simpa using hv)
      exact ⟨c', u, by simpa using hc, e⟩)
section
variable {prog : Program} {w : World} {M : Model} {A : Around} {E : Value → Shared → Prop} {s₀ s s' : Shared} {L : Addr} {m : Str → Option Value} {os : List (Addr × Obj)} {env : Env} {Q : Value → Shared → Prop}
/-- [elt for x in a text] -/
theorem compS {elt iter : PySem.Expr} {x : Str} {px : Pos} {scope : Scope} {cl : List (Str × Addr)} {pos : Pos} (G : Value → Value → Prop) (hh : A.handled = none)
    (hclos : closureFor scope env = pure cl)
    (h : wpAny (model prog w) A (eval iter env) (fun xv s₁ => ∃ (l : List Nat) (t : Tok), xv = .str (S l) t ∧ (∀ c ∈ l, c < 128) ∧ l.length ≤ 1000 ∧ Quiet prog w A env scope cl x [] elt (fun v => ∃ c t, v = .str (S [c]) t) (fun _ => true) G s₁ ∧
      ∀ D vs ys n s', TextsAre vs (l.map fun c => [c]) → Paired G vs ys → Keeps s₁ s' → s₁.heap.get? D = none → s'.heap.get? D = some (listO ys n) → Q (.ref D) s') E s)
    (hcell : ∀ y ∈ scope.names, y.2 ≠ .cell := by with_unfolding_all decide) (hkind : scope.kind = .function := by with_unfolding_all rfl)
    (hnames : ∀ y ∈ scope.names, y.2 = .local → scope.names.lookup y.1 = some .local := by with_unfolding_all decide) (hx : scope.names.lookup x = some .local := by with_unfolding_all rfl)
    (hs : ∀ x, foldedSetIterable iter env x = pure x := by intro _; with_unfolding_all rfl) :
    wpAny (model prog w) A (eval (.ListComp elt [⟨.Name x px, iter, [], 0⟩] scope pos) env) Q E s := by
  refine wpAny_ListComp_free (fun _ => true) G hclos hcell hkind hnames hx (wpAny_mono h (fun xv s₁ h₁ => ?_) fun _ _ e => e) hs
  obtain ⟨l, t, rfl, ha, hz, hq, hQ⟩ := h₁
  have hasc : (S l).cps.all (· < 128) = true := by
    simp only [S, List.all_toArray, List.all_eq_true, decide_eq_true_eq]; exact ha
  refine wpAny_pyIter_ascii hasc ?_
  have up : ∀ {h' : Heap}, (∀ b o, b ∉ [s₁.heap.objs.size] → (s₁.heap.push { cls := .type "str_ascii_iterator", data := .fields #[.str (S l) t, .int 0 0] }).get? b = some o → h'.get? b = some o) → Kp s₁.heap h' := fun k b o e =>
    k b o (fun hm => Nat.ne_of_lt (Heap.lt_size e) (List.mem_singleton.mp hm)) (Heap.get?_push_of_some _ e)
  refine ⟨_, _, _, _, _, _, rfl, Walks.strAscii hh s₁.heap.objs.size (S l) t, by show l.toArray.size ≤ _; rw [List.size_toArray, sizeLine_eq]; omega, ⟨_, Heap.get?_push_size _ rfl, rfl, rfl⟩, ?_, ⟨?_, ?_⟩, ?_⟩
  · intro b hb
    show b < (s₁.heap.push _).objs.size
    rw [Heap.size_push, List.mem_singleton.mp hb]
    exact Nat.lt_succ_self _
  · intro C i v s₃ m₃ E' hC hP hn hm hk htk
    obtain ⟨c, u, _, rfl⟩ := hP
    exact hq.test C _ s₃ m₃ E' ⟨c, u, rfl⟩ hn hm (up hk)
  · intro C i v s₃ m₃ E' hC hP hp hn hm hk htk
    obtain ⟨c, u, _, rfl⟩ := hP
    exact hq.elt C _ s₃ m₃ E' ⟨c, u, rfl⟩ hp hn hm (up hk)
  · intro D h' tk ys vs hD _ hpl hlen hP hF hk
    obtain ⟨n, hD'⟩ := hpl
    have hD1 : s₁.heap.get? D = none := by
      cases e : s₁.heap.get? D with
      | none => rfl
      | some o => have := Heap.get?_push_of_some { cls := .type "str_ascii_iterator", data := .fields #[.str (S l) t, .int 0 0] } e; rw [this] at hD; cases hD
    rw [filter_tt] at hF
    have hvs : TextsAre vs (l.map fun c => [c]) := by
      have hlen : vs.length = l.length := by rw [hlen]; show l.toArray.size = _; rw [List.size_toArray]
      have hP : ∀ (j : Nat) (v : Value), vs[j]? = some v → ∃ c u, l[j]? = some c ∧ v = .str (S [c]) u := by
        intro j v hv
        obtain ⟨c, u, hc, rfl⟩ := hP j v hv
        refine ⟨c, u, ?_, rfl⟩
        have : l.toArray[j]? = some c := hc
        simpa using this
      exact textsOfSigns hlen hP
    refine hQ D vs ys.toList n _ hvs hF ⟨h', tk, rfl, up hk⟩ hD1 ?_
    show h'.get? D = _
    rw [hD']
end
end
end Mine
set_option maxHeartbeats 400000
set_option linter.unusedVariables false
namespace Mine
noncomputable section
theorem ints_of_mem {vs : List Value} {ns : List Int} (h : IntsAre vs ns) {v : Value} (hv : v ∈ vs) : ∃ n t, v = .int n t := by
  induction h with
  | nil => cases hv
  | cons n t _ ih =>
    rcases List.mem_cons.mp hv with rfl | hv
    · exact ⟨n, t, rfl⟩
    · exact ih hv
theorem ints_ex : ∀ (vs : List Value), (∀ v ∈ vs, ∃ n t, v = .int n t) → ∃ ns, IntsAre vs ns
  | [], _ => ⟨[], .nil⟩
  | v :: r, h => by
    obtain ⟨n, t, rfl⟩ := h v (List.mem_cons_self ..)
    obtain ⟨ns, hn⟩ := ints_ex r fun x hx => h x (List.mem_cons_of_mem _ hx)
    exact ⟨_, .cons n t hn⟩
theorem pick_ints {vs : List Value} {ns : List Int} (h : IntsAre vs ns) (lo : Int) (h0 : 0 ≤ lo) : ∃ ks, IntsAre (slicePick vs.toArray (some lo) (some 8) (some 2)).toList ks ∧ (slicePick vs.toArray (some lo) (some 8) (some 2)).toList.length ≤ 8 := by
  have hm : ∀ v ∈ (slicePick vs.toArray (some lo) (some 8) (some 2)).toList, ∃ n t, v = .int n t := by
    intro v hv
    unfold slicePick at hv
    simp only at hv
    obtain ⟨i, _, hi⟩ := List.mem_filterMap.mp hv
    exact ints_of_mem h (by rw [List.getElem?_toArray] at hi; exact List.mem_of_getElem? hi)
  obtain ⟨ks, hk⟩ := ints_ex _ hm
  refine ⟨ks, hk, ?_⟩
  unfold slicePick
  simp only
  refine Nat.le_trans (List.length_filterMap_le _ _) ?_
  unfold sliceRange sliceBounds
  have hlo : ¬ lo < 0 := by omega
  simp only [Option.getD_some, show (2 : Int) > 0 by decide, if_true, List.length_map, List.length_range, show ¬ (8 : Int) < 0 by decide, if_false, hlo]
  generalize (vs.toArray.size : Int) = n
  split <;> omega
section
variable {prog : Program} {w : World} {M : Model} {A : Around} {E : Value → Shared → Prop} {s₀ s s' : Shared} {L : Addr} {m : Str → Option Value} {os : List (Addr × Obj)} {env : Env} {Q : Value → Shared → Prop} {t u : Tok}
/-- xs[a:8:2] -/
theorem slice3 {value lo hi st : PySem.Expr} {p pos : Pos}
    (h : wpAny (model prog w) A (eval value env) (fun o s₁ => wpAny (model prog w) A (eval lo env) (fun vl s₂ => wpAny (model prog w) A (eval hi env) (fun vu s₃ => wpAny (model prog w) A (eval st env) (fun vs s₄ =>
      ∃ l, ∃ xs : List Value, ∃ (ns : List Int) (k : Int) (t t1 t2 : Tok), o = .ref l ∧ s₄.heap.IsList l xs.toArray ∧ IntsAre xs ns ∧ xs.length ≤ 1000 ∧ vl = .int k t ∧ 0 ≤ k ∧ vu = .int 8 t1 ∧ vs = .int 2 t2 ∧
        ∀ D ys ks s', IntsAre ys ks → ys.length ≤ 8 → Keeps s₄ s' → s₄.heap.get? D = none → s'.heap.get? D = some (listO ys) → Q (.ref D) s') E s₃) E s₂) E s₁) E s)
    (ht : ∀ o r, letTemporaryGo value o r = pure () := by intro _ _; with_unfolding_all rfl) :
    wpAny (model prog w) A (eval (.Subscript value (.Slice (some lo) (some hi) (some st) p) pos) env) Q E s := by
  refine wpAny_Subscript_Slice_step (T := "list") list_getitem_lookup (wpAny_mono h (fun o s₁ h₁ => wpAny_Slice (wpAny_mono h₁ (fun vl s₂ h₂ => wpAny_mono h₂ (fun vu s₃ h₃ => wpAny_mono h₃ (fun vs s₄ h₄ => ?_) fun _ _ e => e) fun _ _ e => e) fun _ _ e => e)) fun _ _ e => e) ht
  obtain ⟨l, xs, ns, k, t, t1, t2, rfl, hl, hi, hz, rfl, hk, rfl, rfl, hQ⟩ := h₄
  obtain ⟨ks, hks, hlen⟩ := pick_ints hi k hk
  refine ⟨(hl.push _).typeIs, wpAny_getItem_list_slice (hl.push _) (Heap.IsSliceOf.new ..) (.int _ _) (.int _ _) (.int _ _) (by simp) ?_ (by rw [List.size_toArray, sizeLine_eq]; omega)⟩
  refine hQ _ (slicePick xs.toArray (some k) (some 8) (some 2)).toList ks _ hks hlen ⟨_, s₄.toks, rfl, fun b o e => Heap.get?_push_of_some _ (Heap.get?_push_of_some _ e)⟩ ?_ ?_
  · exact Heap.get?_none_of_le (by rw [Heap.size_push]; exact Nat.le_succ _)
  · have := Heap.get?_push_size (s₄.heap.push { cls := .type "slice", data := .fields #[.int k t, .int 8 t1, .int 2 t2] }) (o := { cls := .type "list", data := .seq (slicePick xs.toArray (some k) (some 8) (some 2)) }) rfl
    simpa [listO] using this
/-- xs + ys -/
theorem lAdd {l b : Addr} {vs ws : List Value} {n n2 : Nat} (F : Fm s₀ L m os s) (hl : s.heap.get? l = some (listO vs n)) (hb : s.heap.get? b = some (listO ws n2)) (hz : vs.length + ws.length ≤ 1000) (h : ∀ D s', Fm s₀ L m ((D, listO (vs ++ ws)) :: os) s' → Q (.ref D) s') :
    wpAny (model prog w) A (binaryOp .Add (.ref l) (.ref b)) Q E s := by
  refine P.add_list hl hb ?_ (by rw [List.size_toArray, List.size_toArray, sizeLine_eq]; omega)
  have := h _ _ (F.push (listO (vs ++ ws)))
  simpa [listO] using this
/-- cells -/
theorem cellSt {x : Str} {c : Addr} {o : Obj} {v₀ : Option Value} {v : Value} {Q : Unit → Shared → Prop} (F : Fm s₀ L m ((c, o) :: os) s) (ho : o.data = .cell v₀) (hc : env.cells.lookup x = some c)
    (h : ∀ o' s', o'.data = .cell (some v) → Fm s₀ L m ((c, o') :: os) s' → Q () s')
    (hk : env.scope.kind = .function := by with_unfolding_all rfl) (hl : env.kindOf x = some .cell := by with_unfolding_all rfl) : wpAny M A (storeName env x v) Q E s := by
  refine wpAny_storeName_cell hk hl hc ⟨o, F.hd, ho⟩ fun h' hcell hs => ?_
  obtain ⟨o', ho', hd'⟩ := hcell
  exact h o' _ hd' (F.upd (tk := s.toks) ho' hs)
theorem cellLd {x : Str} {pos : Pos} {c : Addr} {o : Obj} {v : Value} (ho : s.heap.get? c = some o) (hd' : o.data = .cell (some v)) (hc : env.cells.lookup x = some c) (h : Q v s)
    (hk : env.scope.kind = .function := by with_unfolding_all rfl) (hl : env.kindOf x = some .cell := by with_unfolding_all rfl) (hd : (x == ("__debug__" : Str)) = false := by with_unfolding_all rfl) : wpAny M A (eval (.Name x pos) env) Q E s :=
  wpAny_Name (wpAny_loadName_cell hk hl hc ⟨o, ho, hd'⟩ h) hd
theorem tupItem {value slice : PySem.Expr} {T : Addr} {a b : Value} {u : Tok} (hT : s.heap.get? T = some (tupO [a, b])) (h : Q b s)
    (hs : subscripted slice false (.ref T) (.int 1 u) = operate [.ref T, .int 1 u] (getItem (.ref T) (.int 1 u)) := by with_unfolding_all rfl) :
    wpAny (model prog w) A (subscriptTail value slice (.ref T) (.int 1 u)) Q E s := by
  have ht : IsTup s.heap T #[a, b] := ⟨_, hT, rfl, 0, rfl⟩
  have hty : s.TypeIs (.ref T) "tuple" := ⟨_, hT, rfl⟩
  exact tail_any hty PySem.F.slot_tuple_getitem.lookup (PyProof.Rows.getItem_tuple (j := 1) ht (by decide) (by decide) rfl rfl h) hs
theorem shaped_two {a b : Txs} (h1 : Small a) (h2 : Small b) : SeqAt.shaped (.tuple [.list ((a.map S).map PyData.str), .list ((b.map S).map PyData.str)]) = true := by
  have e1 := shaped_texts h1
  have e2 := shaped_texts h2
  simp only [SeqAt.shaped, PyData.canLay0, PyData.depth, Bool.and_eq_true, decide_eq_true_eq, canLayAll_strs', depthAll_strs'] at e1 e2 ⊢
  simp only [PyData.canLayAll0, PyData.depthAll, PyData.canLay0, PyData.depth, Bool.and_eq_true, canLayAll_strs', depthAll_strs']
  refine ⟨⟨e1.1, e2.1, trivial⟩, ?_⟩
  rw [decide_eq_true_eq]
  decide
/-- (xs, ys) != (us, vs) -/
theorem tupNe {T T' a b c d : Addr} {xa xb xc xd : List Value} {na nb nc nd : Nat} {la lb lc ld : Txs} (hT : s.heap.get? T = some (tupO [.ref a, .ref b])) (hT' : s.heap.get? T' = some (tupO [.ref c, .ref d]))
    (ha : s.heap.get? a = some (listO xa na)) (hb : s.heap.get? b = some (listO xb nb)) (hc : s.heap.get? c = some (listO xc nc)) (hd : s.heap.get? d = some (listO xd nd))
    (ia : TextsAre xa la) (ib : TextsAre xb lb) (ic : TextsAre xc lc) (id' : TextsAre xd ld) (sa : Small la) (sb : Small lb) (sc : Small lc) (sd : Small ld) (hu : A.units + 64 < cLine)
    (h : Q (.bool (!(decide (la = lc) && decide (lb = ld)))) s) : wpAny (model prog w) A (compareOp .NotEq (.ref T) (.ref T')) Q E s := by
  have r1 : Reads s.heap (.ref T) (.tuple [.list ((la.map S).map PyData.str), .list ((lb.map S).map PyData.str)]) _ := .tuple hT rfl rfl (.cons (reads_newData (isList_of ha) ia.carried) (.cons (reads_newData (isList_of hb) ib.carried) .nil))
  have r2 : Reads s.heap (.ref T') (.tuple [.list ((lc.map S).map PyData.str), .list ((ld.map S).map PyData.str)]) _ := .tuple hT' rfl rfl (.cons (reads_newData (isList_of hc) ic.carried) (.cons (reads_newData (isList_of hd) id'.carried) .nil))
  refine ne_dataH_same r1 r2 (shaped_two sa sb) (shaped_two sc sd) hu ?_ ?_
  · refine SeqAt.noMix_of_shape (.tuples (.list .str)) rfl _ _ ?_ ?_
    · exact tuples_has fun x hx => by
        simp only [List.mem_cons, List.not_mem_nil, or_false] at hx
        rcases hx with rfl | rfl <;> exact list_map_has fun _ => rfl
    · exact tuples_has fun x hx => by
        simp only [List.mem_cons, List.not_mem_nil, or_false] at hx
        rcases hx with rfl | rfl <;> exact list_map_has fun _ => rfl
  · have e : PySem.Spec.same (.tuple [.list ((la.map S).map PyData.str), .list ((lb.map S).map PyData.str)]) (.tuple [.list ((lc.map S).map PyData.str), .list ((ld.map S).map PyData.str)]) = (decide (la = lc) && decide (lb = ld)) := by
      simp only [PySem.Spec.same, PySem.Spec.sameAll, same_texts, Bool.and_true]
    rw [e]; exact h
end
end
end Mine
set_option maxHeartbeats 1000000
set_option linter.unusedVariables false
namespace Mine
noncomputable section
theorem callCells {w : World} {prog : Program} {A : Around} {s : Shared} {Q E : Value → Shared → Prop} {f : Addr} {vals : List Value} {fd : FuncData} {o : Obj} {body : List Stmt} {binds : List (Str × Value)} {x1 x2 : Str}
    (g : Gw w s.heap) (ho : (KP w).lookup f = some o) (hdata : o.data = .func fd) (hcd : codeIn (KP w) fd.code fd.qualname = true) (hbody : fd.body = .stmts body)
    (hroom : A.depth < recursionLimit) (hbind : bindArgs fd ⟨vals, []⟩ = pure binds) (hclo : fd.closure = []) (hloc : ∀ x ∈ binds, fd.scope.names.lookup x.1 = some .local)
    (hc1 : (cellsFrom (s.heap.objs.size + 1) fd.scope.names []).lookup x1 = some (s.heap.objs.size + 1)) (hc2 : (cellsFrom (s.heap.objs.size + 1) fd.scope.names []).lookup x2 = some (s.heap.objs.size + 1 + 1))
    (hb1 : bindC (callEnvC fd s.heap.objs.size f).kindOf binds (fun _ => none) x1 = none) (hb2 : bindC (callEnvC fd s.heap.objs.size f).kindOf binds (fun _ => none) x2 = none)
    (h : ∀ A' s₁ o1 o2, A' = A.deeper (callEnvC fd s.heap.objs.size f) → A'.handled = A.handled → A'.depth = A.depth + 1 → A'.units = A.units + 3 → o1.data = .cell none → o2.data = .cell none →
      Fm s s.heap.objs.size (bindL (callEnvC fd s.heap.objs.size f).kindOf binds fun _ => none) [(s.heap.objs.size + 1, o1), (s.heap.objs.size + 1 + 1, o2)] s₁ →
      wpAny (model prog w) A' (execs body (callEnvC fd s.heap.objs.size f)) (fun fl s' => Q (match fl with | .ret v => v | _ => .none) s') (fun _ _ => False) s₁)
    (hco : fd.scope.isCoroutine = false := by with_unfolding_all rfl) (hgen : fd.scope.isGenerator = false := by with_unfolding_all rfl) (hk : fd.scope.kind = .function := by with_unfolding_all rfl) :
    wpAny (model prog w) A (call (.ref f) vals) Q E s := by
  refine wpAny_call (codeAny_call_cells hroom (g.K _ _ ho) hdata g.lim (codeRec_of g.K hcd) hbody hbind hclo (fun x hx => .inl (hloc x hx)) (fun s₁ X => ?_) hco hgen hk)
  obtain ⟨o1, g1, d1⟩ := X.cell x1 _ hc1
  obtain ⟨o2, g2, d2⟩ := X.cell x2 _ hc2
  rw [hb1] at d1
  rw [hb2] at d2
  have F0 : Fm s s.heap.objs.size (bindL (callEnvC fd s.heap.objs.size f).kindOf binds fun _ => none) [] s₁ := by
    obtain ⟨h', tk, e⟩ := X.toInCall.same
    refine ⟨⟨h', tk, e, fun b o eb => ?_⟩, X.toInCall.ns, Nat.le_refl _, (fun p hp => by cases hp), List.nodup_nil⟩
    have := X.toInCall.keep b o eb
    rw [e] at this; exact this
  have n1 : s.heap.get? (s.heap.objs.size + 1) = none := Heap.get?_none_of_le (Nat.le_succ _)
  have n2 : s.heap.get? (s.heap.objs.size + 1 + 1) = none := Heap.get?_none_of_le (Nat.le_add_right _ 2)
  have F2 := F0.add g2 n2 (Nat.ne_of_gt (Nat.lt_of_lt_of_le (Nat.lt_succ_self _) (Nat.le_succ _))) (by simp)
  have F1 := F2.add g1 n1 (Nat.succ_ne_self _) (by simp)
  exact wpAny_mono (h _ _ o1 o2 rfl rfl rfl rfl d1 d2 F1) (fun fl s' q => q) fun _ _ q => q.elim
theorem smallW {ps : List Int} (h : ∀ p ∈ ps, InP p) : Small (ps.map wI) := by
  intro l hl
  obtain ⟨p, hp, rfl⟩ := List.mem_map.mp hl
  have := h p hp
  unfold InP at this
  exact word_small _ (by omega)
theorem oneOrd {prog : Program} {w : World} {A : Around} {s : Shared} {Q E : Value → Shared → Prop} {c : Nat} {t : Tok} (h : Q (.int (c : Nat) s.toks) { s with toks := s.toks + 1 }) : wpAny (model prog w) A (call (.builtin "ord") [.str (S [c]) t]) Q E s := P.ord_of_char h
theorem ints_mem {vs : List Value} {ns : List Int} (h : IntsAre vs ns) {v : Value} (hv : v ∈ vs) : ∃ n t, v = .int n t ∧ n ∈ ns := by
  induction h with
  | nil => cases hv
  | cons n t _ ih =>
    rcases List.mem_cons.mp hv with rfl | hv
    · exact ⟨n, t, rfl, List.mem_cons_self ..⟩
    · obtain ⟨a, b, e, h⟩ := ih hv
      exact ⟨a, b, e, List.mem_cons_of_mem _ h⟩
def dI (p : Int) : List Nat := wordHead ++ signsOf p.toNat ++ [63]
theorem sAddK {prog : Program} {w : World} {A : Around} {s : Shared} {Q E : Value → Shared → Prop} {a b : List Nat} {t u : Tok} (hz : a.length + b.length ≤ 100000) (h : ∀ t k, Q (.str (S (a ++ b)) t) { s with toks := k }) : wpAny (model prog w) A (binaryOp .Add (.str (S a) t) (.str (S b) u)) Q E s :=
  PyProof.Rows.add_str (fun t' tk => by rw [S_append]; exact h _ _) (by rw [S_length, S_length, sizeLine_eq]; omega)
theorem cTK {M : Model} {A : Around} {s : Shared} {Q E : Value → Shared → Prop} {env : Env} {i : Str} {l : List Nat} {k : Nat} {pos : Pos} (e : i = S l) (h : ∀ t tk, Q (.str (S l) t) { s with toks := tk }) : wpAny M A (eval (.Constant (.str i) k pos) env) Q E s := by
  subst e; exact wpAny_Constant_str (h _ _)
theorem dI_small {p : Int} (hp : InP p) : ∀ c ∈ dI p, c < 0x110000 := by
  unfold InP at hp
  intro c hc
  unfold dI at hc
  rw [← dec_word] at hc
  rcases List.mem_cons.mp hc with rfl | hc
  · decide
  · have := dec_range (atoms_ok (p := p.toNat) (by omega)) c hc; omega
theorem smallD {ps : List Int} (h : ∀ p ∈ ps, InP p) : Small (ps.map dI) := by
  intro l hl
  obtain ⟨p, hp, rfl⟩ := List.mem_map.mp hl
  exact dI_small (h p hp)
theorem texts_mem {f : Int → List Nat} : ∀ {vs : List Value} {ps : List Int}, TextsAre vs (ps.map f) → ∀ {v : Value}, v ∈ vs → ∃ p t, v = .str (S (f p)) t ∧ p ∈ ps
  | [], _, _, v, hv => by cases hv
  | a :: r, [], h, v, hv => by unfold TextsAre at h; cases h
  | a :: r, p :: ps, h, v, hv => by
    unfold TextsAre at h
    rw [List.map_cons, List.map_cons] at h
    cases h with
    | cons x t h =>
      rcases List.mem_cons.mp hv with rfl | hv
      · exact ⟨p, t, rfl, List.mem_cons_self ..⟩
      · obtain ⟨q, u, e, hq⟩ := texts_mem h hv
        exact ⟨q, u, e, List.mem_cons_of_mem _ hq⟩
theorem lenF {r a : List Int} : (a.filter (notIn r)).length ≤ a.length := List.length_filter_le _ _
def M17 (k : Int) : Prop := 0 ≤ k ∧ k < 131072
theorem placeIn (k : Int) (h : 0 ≤ k) : InP (placeI k) := by
  obtain ⟨n, rfl⟩ := Int.eq_ofNat_of_zero_le h
  have := placeN_lt n
  have e := placeI_nat n
  unfold InP
  show 0 ≤ placeI (n : Int) ∧ placeI (n : Int) < 32768
  rw [e]; omega
theorem signs_of_mode (k : Int) (h : 0 ≤ k) : fmSigns k 10 = signsOf (placeI k).toNat := by
  obtain ⟨n, rfl⟩ := Int.eq_ofNat_of_zero_le h
  show fmSigns (n : Int) 10 = signsOf (placeI (n : Int)).toNat
  rw [placeI_nat n, Int.toNat_natCast]
  exact filemode_signs n
variable {w : World} {A : Around} {s : Shared} {Q E : Value → Shared → Prop}
theorem law_spec {l0 : Addr} {vs0 : List Value} {ns0 : List Int} (hl0 : s.heap.IsList l0 vs0.toArray) (hi0 : IntsAre vs0 ns0) (hz0 : vs0.length ≤ 1000)
    (g : Gw w s.heap) (hr : A.depth + 4 < recursionLimit) (hh : A.handled = none) (hfr : A.frames = some []) (hu : A.units + 200 < cLine) (h : ∀ s', Keeps s s' → Q (.bool true) s') :
    wpAny (model pr w) A (call (.ref 159) [.ref l0]) Q E s := by
  with_reducible refine callCells (x1 := "left_places") (x2 := "right_places") (binds := [(Str.ofString "script", .ref l0)]) g (by with_unfolding_all rfl) (by with_unfolding_all rfl) (by with_unfolding_all rfl) (by with_unfolding_all rfl) (by omega) (by with_unfolding_all rfl) (by with_unfolding_all rfl) (locs (by with_unfolding_all rfl)) (by with_unfolding_all rfl) (by with_unfolding_all rfl) (by with_unfolding_all rfl) (by with_unfolding_all rfl) ?_
  intro A s₁ o1 o2 hA hA1 hA2 hA3 hd1 hd2 F
  have hh := hA1.trans hh
  have hfr := (congrArg Around.frames hA).trans (Around.frames_deeper hfr)
  have hm131 : ∀ n : Int, M17 (n.fmod 131072) := fun n => fmod_bounds n (by decide)
  with_reducible refine compA (P := fun v => ∃ n t, v = .int n t) (fun _ => true) (GI fun n => n.fmod 131072) hh (cl := []) (by with_unfolding_all rfl) ?_
  with_reducible refine slice3 ?_
  with_reducible refine nmL F (by with_unfolding_all rfl) ?_
  with_reducible refine cI F ?_
  intro _ s₁ F
  with_reducible refine cI F ?_
  intro _ s₁ F
  with_reducible refine cI F ?_
  intro _ s₁ F
  refine ⟨l0, vs0, ns0, 0, _, _, _, rfl, hl0.at fun o e => kkp F.keeps _ o e, hi0, hz0, rfl, by decide, rfl, rfl, ?_⟩
  intro D ys ks s₂ hks hlen k2 hD hD'
  refine ⟨D, ys, _, _, _, rfl, isList_of hD', by omega, fun v hv => ints_of_mem hks hv, Quiet.noTest ?_, F.kept k2, ?_⟩
  · rintro C v s₃ m₃ E' ⟨n, t, rfl⟩ hn hm hk
    with_reducible refine binO ?_
    with_reducible refine nmN hn hm ?_
    with_reducible refine wpAny_Constant_int ?_
    with_reducible refine mod_int' (by decide) ?_
    exact ⟨fun n' t' e => by cases e; exact ⟨_, rfl⟩, _, _, rfl, fun _ _ e => e⟩
  intro lL vL nL s₃ hpL F
  rw [filter_tt] at hpL
  have iL := pairI hks hpL
  have lkL : (ks.map fun n : Int => n.fmod 131072).length ≤ 8 := by rw [List.length_map, ← hks.length]; exact hlen
  have hML : ∀ n ∈ ks.map (fun n : Int => n.fmod 131072), M17 n := by
    intro n hn
    obtain ⟨k, _, rfl⟩ := List.mem_map.mp hn
    exact hm131 k
  generalize (ks.map fun n : Int => n.fmod 131072) = kL at iL lkL hML
  have vlL : vL.length ≤ 8 := by rw [iL.length]; exact lkL
  clear hks hpL hlen hD hD' k2
  have F := F.unrot3
  with_reducible refine asgN ?_
  with_reducible refine binO ?_
  with_reducible refine dispI (ns := [33261]) F (by with_unfolding_all repeat constructor) (by decide) ?_
  intro l1 vs1 s₁ hv1 F
  have F := F.unrot3
  with_reducible refine compL (P := fun v => ∃ n t, v = .int n t) (fun _ => true) (GI fun n => n.fmod 131072) hh (cl := []) (by with_unfolding_all rfl) ?_
  with_reducible refine slice3 ?_
  with_reducible refine nmL F (by with_unfolding_all rfl) ?_
  with_reducible refine cI F ?_
  intro _ s₁ F
  with_reducible refine cI F ?_
  intro _ s₁ F
  with_reducible refine cI F ?_
  intro _ s₁ F
  refine ⟨l0, vs0, ns0, 1, _, _, _, rfl, hl0.at fun o e => kkp F.keeps _ o e, hi0, hz0, rfl, by decide, rfl, rfl, ?_⟩
  intro D ys ks s₂ hks hlen k2 hD hD'
  have F := F.kept k2
  refine ⟨D, ys, rfl, isList_of hD', by omega, fun v hv => ints_of_mem hks hv, Quiet.noTest ?_, ?_⟩
  · rintro C v s₃ m₃ E' ⟨n, t, rfl⟩ hn hm hk
    with_reducible refine binO ?_
    with_reducible refine nmN hn hm ?_
    with_reducible refine wpAny_Constant_int ?_
    with_reducible refine mod_int' (by decide) ?_
    exact ⟨fun n' t' e => by cases e; exact ⟨_, rfl⟩, _, _, rfl, fun _ _ e => e⟩
  intro D2 ys2 n2 s₂ hp k3 hD2 hD2'
  rw [filter_tt] at hp
  have iR := hv1.append (pairI hks hp)
  have F := (F.got k3 hD2 hD2').unrot3
  have lkR : ([33261] ++ ks.map fun n : Int => n.fmod 131072).length ≤ 9 := by rw [List.length_append, List.length_map, ← hks.length]; simp; omega
  have hMR : ∀ n ∈ [33261] ++ ks.map (fun n : Int => n.fmod 131072), M17 n := by
    intro n hn
    rcases List.mem_append.mp hn with hn | hn
    · rw [List.mem_singleton.mp hn]; exact ⟨by decide, by decide⟩
    · obtain ⟨k, _, rfl⟩ := List.mem_map.mp hn
      exact hm131 k
  generalize ([33261] ++ ks.map fun n : Int => n.fmod 131072) = kR at iR lkR hMR
  have vlR : (vs1 ++ ys2).length ≤ 9 := by rw [iR.length]; exact lkR
  with_reducible refine lAdd F F.rot4.hd F.rot3.hd (by rw [← List.length_append]; omega) ?_
  intro lR s₁ F
  generalize vs1 ++ ys2 = vR at iR vlR F
  with_reducible refine stL F ?_
  intro s₁ F
  have F := F.unrot3.sub (os' := [(s.heap.objs.size + 1, o1), (s.heap.objs.size + 1 + 1, o2), (lR, listO vR), (lL, listO vL nL)]) (List.Sublist.cons_cons _ (List.Sublist.cons_cons _ (List.Sublist.cons_cons _ (List.Sublist.cons _ (List.Sublist.cons _ (List.Sublist.refl _))))))
  clear hks hp hlen hD hD' k2 hD2 hD2' k3 hv1
  have hPL : ∀ p ∈ kL.map placeI, InP p := fun p hp => by obtain ⟨k, hk, rfl⟩ := List.mem_map.mp hp; exact placeIn k (hML k hk).1
  have hPR : ∀ p ∈ kR.map placeI, InP p := fun p hp => by obtain ⟨k, hk, rfl⟩ := List.mem_map.mp hp; exact placeIn k (hMR k hk).1
  with_reducible refine asgN ?_
  with_reducible refine callK1 (F.gw g) (by with_unfolding_all rfl) (by with_unfolding_all rfl) (by with_unfolding_all rfl) ?_
  with_reducible refine compL (P := fun v => ∃ n t, v = .int n t ∧ M17 n) (fun _ => true) (GT fun m => wI (placeI m)) hh (cl := []) (by with_unfolding_all rfl) ?_
  with_reducible refine nmL F (by with_unfolding_all rfl) ?_
  refine ⟨lL, vL, rfl, isList_of (F.get (a := lL) (o := listO vL nL) (by simp)), by omega, fun v hv => by obtain ⟨n, t, e, hm⟩ := ints_mem iL hv; exact ⟨n, t, e, hML n hm⟩, Quiet.noTest ?_, ?_⟩
  · rintro C v s₃ m₃ E' ⟨n, t, rfl, hM⟩ hn hm hk
    have g₃ : Gw w s₃.heap := (F.gw g).keeps hk
    have hsg := signs_of_mode n hM.1
    have hin := placeIn n hM.1
    have hin' : (placeI n).toNat < 32768 := by unfold InP at hin; omega
    have hal : ∀ c ∈ fmSigns n 10, c ∈ alpha := by rw [hsg]; exact signsOf_in hin'
    have h10 : (fmSigns n 10).length = 10 := by rw [hsg, signsOf_length]
    with_reducible refine callK1 g₃ (by with_unfolding_all rfl) (by with_unfolding_all rfl) (by with_unfolding_all rfl) ?_
    with_reducible refine callT1 g₃ (by with_unfolding_all rfl) boot_bytes ?_
    with_reducible refine compS GO hh (cl := []) (by with_unfolding_all rfl) ?_
    with_reducible refine callK1 g₃ (by with_unfolding_all rfl) (by with_unfolding_all rfl) (by with_unfolding_all rfl) ?_
    with_reducible refine nmN hn hm ?_
    refine ⟨g₃, ?_⟩
    with_reducible refine filemode_spec g₃ (by omega) hh ?_
    intro s₄ t4 k4
    have g₄ := g₃.keeps (kkp k4)
    refine ⟨fmSigns n 10, t4, rfl, fun c hc => alpha_lt (hal c hc), by omega, Quiet.noTest ?_, ?_⟩
    · rintro C' v s₅ m₅ E'' ⟨c, tc, rfl⟩ hn5 hm5 hk5
      with_reducible refine callB1 (g₄.keeps hk5) (by with_unfolding_all rfl) boot_ord ?_
      with_reducible refine nmN hn5 hm5 ?_
      with_reducible refine oneOrd ?_
      refine ⟨fun c' t' e => ?_, _, _, rfl, fun _ _ e => e⟩
      have e1 : S [c] = S [c'] := by injection e
      have e2 := S_inj e1
      have e3 : c = c' := by simpa using e2
      exact ⟨_, by rw [e3]⟩
    intro D vs ys n6 s₆ hvs hp k6 hD hD'
    have hio := pairO hvs hp
    with_reducible refine call_bytes_ints (isList_of hD') hio ?_ ?_ hh ?_
    · intro k hk
      obtain ⟨c, hc, rfl⟩ := List.mem_map.mp hk
      have := alpha_lt (hal c hc)
      omega
    · rw [hio.length, List.length_map, sizeLine_eq]; omega
    intro h' t7 tk7 hk7
    have k7 : Keeps s₆ { s₆ with heap := h', toks := tk7 } := ⟨h', tk7, rfl, hk7⟩
    have g₇ : Gw w h' := (g₄.keeps (kkp k6)).keeps hk7
    refine ⟨g₇, ?_⟩
    with_reducible refine header_spec hal h10 g₇ (by omega) ?_
    intro s₈ t8 k8
    refine ⟨fun n' t' e => ?_, ktrans k4 (ktrans k6 (ktrans k7 k8))⟩
    cases e
    refine ⟨t8, ?_⟩
    rw [hsg]
    rfl
  intro D ys nn s₂ hp k hD hD'
  rw [filter_tt] at hp
  have hw := pairT iL hp
  have F := F.kept k
  refine ⟨F.gw g, ?_⟩
  have hmapw : (kL.map fun m => wI (placeI m)) = (kL.map placeI).map wI := by rw [List.map_map]; rfl
  rw [hmapw] at hw
  with_reducible refine onceT_spec (isList_of hD') hw (smallW hPL) (by rw [hw.length, List.length_map, List.length_map, List.length_map]; omega) (F.gw g) (by omega) hh (by omega) ?_
  intro s₃ lWL vWL wsL nWL k3 pwL swL hlW hlWn iWL
  have F := (F.got k3 hlWn hlW).unrot3
  with_reducible refine stL F ?_
  intro s₁ F
  with_reducible refine asgN ?_
  with_reducible refine callK1 (F.gw g) (by with_unfolding_all rfl) (by with_unfolding_all rfl) (by with_unfolding_all rfl) ?_
  with_reducible refine compL (P := fun v => ∃ n t, v = .int n t ∧ M17 n) (fun _ => true) (GT fun m => wI (placeI m)) hh (cl := []) (by with_unfolding_all rfl) ?_
  with_reducible refine nmL F (by with_unfolding_all rfl) ?_
  refine ⟨lR, vR, rfl, isList_of (F.get (a := lR) (o := listO vR) (by simp)), by omega, fun v hv => by obtain ⟨n, t, e, hm⟩ := ints_mem iR hv; exact ⟨n, t, e, hMR n hm⟩, Quiet.noTest ?_, ?_⟩
  · rintro C v s₃ m₃ E' ⟨n, t, rfl, hM⟩ hn hm hk
    have g₃ : Gw w s₃.heap := (F.gw g).keeps hk
    have hsg := signs_of_mode n hM.1
    have hin := placeIn n hM.1
    have hin' : (placeI n).toNat < 32768 := by unfold InP at hin; omega
    have hal : ∀ c ∈ fmSigns n 10, c ∈ alpha := by rw [hsg]; exact signsOf_in hin'
    have h10 : (fmSigns n 10).length = 10 := by rw [hsg, signsOf_length]
    with_reducible refine callK1 g₃ (by with_unfolding_all rfl) (by with_unfolding_all rfl) (by with_unfolding_all rfl) ?_
    with_reducible refine callT1 g₃ (by with_unfolding_all rfl) boot_bytes ?_
    with_reducible refine compS GO hh (cl := []) (by with_unfolding_all rfl) ?_
    with_reducible refine callK1 g₃ (by with_unfolding_all rfl) (by with_unfolding_all rfl) (by with_unfolding_all rfl) ?_
    with_reducible refine nmN hn hm ?_
    refine ⟨g₃, ?_⟩
    with_reducible refine filemode_spec g₃ (by omega) hh ?_
    intro s₄ t4 k4
    have g₄ := g₃.keeps (kkp k4)
    refine ⟨fmSigns n 10, t4, rfl, fun c hc => alpha_lt (hal c hc), by omega, Quiet.noTest ?_, ?_⟩
    · rintro C' v s₅ m₅ E'' ⟨c, tc, rfl⟩ hn5 hm5 hk5
      with_reducible refine callB1 (g₄.keeps hk5) (by with_unfolding_all rfl) boot_ord ?_
      with_reducible refine nmN hn5 hm5 ?_
      with_reducible refine oneOrd ?_
      refine ⟨fun c' t' e => ?_, _, _, rfl, fun _ _ e => e⟩
      have e1 : S [c] = S [c'] := by injection e
      have e2 := S_inj e1
      have e3 : c = c' := by simpa using e2
      exact ⟨_, by rw [e3]⟩
    intro D vs ys n6 s₆ hvs hp k6 hD hD'
    have hio := pairO hvs hp
    with_reducible refine call_bytes_ints (isList_of hD') hio ?_ ?_ hh ?_
    · intro k hk
      obtain ⟨c, hc, rfl⟩ := List.mem_map.mp hk
      have := alpha_lt (hal c hc)
      omega
    · rw [hio.length, List.length_map, sizeLine_eq]; omega
    intro h' t7 tk7 hk7
    have k7 : Keeps s₆ { s₆ with heap := h', toks := tk7 } := ⟨h', tk7, rfl, hk7⟩
    have g₇ : Gw w h' := (g₄.keeps (kkp k6)).keeps hk7
    refine ⟨g₇, ?_⟩
    with_reducible refine header_spec hal h10 g₇ (by omega) ?_
    intro s₈ t8 k8
    refine ⟨fun n' t' e => ?_, ktrans k4 (ktrans k6 (ktrans k7 k8))⟩
    cases e
    refine ⟨t8, ?_⟩
    rw [hsg]
    rfl
  intro D ys nn s₂ hp k hD hD'
  rw [filter_tt] at hp
  have hw := pairT iR hp
  have F := F.kept k
  refine ⟨F.gw g, ?_⟩
  have hmapw : (kR.map fun m => wI (placeI m)) = (kR.map placeI).map wI := by rw [List.map_map]; rfl
  rw [hmapw] at hw
  with_reducible refine onceT_spec (isList_of hD') hw (smallW hPR) (by rw [hw.length, List.length_map, List.length_map, List.length_map]; omega) (F.gw g) (by omega) hh (by omega) ?_
  intro s₃ lWR vWR wsR nWR k3 pwR swR hlW hlWn iWR
  have F := (F.got k3 hlWn hlW).unrot3
  with_reducible refine stL F ?_
  intro s₁ F
  with_reducible refine asgN ?_
  with_reducible refine callK1 (F.gw g) (by with_unfolding_all rfl) (by with_unfolding_all rfl) (by with_unfolding_all rfl) ?_
  with_reducible refine compL (P := fun v => ∃ n t, v = .int n t ∧ M17 n) (fun _ => true) (GI placeI) hh (cl := []) (by with_unfolding_all rfl) ?_
  with_reducible refine nmL F (by with_unfolding_all rfl) ?_
  refine ⟨lL, vL, rfl, isList_of (F.get (a := lL) (o := listO vL nL) (by simp)), by omega, fun v hv => by obtain ⟨n, t, e, hm⟩ := ints_mem iL hv; exact ⟨n, t, e, hML n hm⟩, Quiet.noTest ?_, ?_⟩
  · rintro C v s₃ m₃ E' ⟨n, t, rfl, hM⟩ hn hm hk
    have g₃ : Gw w s₃.heap := (F.gw g).keeps hk
    with_reducible refine callK1 g₃ (by with_unfolding_all rfl) (by with_unfolding_all rfl) (by with_unfolding_all rfl) ?_
    with_reducible refine nmN hn hm ?_
    refine ⟨g₃, ?_⟩
    with_reducible refine place_spec g₃ (by omega) hh ?_
    intro s₄ t4 k4
    exact ⟨fun n' t' e => by cases e; exact ⟨_, rfl⟩, k4⟩
  intro D ys nn s₂ hp k hD hD'
  rw [filter_tt] at hp
  have hw := pairI iL hp
  have F := F.kept k
  refine ⟨F.gw g, ?_⟩
  with_reducible refine onceI_spec (isList_of hD') hw (by rw [hw.length, List.length_map]; omega) (F.gw g) (by omega) hh (by omega) ?_
  intro s₃ lPL vPL psL nPL k3 ppL spL hlP hlPn iPL
  have F := (F.got k3 hlPn hlP).unrot3
  with_reducible refine cellSt F hd1 (by with_unfolding_all rfl) ?_
  intro ocL s₁ hdcL F
  have F := F
  with_reducible refine asgN ?_
  with_reducible refine callK1 (F.gw g) (by with_unfolding_all rfl) (by with_unfolding_all rfl) (by with_unfolding_all rfl) ?_
  with_reducible refine compL (P := fun v => ∃ n t, v = .int n t ∧ M17 n) (fun _ => true) (GI placeI) hh (cl := []) (by with_unfolding_all rfl) ?_
  with_reducible refine nmL F (by with_unfolding_all rfl) ?_
  refine ⟨lR, vR, rfl, isList_of (F.get (a := lR) (o := listO vR) (by simp)), by omega, fun v hv => by obtain ⟨n, t, e, hm⟩ := ints_mem iR hv; exact ⟨n, t, e, hMR n hm⟩, Quiet.noTest ?_, ?_⟩
  · rintro C v s₃ m₃ E' ⟨n, t, rfl, hM⟩ hn hm hk
    have g₃ : Gw w s₃.heap := (F.gw g).keeps hk
    with_reducible refine callK1 g₃ (by with_unfolding_all rfl) (by with_unfolding_all rfl) (by with_unfolding_all rfl) ?_
    with_reducible refine nmN hn hm ?_
    refine ⟨g₃, ?_⟩
    with_reducible refine place_spec g₃ (by omega) hh ?_
    intro s₄ t4 k4
    exact ⟨fun n' t' e => by cases e; exact ⟨_, rfl⟩, k4⟩
  intro D ys nn s₂ hp k hD hD'
  rw [filter_tt] at hp
  have hw := pairI iR hp
  have F := F.kept k
  refine ⟨F.gw g, ?_⟩
  with_reducible refine onceI_spec (isList_of hD') hw (by rw [hw.length, List.length_map]; omega) (F.gw g) (by omega) hh (by omega) ?_
  intro s₃ lPR vPR psR nPR k3 ppR spR hlP hlPn iPR
  have F := (F.got k3 hlPn hlP).unrot3
  with_reducible refine cellSt F.swap hd2 (by with_unfolding_all rfl) ?_
  intro ocR s₁ hdcR F
  have F := F.swap

  have hWPL : dd wsL = (dd psL).map wI := words_are hPL ppL spL pwL swL
  have hIPL : ∀ p ∈ dd psL, InP p := fun p hp => hPL p (ppL.mem_iff.mp (((ddI spL).2 p).mp hp))
  have hupL := (ddI spL).1
  have hleL : (dd psL).length ≤ 9 := by
    have h1 : (dd psL).length ≤ ([] : List Int).length + psL.length := dd_len psL []
    have e := ppL.length_eq
    rw [List.length_map] at e
    simp only [List.length_nil] at h1
    omega
  rw [hWPL] at iWL
  clear hWPL pwL swL
  generalize dd psL = PL at iWL iPL hIPL hupL hleL
  clear ppL spL
  have vlPL : vPL.length ≤ 9 := by rw [iPL.length]; exact hleL
  have vlWL : vWL.length ≤ 9 := by rw [iWL.length, List.length_map, List.length_map]; exact hleL
  have hWPR : dd wsR = (dd psR).map wI := words_are hPR ppR spR pwR swR
  have hIPR : ∀ p ∈ dd psR, InP p := fun p hp => hPR p (ppR.mem_iff.mp (((ddI spR).2 p).mp hp))
  have hupR := (ddI spR).1
  have hleR : (dd psR).length ≤ 9 := by
    have h1 : (dd psR).length ≤ ([] : List Int).length + psR.length := dd_len psR []
    have e := ppR.length_eq
    rw [List.length_map] at e
    simp only [List.length_nil] at h1
    omega
  rw [hWPR] at iWR
  clear hWPR pwR swR
  generalize dd psR = PR at iWR iPR hIPR hupR hleR
  clear ppR spR
  have vlPR : vPR.length ≤ 9 := by rw [iPR.length]; exact hleR
  have vlWR : vWR.length ≤ 9 := by rw [iWR.length, List.length_map, List.length_map]; exact hleR
  with_reducible refine ifS ?_
  with_reducible refine isTrueC ?_
  with_reducible refine nmL F (by with_unfolding_all rfl) ?_
  with_reducible refine compL (P := fun v => ∃ n t, v = .int n t ∧ InP n) (fun _ => true) (GT wI) hh (cl := []) (by with_unfolding_all rfl) ?_
  with_reducible refine cellLd (F.get (a := s.heap.objs.size + 1) (o := ocL) (by simp)) hdcL (by with_unfolding_all rfl) ?_
  refine ⟨lPL, vPL, rfl, isList_of (F.get (a := lPL) (o := listO vPL nPL) (by simp)), by omega, fun v hv => by obtain ⟨n, t, e, hm⟩ := ints_mem iPL hv; exact ⟨n, t, e, hIPL n hm⟩, Quiet.noTest ?_, ?_⟩
  · rintro C v s₃ m₃ E' ⟨n, t, rfl, hM⟩ hn hm hk
    have g₃ : Gw w s₃.heap := (F.gw g).keeps hk
    have hM' : (n.toNat : Int) = n := Int.toNat_of_nonneg hM.1
    have hM2 := hM.2
    with_reducible refine callK1 g₃ (by with_unfolding_all rfl) (by with_unfolding_all rfl) (by with_unfolding_all rfl) ?_
    with_reducible refine nmN hn hm ?_
    refine ⟨g₃, ?_⟩
    rw [← hM']
    with_reducible refine word_spec (by omega) g₃ (by omega) hh ?_
    intro s₄ t4 k4
    exact ⟨fun n' t' e => by cases e; exact ⟨_, rfl⟩, k4⟩
  intro D ys nn s₂ hp k hD hD'
  rw [filter_tt] at hp
  have hw := pairT iPL hp
  have F := F.kept k
  with_reducible refine lNeT (isList_of (F.get (a := lWL) (o := listO vWL nWL) (by simp))) (isList_of hD') iWL hw (smallW hIPL) (smallW hIPL) (by omega) ?_
  with_reducible refine trB ?_
  rw [if_neg (by simp)]
  clear hp hw hD hD' k
  with_reducible refine wpAny_execs_nil ?_
  dsimp only
  with_reducible refine ifS ?_
  with_reducible refine isTrueC ?_
  with_reducible refine nmL F (by with_unfolding_all rfl) ?_
  with_reducible refine compL (P := fun v => ∃ n t, v = .int n t ∧ InP n) (fun _ => true) (GT wI) hh (cl := []) (by with_unfolding_all rfl) ?_
  with_reducible refine cellLd (F.get (a := s.heap.objs.size + 1 + 1) (o := ocR) (by simp)) hdcR (by with_unfolding_all rfl) ?_
  refine ⟨lPR, vPR, rfl, isList_of (F.get (a := lPR) (o := listO vPR nPR) (by simp)), by omega, fun v hv => by obtain ⟨n, t, e, hm⟩ := ints_mem iPR hv; exact ⟨n, t, e, hIPR n hm⟩, Quiet.noTest ?_, ?_⟩
  · rintro C v s₃ m₃ E' ⟨n, t, rfl, hM⟩ hn hm hk
    have g₃ : Gw w s₃.heap := (F.gw g).keeps hk
    have hM' : (n.toNat : Int) = n := Int.toNat_of_nonneg hM.1
    have hM2 := hM.2
    with_reducible refine callK1 g₃ (by with_unfolding_all rfl) (by with_unfolding_all rfl) (by with_unfolding_all rfl) ?_
    with_reducible refine nmN hn hm ?_
    refine ⟨g₃, ?_⟩
    rw [← hM']
    with_reducible refine word_spec (by omega) g₃ (by omega) hh ?_
    intro s₄ t4 k4
    exact ⟨fun n' t' e => by cases e; exact ⟨_, rfl⟩, k4⟩
  intro D ys nn s₂ hp k hD hD'
  rw [filter_tt] at hp
  have hw := pairT iPR hp
  have F := F.kept k
  with_reducible refine lNeT (isList_of (F.get (a := lWR) (o := listO vWR nWR) (by simp))) (isList_of hD') iWR hw (smallW hIPR) (smallW hIPR) (by omega) ?_
  with_reducible refine trB ?_
  rw [if_neg (by simp)]
  clear hp hw hD hD' k
  with_reducible refine wpAny_execs_nil ?_
  dsimp only
  with_reducible refine ifS ?_
  with_reducible refine isTrueC ?_
  with_reducible refine callK2 (F.gw g) (by with_unfolding_all rfl) (by with_unfolding_all rfl) (by with_unfolding_all rfl) ?_
  with_reducible refine nmL F (by with_unfolding_all rfl) ?_
  with_reducible refine nmL F (by with_unfolding_all rfl) ?_
  refine ⟨F.gw g, ?_⟩
  with_reducible refine cmp_spec (F.get (a := lWL) (o := listO vWL nWL) (by simp)) iWL (F.get (a := lWR) (o := listO vWR nWR) (by simp)) iWR (F.gw g) (by omega) hh (by omega) ?_
  intro s₂ t2 k2
  have F := F.kept k2
  with_reducible refine callK2 (F.gw g) (by with_unfolding_all rfl) (by with_unfolding_all rfl) (by with_unfolding_all rfl) ?_
  with_reducible refine cellLd (F.get (a := s.heap.objs.size + 1) (o := ocL) (by simp)) hdcL (by with_unfolding_all rfl) ?_
  with_reducible refine cellLd (F.get (a := s.heap.objs.size + 1 + 1) (o := ocR) (by simp)) hdcR (by with_unfolding_all rfl) ?_
  refine ⟨F.gw g, ?_⟩
  with_reducible refine order_spec (isList_of (F.get (a := lPL) (o := listO vPL nPL) (by simp))) iPL (isList_of (F.get (a := lPR) (o := listO vPR nPR) (by simp))) iPR (by omega) (by omega) (F.gw g) (by omega) hh ?_
  intro s₂ t3 k3
  have F := F.kept k3
  with_reducible refine ne_int ?_
  with_reducible refine trB ?_
  rw [if_neg (by rw [cmp_order PL PR hIPL hIPR]; simp)]
  clear k2 k3
  with_reducible refine wpAny_execs_nil ?_
  dsimp only
  with_reducible refine asgN ?_
  with_reducible refine callK2 (F.gw g) (by with_unfolding_all rfl) (by with_unfolding_all rfl) (by with_unfolding_all rfl) ?_
  with_reducible refine nmL F (by with_unfolding_all rfl) ?_
  with_reducible refine nmL F (by with_unfolding_all rfl) ?_
  refine ⟨F.gw g, ?_⟩
  with_reducible refine sld_spec F g (l1 := lWL) (l2 := lWR) (vs1 := vWL) (n1 := nWL) (vs2 := vWR) (n2 := nWR) (by simp) (by simp) iWL iWR (map_rising hIPL hupL) (map_rising hIPR hupR) (by rw [List.length_map]; omega) (by rw [List.length_map]; omega) (dif_places _ PL PR rfl hIPL hIPR hupL hupR) (by rw [List.length_map]; exact Nat.le_trans lenF (by omega)) (by rw [List.length_map]; exact Nat.le_trans lenF (by omega)) (by omega) hh hfr (by with_unfolding_all rfl) (by with_unfolding_all exact kindNe) ?_
  intro T lm lu vm nm vu nu s₂ iM iU F
  simp only [List.cons_append, List.nil_append] at F
  with_reducible refine stL F ?_
  intro s₁ F
  with_reducible refine compA (P := fun v => ∃ n t, v = .int n t) (keepP PR) (fun v y => y = v) hh (cl := [(Str.ofString "right_places", s.heap.objs.size + 1 + 1)]) (by with_unfolding_all rfl) ?_
  with_reducible refine cellLd (F.get (a := s.heap.objs.size + 1) (o := ocL) (by simp)) hdcL (by with_unfolding_all rfl) ?_
  refine ⟨lPL, vPL, _, _, _, rfl, isList_of (F.get (a := lPL) (o := listO vPL nPL) (by simp)), by omega, fun v hv => ints_of_mem iPL hv, ⟨?_, ?_⟩, F, ?_⟩
  · rintro C v s₃ m₃ E' ⟨n, t, rfl⟩ hn hm hk
    with_reducible refine wpAny_tests_one ?_
    with_reducible refine isTrueC ?_
    with_reducible refine nmN hn hm ?_
    with_reducible refine cellLd (hk _ _ (F.get (a := s.heap.objs.size + 1 + 1) (o := ocR) (by simp))) hdcR (by with_unfolding_all rfl) ?_
    with_reducible refine notin_list_ints ((isList_of (F.get (a := lPR) (o := listO vPR nPR) (by simp))).at fun o e => hk _ o e) iPR ?_
    with_reducible refine trB ?_
    exact ⟨rfl, krfl⟩
  · rintro C v s₃ m₃ E' ⟨n, t, rfl⟩ hp hn hm hk
    with_reducible refine nmN hn hm ?_
    exact ⟨rfl, krfl⟩
  intro lG vG nG s₂ hpG F
  have iG := pairF iPL hpG
  have hIG : ∀ p ∈ PL.filter (notIn PR), InP p := fun p hp => hIPL p (List.mem_filter.mp hp).1
  have hlG : (PL.filter (notIn PR)).length ≤ 9 := Nat.le_trans lenF hleL
  have vlG : vG.length ≤ 9 := by rw [iG.length]; exact hlG
  with_reducible refine compA (P := fun v => ∃ n t, v = .int n t) (keepP PL) (fun v y => y = v) hh (cl := [(Str.ofString "left_places", s.heap.objs.size + 1)]) (by with_unfolding_all rfl) ?_
  with_reducible refine cellLd (F.get (a := s.heap.objs.size + 1 + 1) (o := ocR) (by simp)) hdcR (by with_unfolding_all rfl) ?_
  refine ⟨lPR, vPR, _, _, _, rfl, isList_of (F.get (a := lPR) (o := listO vPR nPR) (by simp)), by omega, fun v hv => ints_of_mem iPR hv, ⟨?_, ?_⟩, F, ?_⟩
  · rintro C v s₃ m₃ E' ⟨n, t, rfl⟩ hn hm hk
    with_reducible refine wpAny_tests_one ?_
    with_reducible refine isTrueC ?_
    with_reducible refine nmN hn hm ?_
    with_reducible refine cellLd (hk _ _ (F.get (a := s.heap.objs.size + 1) (o := ocL) (by simp))) hdcL (by with_unfolding_all rfl) ?_
    with_reducible refine notin_list_ints ((isList_of (F.get (a := lPL) (o := listO vPL nPL) (by simp))).at fun o e => hk _ o e) iPL ?_
    with_reducible refine trB ?_
    exact ⟨rfl, krfl⟩
  · rintro C v s₃ m₃ E' ⟨n, t, rfl⟩ hp hn hm hk
    with_reducible refine nmN hn hm ?_
    exact ⟨rfl, krfl⟩
  intro lH vH nH s₂ hpH F
  have iH := pairF iPR hpH
  have hIH : ∀ p ∈ PR.filter (notIn PL), InP p := fun p hp => hIPR p (List.mem_filter.mp hp).1
  have hlH : (PR.filter (notIn PL)).length ≤ 9 := Nat.le_trans lenF hleR
  have vlH : vH.length ≤ 9 := by rw [iH.length]; exact hlH
  with_reducible refine ifS ?_
  with_reducible refine isTrueC ?_
  with_reducible refine nmL F (by with_unfolding_all rfl) ?_
  with_reducible refine tup2 ?_
  with_reducible refine compL (P := fun v => ∃ n t, v = .int n t ∧ InP n) (fun _ => true) (GT wI) hh (cl := []) (by with_unfolding_all rfl) ?_
  with_reducible refine nmL F (by with_unfolding_all rfl) ?_
  refine ⟨lG, vG, rfl, isList_of (F.get (a := lG) (o := listO vG nG) (by simp)), by omega, fun v hv => by obtain ⟨n, t, e, hm⟩ := ints_mem iG hv; exact ⟨n, t, e, hIG n hm⟩, Quiet.noTest ?_, ?_⟩
  · rintro C v s₃ m₃ E' ⟨n, t, rfl, hM⟩ hn hm hk
    have g₃ : Gw w s₃.heap := (F.gw g).keeps hk
    have hM' : (n.toNat : Int) = n := Int.toNat_of_nonneg hM.1
    have hM2 := hM.2
    with_reducible refine callK1 g₃ (by with_unfolding_all rfl) (by with_unfolding_all rfl) (by with_unfolding_all rfl) ?_
    with_reducible refine nmN hn hm ?_
    refine ⟨g₃, ?_⟩
    rw [← hM']
    with_reducible refine word_spec (by omega) g₃ (by omega) hh ?_
    intro s₄ t4 k4
    exact ⟨fun n' t' e => by cases e; exact ⟨_, rfl⟩, k4⟩
  intro Da ya na s₂ hp k hD hD'
  rw [filter_tt] at hp
  have ia := pairT iG hp
  have F := F.got k hD hD'
  clear hp hD hD' k
  with_reducible refine compL (P := fun v => ∃ n t, v = .int n t ∧ InP n) (fun _ => true) (GT wI) hh (cl := []) (by with_unfolding_all rfl) ?_
  with_reducible refine nmL F (by with_unfolding_all rfl) ?_
  refine ⟨lH, vH, rfl, isList_of (F.get (a := lH) (o := listO vH nH) (by simp)), by omega, fun v hv => by obtain ⟨n, t, e, hm⟩ := ints_mem iH hv; exact ⟨n, t, e, hIH n hm⟩, Quiet.noTest ?_, ?_⟩
  · rintro C v s₃ m₃ E' ⟨n, t, rfl, hM⟩ hn hm hk
    have g₃ : Gw w s₃.heap := (F.gw g).keeps hk
    have hM' : (n.toNat : Int) = n := Int.toNat_of_nonneg hM.1
    have hM2 := hM.2
    with_reducible refine callK1 g₃ (by with_unfolding_all rfl) (by with_unfolding_all rfl) (by with_unfolding_all rfl) ?_
    with_reducible refine nmN hn hm ?_
    refine ⟨g₃, ?_⟩
    rw [← hM']
    with_reducible refine word_spec (by omega) g₃ (by omega) hh ?_
    intro s₄ t4 k4
    exact ⟨fun n' t' e => by cases e; exact ⟨_, rfl⟩, k4⟩
  intro Db yb nb s₂ hp k hD hD'
  rw [filter_tt] at hp
  have ib := pairT iH hp
  have F := F.got k hD hD'
  clear hp hD hD' k
  refine ⟨_, _, _, _, F, ?_⟩
  intro T2 s₂ F
  with_reducible refine tupNe (F.get (a := T) (o := tupO [.ref lm, .ref lu]) (by simp)) F.hd (F.get (a := lm) (o := listO vm nm) (by simp)) (F.get (a := lu) (o := listO vu nu) (by simp)) (F.get (a := Da) (o := listO ya na) (by simp)) (F.get (a := Db) (o := listO yb nb) (by simp)) iM iU ia ib (smallW hIG) (smallW hIH) (smallW hIG) (smallW hIH) (by omega) ?_
  with_reducible refine trB ?_
  rw [if_neg (by simp)]
  with_reducible refine wpAny_execs_nil ?_
  dsimp only
  with_reducible refine retS ?_
  with_reducible refine cmpE ?_
  with_reducible refine compL (P := fun v => ∃ p t, v = .str (S (wI p)) t ∧ InP p) (fun _ => true) (GW dI) hh (cl := []) (by with_unfolding_all rfl) ?_
  with_reducible refine Subscript_ ?_
  with_reducible refine nmL F (by with_unfolding_all rfl) ?_
  with_reducible refine cI F ?_
  intro _ s₁ F
  with_reducible refine tupItem (F.get (a := T) (o := tupO [.ref lm, .ref lu]) (by simp)) ?_
  refine ⟨lu, vu, rfl, isList_of (F.get (a := lu) (o := listO vu nu) (by simp)), by rw [iU.length, List.length_map, List.length_map]; omega, fun v hv => by obtain ⟨p, t, e, hm⟩ := texts_mem iU hv; exact ⟨p, t, e, hIH p hm⟩, Quiet.noTest ?_, ?_⟩
  · rintro C v s₃ m₃ E' ⟨p, t, rfl, hM⟩ hn hm hk
    have g₃ : Gw w s₃.heap := (F.gw g).keeps hk
    have hM' : p.toNat < 32768 := by unfold InP at hM; omega
    with_reducible refine callK1 g₃ (by with_unfolding_all rfl) (by with_unfolding_all rfl) (by with_unfolding_all rfl) ?_
    with_reducible refine nmN hn hm ?_
    refine ⟨g₃, ?_⟩
    show wpAny _ _ (call (.ref 58) [.str (S (wordOf p.toNat)) t]) _ _ _
    rw [word_atoms]
    with_reducible refine decode_spec (atoms_ok hM') (atoms_head _) (atoms_len _) g₃ (by omega) hh ?_
    intro s₄ t4 k4
    refine ⟨fun p' t' hp' e => ?_, k4⟩
    have e1 : S (wI p) = S (wI p') := by injection e
    obtain rfl := wI_inj hM hp' (S_inj e1)
    refine ⟨t4, ?_⟩
    rw [dec_word]
    rfl
  intro Dc yc nc s₂ hp k hD hD'
  rw [filter_tt] at hp
  have ic := pairW hIH iU hp
  have F := F.got k hD hD'
  clear hp hD hD' k
  with_reducible refine compL (P := fun v => ∃ n t, v = .int n t ∧ InP n) (fun _ => true) (GT dI) hh (cl := []) (by with_unfolding_all rfl) ?_
  with_reducible refine nmL F (by with_unfolding_all rfl) ?_
  refine ⟨lH, vH, rfl, isList_of (F.get (a := lH) (o := listO vH nH) (by simp)), by omega, fun v hv => by obtain ⟨n, t, e, hm⟩ := ints_mem iH hv; exact ⟨n, t, e, hIH n hm⟩, Quiet.noTest ?_, ?_⟩
  · rintro C v s₃ m₃ E' ⟨n, t, rfl, hM⟩ hn hm hk
    have g₃ : Gw w s₃.heap := (F.gw g).keeps hk
    have hM' : (n.toNat : Int) = n := Int.toNat_of_nonneg hM.1
    have hM2 := hM.2
    have hwl : wordHead.length = 15 := rfl
    with_reducible refine binO ?_
    with_reducible refine binO ?_
    with_reducible refine cTK (l := wordHead) (by decide +kernel) ?_
    intro _ tk1
    with_reducible refine callK1 g₃ (by with_unfolding_all rfl) (by with_unfolding_all rfl) (by with_unfolding_all rfl) ?_
    with_reducible refine nmN hn hm ?_
    refine ⟨g₃, ?_⟩
    rw [← hM']
    with_reducible refine signs_spec (by omega) g₃ (by omega) hh ?_
    intro s₄ t4 k4
    with_reducible refine sAddK (by rw [signsOf_length]; omega) ?_
    intro _ tk2
    with_reducible refine cTK (l := [63]) (by decide +kernel) ?_
    intro _ tk3
    with_reducible refine sAddK (by rw [List.length_append, signsOf_length]; simp; omega) ?_
    intro t5 tk5
    exact ⟨fun n' t' e => by cases e; exact ⟨_, rfl⟩, ktok (ktrans ⟨s₃.heap, tk1, rfl, fun _ _ e => e⟩ k4) _⟩
  intro Dd yd nd s₂ hp k hD hD'
  rw [filter_tt] at hp
  have id' := pairT iH hp
  have hDc := F.hd
  have F := F.kept k
  with_reducible refine lEqT (isList_of F.hd) (isList_of hD') ic id' (smallD hIH) (smallD hIH) (by omega) ?_
  rw [decide_eq_true rfl]
  exact h _ F.keeps
end
end Mine
set_option maxHeartbeats 4000000 in
theorem PySem.Challenge.cw_oc0137_01_holds : PySem.Challenge.rw_oc0137_01.Holds := by
  refine Mine.hd ?_
  intro w s₀ s₁ mg mb G Y fa o pm cd doc dV kV ho hd hcd hD hmg hg args vals as hpre hlay hrd hwl hlo
  have KX := kIn_of Y
  have e159 : mg (Str.ofString "law") = some (.ref 159) := mg_of KX G.T.g (by with_unfolding_all rfl)
  have hfa : fa = 159 := by
    have h1 : mg (Str.ofString "law") = some (.ref fa) := hmg
    rw [e159] at h1
    injection h1 with h1
    injection h1 with h1
    exact h1.symm
  subst hfa
  clear hd hcd hD
  wrow_args hpre hlay hrd hwl hlo
  rename_i ns _ _ _ _ _ _ _ l vs _ hL _ _ _ hI _ hlen _
  show wpAny (model PySem.Challenge.pw_oc0137_01 w) callerA (call (.ref 159) [.ref l]) _ _ s₁
  have hz : vs.length ≤ 1000 := by rw [hI.length]; omega
  refine Mine.law_spec hL hI hz ⟨KX, ⟨mg, G.T.g⟩, ⟨mb, G.T.b, G.T.builtins⟩, G.T.nolimit, G.T.nodigits⟩ (by decide) rfl rfl (by decide) ?_
  intro s' k
  obtain ⟨h', tk, rfl, hk⟩ := k
  refine ⟨.inl ⟨_, .bool true, [], rfl, ?_, ?_, ?_, ?_⟩, .of_keep hk, rfl, .of_eq hg⟩
  · intro cls; rfl
  · exact .bool _
  · first | kernel_rfl | with_unfolding_all rfl | with_unfolding_all decide
  · intro _; exact ⟨List.nodup_nil, fun a h => by cases h⟩
