import PyProof.Rows.All
import Wide.All
import OpenK.AllK
import Wide.FinOn
import Open.Tops
import Lean
import PySem.Challenge.RW_fb0045_01
set_option Elab.async false
section
open PySem PySem.W PyProof.Rows
set_option maxRecDepth 100000
set_option maxHeartbeats 8000000
namespace MineT
open_shared sh for PySem.Challenge.pw_fb0045_01 leaving 20
end MineT
end
section
open PySem PySem.W PyProof.Rows
set_option maxRecDepth 100000
set_option maxHeartbeats 8000000
namespace MineT
abbrev pw := PySem.Challenge.pw_fb0045_01
noncomputable def tops : List Stmt := behindTheImports pw
noncomputable def st5 : List Stmt := (tops.drop 5).take 1
noncomputable def cE : Code := .body tops MineT.sh.env_1
noncomputable abbrev frB : List Frame := [topFrame { line := 0, col := 0, endLine := 0, endCol := 0 }]
noncomputable def S70 (w : World) (os : OsState) : SharedT := { tree := MineT.sh.tree_70 w.params, n := 70, life := { }, gens := { toList := [] }, drawn := { }, toks := 267, os := os }
noncomputable def T70 : Thread := piecesOf st5 MineT.sh.env_1 cE { line := 14, col := 0, endLine := 14, endCol := 8 } frB
abbrev wF (w : World) (a b : Bool) : World := (w.withFollow "comprehension-iter-twice" a).withFollow "special-get-raises" b
theorem goE : segGoT treeTable = PySem.W.Fast.tw10295753902157049106 PySem.W.Fast.tw14364793385576792824 := congr (congrArg (fun x x_1 => x x_1) PySem.W.Fast.te10295753902157049106) PySem.W.Fast.te14364793385576792824
theorem runE : segRunT treeTable = PySem.W.Fast.tw10110043849684766642 PySem.W.Fast.tw14364793385576792824 := congr (congrArg (fun x x_1 => x x_1) PySem.W.Fast.te10110043849684766642) PySem.W.Fast.te14364793385576792824
noncomputable def r0 (w : World) (os : OsState) : Option (SharedT × Thread) := PySem.W.Fast.tw10295753902157049106 PySem.W.Fast.tw14364793385576792824 pw (wF w true false) 11 (some (.ref 6)) 1 142 (S70 (wF w true false) os) T70
noncomputable def cL : Code := match st5 with
  | [.Assign _ (.Call _ [.ListComp e l sc p] _ _) _] => .compLoop (.ListComp e l sc p) 0 (.ref 71) (.ref 72) { sh.env_1 with scope := sc, locals := 73 }
  | _ => cE
noncomputable def thk (k : Result → Sem Fin) : Thread := ⟨PySem.W.Fast.tw11892475500146522536 PySem.W.Fast.tw14364793385576792824 cL, cL, { line := 15, col := 19, endLine := 15, endCol := 29 }, [.ret k none true [.ref 73, .ref 72] cE { line := 15, col := 39, endLine := 15, endCol := 49 } [], topFrame { line := 0, col := 0, endLine := 0, endCol := 0 }]⟩
noncomputable def kk (w : World) (os : OsState) : Result → Sem Fin := match r0 w os with | some (_, ⟨_, _, _, .ret k _ _ _ _ _ _ :: _⟩) => k | _ => fun _ => .unsupported ""
abbrev nd := BT.node
abbrev nl := BT.nil
noncomputable def oR : Obj := { cls := .type "range", data := .fields #[.int 0 268, .int 256 267, .int 1 269] }
noncomputable def oIt (j : Nat) : Obj := { cls := .type "range_iterator", data := .fields #[.int (Int.ofNat j) 0, .int (Int.ofNat (256 - j)) 0, .int 1 0] }
noncomputable def byL (s : Nat) : Nat → List Value
  | 0 => []
  | n + 1 => .bytes #[UInt8.ofNat s] (272 + 3 * s) :: byL (s + 1) n
noncomputable def oLs (j : Nat) : Obj := { cls := .type "list", data := .seq ⟨byL 0 j⟩ j }
noncomputable def oDc (P : Params) (j : Nat) : Obj := { cls := .type "dict", data := .dict #[{ hash := PyData.keyHash P (Str.ofString "i"), key := .str (Str.ofString "i") 271, val := .int (Int.ofNat (j - 1)) (267 + 3 * j) }] 1 }
noncomputable def oDz : Obj := { cls := .type "dict", data := .dict #[] 2 }
noncomputable def oa (i : Nat) : Obj := { cls := .type "list", data := .seq #[.int (Int.ofNat i) (270 + 3 * i)] }
noncomputable def ob : Obj := { cls := .type "list_iterator", data := .fields #[.none, .int 1 0] }
noncomputable def oc (i : Nat) : Obj := { cls := .type "bytearray", data := .bytearray #[UInt8.ofNat i] }
noncomputable def od : Obj := { cls := .type "tuple", data := .seq #[] }
noncomputable def oe (i : Nat) : Obj := { cls := .type "StopIteration", data := .fields #[.ref (77 + 5 * i), .none, .none, .none, .bool false, .none] }
noncomputable def oez : Obj := { cls := .type "StopIteration", data := .fields #[.ref 1354, .none, .none, .none, .bool false, .none] }
noncomputable def oLt : Obj := { cls := .type "list", data := .seq ⟨byL 0 256⟩ 1 }
noncomputable def oTu : Obj := { cls := .type "tuple", data := .seq ⟨byL 0 256⟩ }
noncomputable def oG (P : Params) : Obj := match sh.o_47 P with
  | ⟨c, d, .dict es n, s⟩ => ⟨c, d, .dict (es.push { hash := PyData.keyHash P (Str.ofString "ALL_BYTES"), key := .str (Str.ofString "ALL_BYTES") 1038, val := .ref 1357 }) (n + 1), s⟩
  | o => o
noncomputable def tr1 (P : Params) : BT := (nd (boot_o_0 P) (nd (boot_o_1 P) (nd (sh.o_47 P) (nd (boot_o_7 P) (nd (sh.o_8 P) (nd (sh.o_28 P) (nd (sh.o_64 P) nl nl) nl) (nd (sh.o_44 P) nl nl)) (nd (sh.o_16 P) (nd (sh.o_36 P) (nd (oIt 1) nl nl) nl) (nd (sh.o_56 P) nl nl))) (nd (sh.o_1 P) (nd (sh.o_12 P) (nd (sh.o_32 P) (nd (sh.o_68 P) nl nl) nl) (nd (sh.o_52 P) nl nl)) (nd (sh.o_20 P) (nd (sh.o_40 P) (nd ob nl nl) nl) (nd (sh.o_60 P) nl nl)))) (nd (boot_o_5 P) (nd (boot_o_9 P) (nd (sh.o_10 P) (nd (sh.o_30 P) (nd (sh.o_66 P) nl nl) nl) (nd (sh.o_50 P) nl nl)) (nd (sh.o_18 P) (nd (sh.o_38 P) (nd (oDc P 1) nl nl) nl) (nd (sh.o_58 P) nl nl))) (nd (sh.o_3 P) (nd (sh.o_14 P) (nd (sh.o_34 P) (nd (sh.o_70 P) nl nl) nl) (nd (sh.o_54 P) nl nl)) (nd (sh.o_26 P) (nd (sh.o_42 P) (nd od nl nl) nl) (nd (sh.o_62 P) nl nl))))) (nd (sh.o_5 P) (nd (boot_o_4 P) (nd (boot_o_8 P) (nd (sh.o_9 P) (nd (sh.o_29 P) (nd (sh.o_65 P) nl nl) nl) (nd (sh.o_45 P) nl nl)) (nd (sh.o_49 P) (nd (sh.o_37 P) (nd (oLs 1) nl nl) nl) (nd (sh.o_57 P) nl nl))) (nd (sh.o_48 P) (nd (sh.o_13 P) (nd (sh.o_33 P) (nd (sh.o_69 P) nl nl) nl) (nd (sh.o_53 P) nl nl)) (nd (sh.o_25 P) (nd (sh.o_41 P) (nd (oc 0) nl nl) nl) (nd (sh.o_61 P) nl nl)))) (nd (boot_o_6 P) (nd (boot_o_10 P) (nd (sh.o_11 P) (nd (sh.o_31 P) (nd (sh.o_67 P) nl nl) nl) (nd (sh.o_51 P) nl nl)) (nd (sh.o_19 P) (nd (sh.o_39 P) (nd (oa 0) nl nl) nl) (nd (sh.o_59 P) nl nl))) (nd (sh.o_4 P) (nd (sh.o_15 P) (nd (sh.o_35 P) (nd oR nl nl) nl) (nd (sh.o_55 P) nl nl)) (nd (sh.o_27 P) (nd (sh.o_43 P) (nd (oe 0) nl nl) nl) (nd (sh.o_63 P) nl nl))))))
noncomputable def st1 (w : World) (os : OsState) : SharedT := ⟨tr1 w.params, 79, {}, ⟨[]⟩, {}, 273, os⟩
noncomputable def tr16 (P : Params) : BT := (nd (boot_o_0 P) (nd (boot_o_1 P) (nd (sh.o_47 P) (nd (boot_o_7 P) (nd (sh.o_8 P) (nd (sh.o_28 P) (nd (sh.o_64 P) (nd od nl nl) nl) (nd ob nl nl)) (nd (sh.o_44 P) (nd (oa 1) (nd (oe 13) nl nl) nl) (nd (oc 7) nl nl))) (nd (sh.o_16 P) (nd (sh.o_36 P) (nd (oIt 16) (nd ob nl nl) nl) (nd (oe 5) nl nl)) (nd (sh.o_56 P) (nd od (nd (oc 15) nl nl) nl) (nd (oa 9) nl nl)))) (nd (sh.o_1 P) (nd (sh.o_12 P) (nd (sh.o_32 P) (nd (sh.o_68 P) (nd (oc 11) nl nl) nl) (nd (oa 5) nl nl)) (nd (sh.o_52 P) (nd (oe 1) (nd od nl nl) nl) (nd ob nl nl))) (nd (sh.o_20 P) (nd (sh.o_40 P) (nd ob (nd (oa 13) nl nl) nl) (nd od nl nl)) (nd (sh.o_60 P) (nd (oc 3) nl nl) (nd (oe 9) nl nl))))) (nd (boot_o_5 P) (nd (boot_o_9 P) (nd (sh.o_10 P) (nd (sh.o_30 P) (nd (sh.o_66 P) (nd (oa 11) nl nl) nl) (nd od nl nl)) (nd (sh.o_50 P) (nd (oc 1) (nd ob nl nl) nl) (nd (oe 7) nl nl))) (nd (sh.o_18 P) (nd (sh.o_38 P) (nd (oDc P 16) (nd od nl nl) nl) (nd ob nl nl)) (nd (sh.o_58 P) (nd (oa 3) (nd (oe 15) nl nl) nl) (nd (oc 9) nl nl)))) (nd (sh.o_3 P) (nd (sh.o_14 P) (nd (sh.o_34 P) (nd (sh.o_70 P) (nd (oe 11) nl nl) nl) (nd (oc 5) nl nl)) (nd (sh.o_54 P) (nd ob (nd (oa 15) nl nl) nl) (nd od nl nl))) (nd (sh.o_26 P) (nd (sh.o_42 P) (nd od (nd (oc 13) nl nl) nl) (nd (oa 7) nl nl)) (nd (sh.o_62 P) (nd (oe 3) nl nl) (nd ob nl nl)))))) (nd (sh.o_5 P) (nd (boot_o_4 P) (nd (boot_o_8 P) (nd (sh.o_9 P) (nd (sh.o_29 P) (nd (sh.o_65 P) (nd (oe 10) nl nl) nl) (nd (oc 4) nl nl)) (nd (sh.o_45 P) (nd ob (nd (oa 14) nl nl) nl) (nd od nl nl))) (nd (sh.o_49 P) (nd (sh.o_37 P) (nd (oLs 16) (nd (oc 12) nl nl) nl) (nd (oa 6) nl nl)) (nd (sh.o_57 P) (nd (oe 2) (nd od nl nl) nl) (nd ob nl nl)))) (nd (sh.o_48 P) (nd (sh.o_13 P) (nd (sh.o_33 P) (nd (sh.o_69 P) (nd od nl nl) nl) (nd ob nl nl)) (nd (sh.o_53 P) (nd (oa 2) (nd (oe 14) nl nl) nl) (nd (oc 8) nl nl))) (nd (sh.o_25 P) (nd (sh.o_41 P) (nd (oc 0) (nd ob nl nl) nl) (nd (oe 6) nl nl)) (nd (sh.o_61 P) (nd od nl nl) (nd (oa 10) nl nl))))) (nd (boot_o_6 P) (nd (boot_o_10 P) (nd (sh.o_11 P) (nd (sh.o_31 P) (nd (sh.o_67 P) (nd ob nl nl) nl) (nd (oe 4) nl nl)) (nd (sh.o_51 P) (nd od (nd (oc 14) nl nl) nl) (nd (oa 8) nl nl))) (nd (sh.o_19 P) (nd (sh.o_39 P) (nd (oa 0) (nd (oe 12) nl nl) nl) (nd (oc 6) nl nl)) (nd (sh.o_59 P) (nd ob nl nl) (nd od nl nl)))) (nd (sh.o_4 P) (nd (sh.o_15 P) (nd (sh.o_35 P) (nd oR (nd (oa 12) nl nl) nl) (nd od nl nl)) (nd (sh.o_55 P) (nd (oc 2) (nd ob nl nl) nl) (nd (oe 8) nl nl))) (nd (sh.o_27 P) (nd (sh.o_43 P) (nd (oe 0) (nd od nl nl) nl) (nd ob nl nl)) (nd (sh.o_63 P) (nd (oa 4) nl nl) (nd (oc 10) nl nl)))))))
noncomputable def st16 (w : World) (os : OsState) : SharedT := ⟨tr16 w.params, 154, {}, ⟨[]⟩, {}, 318, os⟩
noncomputable def tr32 (P : Params) : BT := (nd (boot_o_0 P) (nd (boot_o_1 P) (nd (sh.o_47 P) (nd (boot_o_7 P) (nd (sh.o_8 P) (nd (sh.o_28 P) (nd (sh.o_64 P) (nd od nl nl) (nd (oc 23) nl nl)) (nd ob (nd (oa 17) nl nl) (nd (oe 29) nl nl))) (nd (sh.o_44 P) (nd (oa 1) (nd (oe 13) nl nl) (nd od nl nl)) (nd (oc 7) (nd ob nl nl) nl))) (nd (sh.o_16 P) (nd (sh.o_36 P) (nd (oIt 32) (nd ob nl nl) (nd (oa 25) nl nl)) (nd (oe 5) (nd od nl nl) (nd (oc 31) nl nl))) (nd (sh.o_56 P) (nd od (nd (oc 15) nl nl) (nd ob nl nl)) (nd (oa 9) (nd (oe 21) nl nl) nl)))) (nd (sh.o_1 P) (nd (sh.o_12 P) (nd (sh.o_32 P) (nd (sh.o_68 P) (nd (oc 11) nl nl) (nd ob nl nl)) (nd (oa 5) (nd (oe 17) nl nl) (nd od nl nl))) (nd (sh.o_52 P) (nd (oe 1) (nd od nl nl) (nd (oc 27) nl nl)) (nd ob (nd (oa 21) nl nl) nl))) (nd (sh.o_20 P) (nd (sh.o_40 P) (nd ob (nd (oa 13) nl nl) (nd (oe 25) nl nl)) (nd od (nd (oc 19) nl nl) nl)) (nd (sh.o_60 P) (nd (oc 3) (nd ob nl nl) (nd (oa 29) nl nl)) (nd (oe 9) (nd od nl nl) nl))))) (nd (boot_o_5 P) (nd (boot_o_9 P) (nd (sh.o_10 P) (nd (sh.o_30 P) (nd (sh.o_66 P) (nd (oa 11) nl nl) (nd (oe 23) nl nl)) (nd od (nd (oc 17) nl nl) (nd ob nl nl))) (nd (sh.o_50 P) (nd (oc 1) (nd ob nl nl) (nd (oa 27) nl nl)) (nd (oe 7) (nd od nl nl) nl))) (nd (sh.o_18 P) (nd (sh.o_38 P) (nd (oDc P 32) (nd od nl nl) (nd (oc 25) nl nl)) (nd ob (nd (oa 19) nl nl) (nd (oe 31) nl nl))) (nd (sh.o_58 P) (nd (oa 3) (nd (oe 15) nl nl) (nd od nl nl)) (nd (oc 9) (nd ob nl nl) nl)))) (nd (sh.o_3 P) (nd (sh.o_14 P) (nd (sh.o_34 P) (nd (sh.o_70 P) (nd (oe 11) nl nl) (nd od nl nl)) (nd (oc 5) (nd ob nl nl) (nd (oa 31) nl nl))) (nd (sh.o_54 P) (nd ob (nd (oa 15) nl nl) (nd (oe 27) nl nl)) (nd od (nd (oc 21) nl nl) nl))) (nd (sh.o_26 P) (nd (sh.o_42 P) (nd od (nd (oc 13) nl nl) (nd ob nl nl)) (nd (oa 7) (nd (oe 19) nl nl) nl)) (nd (sh.o_62 P) (nd (oe 3) (nd od nl nl) (nd (oc 29) nl nl)) (nd ob (nd (oa 23) nl nl) nl)))))) (nd (sh.o_5 P) (nd (boot_o_4 P) (nd (boot_o_8 P) (nd (sh.o_9 P) (nd (sh.o_29 P) (nd (sh.o_65 P) (nd (oe 10) nl nl) (nd od nl nl)) (nd (oc 4) (nd ob nl nl) (nd (oa 30) nl nl))) (nd (sh.o_45 P) (nd ob (nd (oa 14) nl nl) (nd (oe 26) nl nl)) (nd od (nd (oc 20) nl nl) nl))) (nd (sh.o_49 P) (nd (sh.o_37 P) (nd (oLs 32) (nd (oc 12) nl nl) (nd ob nl nl)) (nd (oa 6) (nd (oe 18) nl nl) (nd od nl nl))) (nd (sh.o_57 P) (nd (oe 2) (nd od nl nl) (nd (oc 28) nl nl)) (nd ob (nd (oa 22) nl nl) nl)))) (nd (sh.o_48 P) (nd (sh.o_13 P) (nd (sh.o_33 P) (nd (sh.o_69 P) (nd od nl nl) (nd (oc 24) nl nl)) (nd ob (nd (oa 18) nl nl) (nd (oe 30) nl nl))) (nd (sh.o_53 P) (nd (oa 2) (nd (oe 14) nl nl) (nd od nl nl)) (nd (oc 8) (nd ob nl nl) nl))) (nd (sh.o_25 P) (nd (sh.o_41 P) (nd (oc 0) (nd ob nl nl) (nd (oa 26) nl nl)) (nd (oe 6) (nd od nl nl) nl)) (nd (sh.o_61 P) (nd od (nd (oc 16) nl nl) (nd ob nl nl)) (nd (oa 10) (nd (oe 22) nl nl) nl))))) (nd (boot_o_6 P) (nd (boot_o_10 P) (nd (sh.o_11 P) (nd (sh.o_31 P) (nd (sh.o_67 P) (nd ob nl nl) (nd (oa 24) nl nl)) (nd (oe 4) (nd od nl nl) (nd (oc 30) nl nl))) (nd (sh.o_51 P) (nd od (nd (oc 14) nl nl) (nd ob nl nl)) (nd (oa 8) (nd (oe 20) nl nl) nl))) (nd (sh.o_19 P) (nd (sh.o_39 P) (nd (oa 0) (nd (oe 12) nl nl) (nd od nl nl)) (nd (oc 6) (nd ob nl nl) nl)) (nd (sh.o_59 P) (nd ob (nd (oa 16) nl nl) (nd (oe 28) nl nl)) (nd od (nd (oc 22) nl nl) nl)))) (nd (sh.o_4 P) (nd (sh.o_15 P) (nd (sh.o_35 P) (nd oR (nd (oa 12) nl nl) (nd (oe 24) nl nl)) (nd od (nd (oc 18) nl nl) (nd ob nl nl))) (nd (sh.o_55 P) (nd (oc 2) (nd ob nl nl) (nd (oa 28) nl nl)) (nd (oe 8) (nd od nl nl) nl))) (nd (sh.o_27 P) (nd (sh.o_43 P) (nd (oe 0) (nd od nl nl) (nd (oc 26) nl nl)) (nd ob (nd (oa 20) nl nl) nl)) (nd (sh.o_63 P) (nd (oa 4) (nd (oe 16) nl nl) (nd od nl nl)) (nd (oc 10) (nd ob nl nl) nl)))))))
noncomputable def st32 (w : World) (os : OsState) : SharedT := ⟨tr32 w.params, 234, {}, ⟨[]⟩, {}, 366, os⟩
noncomputable def tr48 (P : Params) : BT := (nd (boot_o_0 P) (nd (boot_o_1 P) (nd (sh.o_47 P) (nd (boot_o_7 P) (nd (sh.o_8 P) (nd (sh.o_28 P) (nd (sh.o_64 P) (nd od (nd ob nl nl) nl) (nd (oc 23) nl nl)) (nd ob (nd (oa 17) (nd od nl nl) nl) (nd (oe 29) nl nl))) (nd (sh.o_44 P) (nd (oa 1) (nd (oe 13) (nd (oc 39) nl nl) nl) (nd od nl nl)) (nd (oc 7) (nd ob (nd (oe 45) nl nl) nl) (nd (oa 33) nl nl)))) (nd (sh.o_16 P) (nd (sh.o_36 P) (nd (oIt 48) (nd ob (nd (oe 37) nl nl) nl) (nd (oa 25) nl nl)) (nd (oe 5) (nd od (nd ob nl nl) nl) (nd (oc 31) nl nl))) (nd (sh.o_56 P) (nd od (nd (oc 15) (nd (oa 41) nl nl) nl) (nd ob nl nl)) (nd (oa 9) (nd (oe 21) (nd (oc 47) nl nl) nl) (nd od nl nl))))) (nd (sh.o_1 P) (nd (sh.o_12 P) (nd (sh.o_32 P) (nd (sh.o_68 P) (nd (oc 11) (nd (oa 37) nl nl) nl) (nd ob nl nl)) (nd (oa 5) (nd (oe 17) (nd (oc 43) nl nl) nl) (nd od nl nl))) (nd (sh.o_52 P) (nd (oe 1) (nd od (nd ob nl nl) nl) (nd (oc 27) nl nl)) (nd ob (nd (oa 21) (nd od nl nl) nl) (nd (oe 33) nl nl)))) (nd (sh.o_20 P) (nd (sh.o_40 P) (nd ob (nd (oa 13) (nd od nl nl) nl) (nd (oe 25) nl nl)) (nd od (nd (oc 19) (nd (oa 45) nl nl) nl) (nd ob nl nl))) (nd (sh.o_60 P) (nd (oc 3) (nd ob (nd (oe 41) nl nl) nl) (nd (oa 29) nl nl)) (nd (oe 9) (nd od nl nl) (nd (oc 35) nl nl)))))) (nd (boot_o_5 P) (nd (boot_o_9 P) (nd (sh.o_10 P) (nd (sh.o_30 P) (nd (sh.o_66 P) (nd (oa 11) (nd od nl nl) nl) (nd (oe 23) nl nl)) (nd od (nd (oc 17) (nd (oa 43) nl nl) nl) (nd ob nl nl))) (nd (sh.o_50 P) (nd (oc 1) (nd ob (nd (oe 39) nl nl) nl) (nd (oa 27) nl nl)) (nd (oe 7) (nd od (nd ob nl nl) nl) (nd (oc 33) nl nl)))) (nd (sh.o_18 P) (nd (sh.o_38 P) (nd (oDc P 48) (nd od (nd ob nl nl) nl) (nd (oc 25) nl nl)) (nd ob (nd (oa 19) (nd od nl nl) nl) (nd (oe 31) nl nl))) (nd (sh.o_58 P) (nd (oa 3) (nd (oe 15) (nd (oc 41) nl nl) nl) (nd od nl nl)) (nd (oc 9) (nd ob (nd (oe 47) nl nl) nl) (nd (oa 35) nl nl))))) (nd (sh.o_3 P) (nd (sh.o_14 P) (nd (sh.o_34 P) (nd (sh.o_70 P) (nd (oe 11) (nd (oc 37) nl nl) nl) (nd od nl nl)) (nd (oc 5) (nd ob (nd (oe 43) nl nl) nl) (nd (oa 31) nl nl))) (nd (sh.o_54 P) (nd ob (nd (oa 15) (nd od nl nl) nl) (nd (oe 27) nl nl)) (nd od (nd (oc 21) (nd (oa 47) nl nl) nl) (nd ob nl nl)))) (nd (sh.o_26 P) (nd (sh.o_42 P) (nd od (nd (oc 13) (nd (oa 39) nl nl) nl) (nd ob nl nl)) (nd (oa 7) (nd (oe 19) (nd (oc 45) nl nl) nl) (nd od nl nl))) (nd (sh.o_62 P) (nd (oe 3) (nd od (nd ob nl nl) nl) (nd (oc 29) nl nl)) (nd ob (nd (oa 23) nl nl) (nd (oe 35) nl nl))))))) (nd (sh.o_5 P) (nd (boot_o_4 P) (nd (boot_o_8 P) (nd (sh.o_9 P) (nd (sh.o_29 P) (nd (sh.o_65 P) (nd (oe 10) (nd (oc 36) nl nl) nl) (nd od nl nl)) (nd (oc 4) (nd ob (nd (oe 42) nl nl) nl) (nd (oa 30) nl nl))) (nd (sh.o_45 P) (nd ob (nd (oa 14) (nd od nl nl) nl) (nd (oe 26) nl nl)) (nd od (nd (oc 20) (nd (oa 46) nl nl) nl) (nd ob nl nl)))) (nd (sh.o_49 P) (nd (sh.o_37 P) (nd (oLs 48) (nd (oc 12) (nd (oa 38) nl nl) nl) (nd ob nl nl)) (nd (oa 6) (nd (oe 18) (nd (oc 44) nl nl) nl) (nd od nl nl))) (nd (sh.o_57 P) (nd (oe 2) (nd od (nd ob nl nl) nl) (nd (oc 28) nl nl)) (nd ob (nd (oa 22) (nd od nl nl) nl) (nd (oe 34) nl nl))))) (nd (sh.o_48 P) (nd (sh.o_13 P) (nd (sh.o_33 P) (nd (sh.o_69 P) (nd od (nd ob nl nl) nl) (nd (oc 24) nl nl)) (nd ob (nd (oa 18) (nd od nl nl) nl) (nd (oe 30) nl nl))) (nd (sh.o_53 P) (nd (oa 2) (nd (oe 14) (nd (oc 40) nl nl) nl) (nd od nl nl)) (nd (oc 8) (nd ob (nd (oe 46) nl nl) nl) (nd (oa 34) nl nl)))) (nd (sh.o_25 P) (nd (sh.o_41 P) (nd (oc 0) (nd ob (nd (oe 38) nl nl) nl) (nd (oa 26) nl nl)) (nd (oe 6) (nd od (nd ob nl nl) nl) (nd (oc 32) nl nl))) (nd (sh.o_61 P) (nd od (nd (oc 16) (nd (oa 42) nl nl) nl) (nd ob nl nl)) (nd (oa 10) (nd (oe 22) nl nl) (nd od nl nl)))))) (nd (boot_o_6 P) (nd (boot_o_10 P) (nd (sh.o_11 P) (nd (sh.o_31 P) (nd (sh.o_67 P) (nd ob (nd (oe 36) nl nl) nl) (nd (oa 24) nl nl)) (nd (oe 4) (nd od (nd ob nl nl) nl) (nd (oc 30) nl nl))) (nd (sh.o_51 P) (nd od (nd (oc 14) (nd (oa 40) nl nl) nl) (nd ob nl nl)) (nd (oa 8) (nd (oe 20) (nd (oc 46) nl nl) nl) (nd od nl nl)))) (nd (sh.o_19 P) (nd (sh.o_39 P) (nd (oa 0) (nd (oe 12) (nd (oc 38) nl nl) nl) (nd od nl nl)) (nd (oc 6) (nd ob (nd (oe 44) nl nl) nl) (nd (oa 32) nl nl))) (nd (sh.o_59 P) (nd ob (nd (oa 16) (nd od nl nl) nl) (nd (oe 28) nl nl)) (nd od (nd (oc 22) nl nl) (nd ob nl nl))))) (nd (sh.o_4 P) (nd (sh.o_15 P) (nd (sh.o_35 P) (nd oR (nd (oa 12) (nd od nl nl) nl) (nd (oe 24) nl nl)) (nd od (nd (oc 18) (nd (oa 44) nl nl) nl) (nd ob nl nl))) (nd (sh.o_55 P) (nd (oc 2) (nd ob (nd (oe 40) nl nl) nl) (nd (oa 28) nl nl)) (nd (oe 8) (nd od (nd ob nl nl) nl) (nd (oc 34) nl nl)))) (nd (sh.o_27 P) (nd (sh.o_43 P) (nd (oe 0) (nd od (nd ob nl nl) nl) (nd (oc 26) nl nl)) (nd ob (nd (oa 20) (nd od nl nl) nl) (nd (oe 32) nl nl))) (nd (sh.o_63 P) (nd (oa 4) (nd (oe 16) (nd (oc 42) nl nl) nl) (nd od nl nl)) (nd (oc 10) (nd ob nl nl) (nd (oa 36) nl nl))))))))
noncomputable def st48 (w : World) (os : OsState) : SharedT := ⟨tr48 w.params, 314, {}, ⟨[]⟩, {}, 414, os⟩
noncomputable def tr64 (P : Params) : BT := (nd (boot_o_0 P) (nd (boot_o_1 P) (nd (sh.o_47 P) (nd (boot_o_7 P) (nd (sh.o_8 P) (nd (sh.o_28 P) (nd (sh.o_64 P) (nd od (nd ob nl nl) (nd (oe 61) nl nl)) (nd (oc 23) (nd (oa 49) nl nl) nl)) (nd ob (nd (oa 17) (nd od nl nl) nl) (nd (oe 29) (nd (oc 55) nl nl) nl))) (nd (sh.o_44 P) (nd (oa 1) (nd (oe 13) (nd (oc 39) nl nl) nl) (nd od (nd ob nl nl) nl)) (nd (oc 7) (nd ob (nd (oe 45) nl nl) nl) (nd (oa 33) (nd od nl nl) nl)))) (nd (sh.o_16 P) (nd (sh.o_36 P) (nd (oIt 64) (nd ob (nd (oe 37) nl nl) (nd (oc 63) nl nl)) (nd (oa 25) (nd od nl nl) nl)) (nd (oe 5) (nd od (nd ob nl nl) nl) (nd (oc 31) (nd (oa 57) nl nl) nl))) (nd (sh.o_56 P) (nd od (nd (oc 15) (nd (oa 41) nl nl) nl) (nd ob (nd (oe 53) nl nl) nl)) (nd (oa 9) (nd (oe 21) (nd (oc 47) nl nl) nl) (nd od (nd ob nl nl) nl))))) (nd (sh.o_1 P) (nd (sh.o_12 P) (nd (sh.o_32 P) (nd (sh.o_68 P) (nd (oc 11) (nd (oa 37) nl nl) (nd od nl nl)) (nd ob (nd (oe 49) nl nl) nl)) (nd (oa 5) (nd (oe 17) (nd (oc 43) nl nl) nl) (nd od (nd ob nl nl) nl))) (nd (sh.o_52 P) (nd (oe 1) (nd od (nd ob nl nl) nl) (nd (oc 27) (nd (oa 53) nl nl) nl)) (nd ob (nd (oa 21) (nd od nl nl) nl) (nd (oe 33) (nd (oc 59) nl nl) nl)))) (nd (sh.o_20 P) (nd (sh.o_40 P) (nd ob (nd (oa 13) (nd od nl nl) nl) (nd (oe 25) (nd (oc 51) nl nl) nl)) (nd od (nd (oc 19) (nd (oa 45) nl nl) nl) (nd ob (nd (oe 57) nl nl) nl))) (nd (sh.o_60 P) (nd (oc 3) (nd ob (nd (oe 41) nl nl) nl) (nd (oa 29) (nd od nl nl) nl)) (nd (oe 9) (nd od (nd ob nl nl) nl) (nd (oc 35) (nd (oa 61) nl nl) nl)))))) (nd (boot_o_5 P) (nd (boot_o_9 P) (nd (sh.o_10 P) (nd (sh.o_30 P) (nd (sh.o_66 P) (nd (oa 11) (nd od nl nl) (nd ob nl nl)) (nd (oe 23) (nd (oc 49) nl nl) nl)) (nd od (nd (oc 17) (nd (oa 43) nl nl) nl) (nd ob (nd (oe 55) nl nl) nl))) (nd (sh.o_50 P) (nd (oc 1) (nd ob (nd (oe 39) nl nl) nl) (nd (oa 27) (nd od nl nl) nl)) (nd (oe 7) (nd od (nd ob nl nl) nl) (nd (oc 33) (nd (oa 59) nl nl) nl)))) (nd (sh.o_18 P) (nd (sh.o_38 P) (nd (oDc P 64) (nd od (nd ob nl nl) (nd (oe 63) nl nl)) (nd (oc 25) (nd (oa 51) nl nl) nl)) (nd ob (nd (oa 19) (nd od nl nl) nl) (nd (oe 31) (nd (oc 57) nl nl) nl))) (nd (sh.o_58 P) (nd (oa 3) (nd (oe 15) (nd (oc 41) nl nl) nl) (nd od (nd ob nl nl) nl)) (nd (oc 9) (nd ob (nd (oe 47) nl nl) nl) (nd (oa 35) (nd od nl nl) nl))))) (nd (sh.o_3 P) (nd (sh.o_14 P) (nd (sh.o_34 P) (nd (sh.o_70 P) (nd (oe 11) (nd (oc 37) nl nl) (nd (oa 63) nl nl)) (nd od (nd ob nl nl) nl)) (nd (oc 5) (nd ob (nd (oe 43) nl nl) nl) (nd (oa 31) (nd od nl nl) nl))) (nd (sh.o_54 P) (nd ob (nd (oa 15) (nd od nl nl) nl) (nd (oe 27) (nd (oc 53) nl nl) nl)) (nd od (nd (oc 21) (nd (oa 47) nl nl) nl) (nd ob (nd (oe 59) nl nl) nl)))) (nd (sh.o_26 P) (nd (sh.o_42 P) (nd od (nd (oc 13) (nd (oa 39) nl nl) nl) (nd ob (nd (oe 51) nl nl) nl)) (nd (oa 7) (nd (oe 19) (nd (oc 45) nl nl) nl) (nd od (nd ob nl nl) nl))) (nd (sh.o_62 P) (nd (oe 3) (nd od (nd ob nl nl) nl) (nd (oc 29) (nd (oa 55) nl nl) nl)) (nd ob (nd (oa 23) (nd od nl nl) nl) (nd (oe 35) (nd (oc 61) nl nl) nl))))))) (nd (sh.o_5 P) (nd (boot_o_4 P) (nd (boot_o_8 P) (nd (sh.o_9 P) (nd (sh.o_29 P) (nd (sh.o_65 P) (nd (oe 10) (nd (oc 36) nl nl) (nd (oa 62) nl nl)) (nd od (nd ob nl nl) nl)) (nd (oc 4) (nd ob (nd (oe 42) nl nl) nl) (nd (oa 30) (nd od nl nl) nl))) (nd (sh.o_45 P) (nd ob (nd (oa 14) (nd od nl nl) nl) (nd (oe 26) (nd (oc 52) nl nl) nl)) (nd od (nd (oc 20) (nd (oa 46) nl nl) nl) (nd ob (nd (oe 58) nl nl) nl)))) (nd (sh.o_49 P) (nd (sh.o_37 P) (nd (oLs 64) (nd (oc 12) (nd (oa 38) nl nl) (nd od nl nl)) (nd ob (nd (oe 50) nl nl) nl)) (nd (oa 6) (nd (oe 18) (nd (oc 44) nl nl) nl) (nd od (nd ob nl nl) nl))) (nd (sh.o_57 P) (nd (oe 2) (nd od (nd ob nl nl) nl) (nd (oc 28) (nd (oa 54) nl nl) nl)) (nd ob (nd (oa 22) (nd od nl nl) nl) (nd (oe 34) (nd (oc 60) nl nl) nl))))) (nd (sh.o_48 P) (nd (sh.o_13 P) (nd (sh.o_33 P) (nd (sh.o_69 P) (nd od (nd ob nl nl) (nd (oe 62) nl nl)) (nd (oc 24) (nd (oa 50) nl nl) nl)) (nd ob (nd (oa 18) (nd od nl nl) nl) (nd (oe 30) (nd (oc 56) nl nl) nl))) (nd (sh.o_53 P) (nd (oa 2) (nd (oe 14) (nd (oc 40) nl nl) nl) (nd od (nd ob nl nl) nl)) (nd (oc 8) (nd ob (nd (oe 46) nl nl) nl) (nd (oa 34) (nd od nl nl) nl)))) (nd (sh.o_25 P) (nd (sh.o_41 P) (nd (oc 0) (nd ob (nd (oe 38) nl nl) nl) (nd (oa 26) (nd od nl nl) nl)) (nd (oe 6) (nd od (nd ob nl nl) nl) (nd (oc 32) (nd (oa 58) nl nl) nl))) (nd (sh.o_61 P) (nd od (nd (oc 16) (nd (oa 42) nl nl) nl) (nd ob (nd (oe 54) nl nl) nl)) (nd (oa 10) (nd (oe 22) (nd (oc 48) nl nl) nl) (nd od (nd ob nl nl) nl)))))) (nd (boot_o_6 P) (nd (boot_o_10 P) (nd (sh.o_11 P) (nd (sh.o_31 P) (nd (sh.o_67 P) (nd ob (nd (oe 36) nl nl) (nd (oc 62) nl nl)) (nd (oa 24) (nd od nl nl) nl)) (nd (oe 4) (nd od (nd ob nl nl) nl) (nd (oc 30) (nd (oa 56) nl nl) nl))) (nd (sh.o_51 P) (nd od (nd (oc 14) (nd (oa 40) nl nl) nl) (nd ob (nd (oe 52) nl nl) nl)) (nd (oa 8) (nd (oe 20) (nd (oc 46) nl nl) nl) (nd od (nd ob nl nl) nl)))) (nd (sh.o_19 P) (nd (sh.o_39 P) (nd (oa 0) (nd (oe 12) (nd (oc 38) nl nl) nl) (nd od (nd ob nl nl) nl)) (nd (oc 6) (nd ob (nd (oe 44) nl nl) nl) (nd (oa 32) (nd od nl nl) nl))) (nd (sh.o_59 P) (nd ob (nd (oa 16) (nd od nl nl) nl) (nd (oe 28) (nd (oc 54) nl nl) nl)) (nd od (nd (oc 22) (nd (oa 48) nl nl) nl) (nd ob (nd (oe 60) nl nl) nl))))) (nd (sh.o_4 P) (nd (sh.o_15 P) (nd (sh.o_35 P) (nd oR (nd (oa 12) (nd od nl nl) (nd ob nl nl)) (nd (oe 24) (nd (oc 50) nl nl) nl)) (nd od (nd (oc 18) (nd (oa 44) nl nl) nl) (nd ob (nd (oe 56) nl nl) nl))) (nd (sh.o_55 P) (nd (oc 2) (nd ob (nd (oe 40) nl nl) nl) (nd (oa 28) (nd od nl nl) nl)) (nd (oe 8) (nd od (nd ob nl nl) nl) (nd (oc 34) (nd (oa 60) nl nl) nl)))) (nd (sh.o_27 P) (nd (sh.o_43 P) (nd (oe 0) (nd od (nd ob nl nl) nl) (nd (oc 26) (nd (oa 52) nl nl) nl)) (nd ob (nd (oa 20) (nd od nl nl) nl) (nd (oe 32) (nd (oc 58) nl nl) nl))) (nd (sh.o_63 P) (nd (oa 4) (nd (oe 16) (nd (oc 42) nl nl) nl) (nd od (nd ob nl nl) nl)) (nd (oc 10) (nd ob (nd (oe 48) nl nl) nl) (nd (oa 36) (nd od nl nl) nl))))))))
noncomputable def st64 (w : World) (os : OsState) : SharedT := ⟨tr64 w.params, 394, {}, ⟨[]⟩, {}, 462, os⟩
noncomputable def tr80 (P : Params) : BT := (nd (boot_o_0 P) (nd (boot_o_1 P) (nd (sh.o_47 P) (nd (boot_o_7 P) (nd (sh.o_8 P) (nd (sh.o_28 P) (nd (sh.o_64 P) (nd od (nd ob nl nl) (nd (oe 61) nl nl)) (nd (oc 23) (nd (oa 49) nl nl) (nd od nl nl))) (nd ob (nd (oa 17) (nd od nl nl) (nd ob nl nl)) (nd (oe 29) (nd (oc 55) nl nl) nl))) (nd (sh.o_44 P) (nd (oa 1) (nd (oe 13) (nd (oc 39) nl nl) (nd (oa 65) nl nl)) (nd od (nd ob nl nl) (nd (oe 77) nl nl))) (nd (oc 7) (nd ob (nd (oe 45) nl nl) (nd (oc 71) nl nl)) (nd (oa 33) (nd od nl nl) nl)))) (nd (sh.o_16 P) (nd (sh.o_36 P) (nd (oIt 80) (nd ob (nd (oe 37) nl nl) (nd (oc 63) nl nl)) (nd (oa 25) (nd od nl nl) (nd ob nl nl))) (nd (oe 5) (nd od (nd ob nl nl) (nd (oe 69) nl nl)) (nd (oc 31) (nd (oa 57) nl nl) nl))) (nd (sh.o_56 P) (nd od (nd (oc 15) (nd (oa 41) nl nl) (nd od nl nl)) (nd ob (nd (oe 53) nl nl) (nd (oc 79) nl nl))) (nd (oa 9) (nd (oe 21) (nd (oc 47) nl nl) (nd (oa 73) nl nl)) (nd od (nd ob nl nl) nl))))) (nd (sh.o_1 P) (nd (sh.o_12 P) (nd (sh.o_32 P) (nd (sh.o_68 P) (nd (oc 11) (nd (oa 37) nl nl) (nd od nl nl)) (nd ob (nd (oe 49) nl nl) (nd (oc 75) nl nl))) (nd (oa 5) (nd (oe 17) (nd (oc 43) nl nl) (nd (oa 69) nl nl)) (nd od (nd ob nl nl) nl))) (nd (sh.o_52 P) (nd (oe 1) (nd od (nd ob nl nl) (nd (oe 65) nl nl)) (nd (oc 27) (nd (oa 53) nl nl) (nd od nl nl))) (nd ob (nd (oa 21) (nd od nl nl) (nd ob nl nl)) (nd (oe 33) (nd (oc 59) nl nl) nl)))) (nd (sh.o_20 P) (nd (sh.o_40 P) (nd ob (nd (oa 13) (nd od nl nl) (nd ob nl nl)) (nd (oe 25) (nd (oc 51) nl nl) (nd (oa 77) nl nl))) (nd od (nd (oc 19) (nd (oa 45) nl nl) (nd od nl nl)) (nd ob (nd (oe 57) nl nl) nl))) (nd (sh.o_60 P) (nd (oc 3) (nd ob (nd (oe 41) nl nl) (nd (oc 67) nl nl)) (nd (oa 29) (nd od nl nl) nl)) (nd (oe 9) (nd od (nd ob nl nl) (nd (oe 73) nl nl)) (nd (oc 35) (nd (oa 61) nl nl) nl)))))) (nd (boot_o_5 P) (nd (boot_o_9 P) (nd (sh.o_10 P) (nd (sh.o_30 P) (nd (sh.o_66 P) (nd (oa 11) (nd od nl nl) (nd ob nl nl)) (nd (oe 23) (nd (oc 49) nl nl) (nd (oa 75) nl nl))) (nd od (nd (oc 17) (nd (oa 43) nl nl) (nd od nl nl)) (nd ob (nd (oe 55) nl nl) nl))) (nd (sh.o_50 P) (nd (oc 1) (nd ob (nd (oe 39) nl nl) (nd (oc 65) nl nl)) (nd (oa 27) (nd od nl nl) (nd ob nl nl))) (nd (oe 7) (nd od (nd ob nl nl) (nd (oe 71) nl nl)) (nd (oc 33) (nd (oa 59) nl nl) nl)))) (nd (sh.o_18 P) (nd (sh.o_38 P) (nd (oDc P 80) (nd od (nd ob nl nl) (nd (oe 63) nl nl)) (nd (oc 25) (nd (oa 51) nl nl) (nd od nl nl))) (nd ob (nd (oa 19) (nd od nl nl) (nd ob nl nl)) (nd (oe 31) (nd (oc 57) nl nl) nl))) (nd (sh.o_58 P) (nd (oa 3) (nd (oe 15) (nd (oc 41) nl nl) (nd (oa 67) nl nl)) (nd od (nd ob nl nl) (nd (oe 79) nl nl))) (nd (oc 9) (nd ob (nd (oe 47) nl nl) (nd (oc 73) nl nl)) (nd (oa 35) (nd od nl nl) nl))))) (nd (sh.o_3 P) (nd (sh.o_14 P) (nd (sh.o_34 P) (nd (sh.o_70 P) (nd (oe 11) (nd (oc 37) nl nl) (nd (oa 63) nl nl)) (nd od (nd ob nl nl) (nd (oe 75) nl nl))) (nd (oc 5) (nd ob (nd (oe 43) nl nl) (nd (oc 69) nl nl)) (nd (oa 31) (nd od nl nl) nl))) (nd (sh.o_54 P) (nd ob (nd (oa 15) (nd od nl nl) (nd ob nl nl)) (nd (oe 27) (nd (oc 53) nl nl) (nd (oa 79) nl nl))) (nd od (nd (oc 21) (nd (oa 47) nl nl) (nd od nl nl)) (nd ob (nd (oe 59) nl nl) nl)))) (nd (sh.o_26 P) (nd (sh.o_42 P) (nd od (nd (oc 13) (nd (oa 39) nl nl) (nd od nl nl)) (nd ob (nd (oe 51) nl nl) (nd (oc 77) nl nl))) (nd (oa 7) (nd (oe 19) (nd (oc 45) nl nl) (nd (oa 71) nl nl)) (nd od (nd ob nl nl) nl))) (nd (sh.o_62 P) (nd (oe 3) (nd od (nd ob nl nl) (nd (oe 67) nl nl)) (nd (oc 29) (nd (oa 55) nl nl) nl)) (nd ob (nd (oa 23) (nd od nl nl) (nd ob nl nl)) (nd (oe 35) (nd (oc 61) nl nl) nl))))))) (nd (sh.o_5 P) (nd (boot_o_4 P) (nd (boot_o_8 P) (nd (sh.o_9 P) (nd (sh.o_29 P) (nd (sh.o_65 P) (nd (oe 10) (nd (oc 36) nl nl) (nd (oa 62) nl nl)) (nd od (nd ob nl nl) (nd (oe 74) nl nl))) (nd (oc 4) (nd ob (nd (oe 42) nl nl) (nd (oc 68) nl nl)) (nd (oa 30) (nd od nl nl) nl))) (nd (sh.o_45 P) (nd ob (nd (oa 14) (nd od nl nl) (nd ob nl nl)) (nd (oe 26) (nd (oc 52) nl nl) (nd (oa 78) nl nl))) (nd od (nd (oc 20) (nd (oa 46) nl nl) (nd od nl nl)) (nd ob (nd (oe 58) nl nl) nl)))) (nd (sh.o_49 P) (nd (sh.o_37 P) (nd (oLs 80) (nd (oc 12) (nd (oa 38) nl nl) (nd od nl nl)) (nd ob (nd (oe 50) nl nl) (nd (oc 76) nl nl))) (nd (oa 6) (nd (oe 18) (nd (oc 44) nl nl) (nd (oa 70) nl nl)) (nd od (nd ob nl nl) nl))) (nd (sh.o_57 P) (nd (oe 2) (nd od (nd ob nl nl) (nd (oe 66) nl nl)) (nd (oc 28) (nd (oa 54) nl nl) (nd od nl nl))) (nd ob (nd (oa 22) (nd od nl nl) (nd ob nl nl)) (nd (oe 34) (nd (oc 60) nl nl) nl))))) (nd (sh.o_48 P) (nd (sh.o_13 P) (nd (sh.o_33 P) (nd (sh.o_69 P) (nd od (nd ob nl nl) (nd (oe 62) nl nl)) (nd (oc 24) (nd (oa 50) nl nl) (nd od nl nl))) (nd ob (nd (oa 18) (nd od nl nl) (nd ob nl nl)) (nd (oe 30) (nd (oc 56) nl nl) nl))) (nd (sh.o_53 P) (nd (oa 2) (nd (oe 14) (nd (oc 40) nl nl) (nd (oa 66) nl nl)) (nd od (nd ob nl nl) (nd (oe 78) nl nl))) (nd (oc 8) (nd ob (nd (oe 46) nl nl) (nd (oc 72) nl nl)) (nd (oa 34) (nd od nl nl) nl)))) (nd (sh.o_25 P) (nd (sh.o_41 P) (nd (oc 0) (nd ob (nd (oe 38) nl nl) (nd (oc 64) nl nl)) (nd (oa 26) (nd od nl nl) (nd ob nl nl))) (nd (oe 6) (nd od (nd ob nl nl) (nd (oe 70) nl nl)) (nd (oc 32) (nd (oa 58) nl nl) nl))) (nd (sh.o_61 P) (nd od (nd (oc 16) (nd (oa 42) nl nl) (nd od nl nl)) (nd ob (nd (oe 54) nl nl) nl)) (nd (oa 10) (nd (oe 22) (nd (oc 48) nl nl) (nd (oa 74) nl nl)) (nd od (nd ob nl nl) nl)))))) (nd (boot_o_6 P) (nd (boot_o_10 P) (nd (sh.o_11 P) (nd (sh.o_31 P) (nd (sh.o_67 P) (nd ob (nd (oe 36) nl nl) (nd (oc 62) nl nl)) (nd (oa 24) (nd od nl nl) (nd ob nl nl))) (nd (oe 4) (nd od (nd ob nl nl) (nd (oe 68) nl nl)) (nd (oc 30) (nd (oa 56) nl nl) nl))) (nd (sh.o_51 P) (nd od (nd (oc 14) (nd (oa 40) nl nl) (nd od nl nl)) (nd ob (nd (oe 52) nl nl) (nd (oc 78) nl nl))) (nd (oa 8) (nd (oe 20) (nd (oc 46) nl nl) (nd (oa 72) nl nl)) (nd od (nd ob nl nl) nl)))) (nd (sh.o_19 P) (nd (sh.o_39 P) (nd (oa 0) (nd (oe 12) (nd (oc 38) nl nl) (nd (oa 64) nl nl)) (nd od (nd ob nl nl) (nd (oe 76) nl nl))) (nd (oc 6) (nd ob (nd (oe 44) nl nl) (nd (oc 70) nl nl)) (nd (oa 32) (nd od nl nl) nl))) (nd (sh.o_59 P) (nd ob (nd (oa 16) (nd od nl nl) (nd ob nl nl)) (nd (oe 28) (nd (oc 54) nl nl) nl)) (nd od (nd (oc 22) (nd (oa 48) nl nl) (nd od nl nl)) (nd ob (nd (oe 60) nl nl) nl))))) (nd (sh.o_4 P) (nd (sh.o_15 P) (nd (sh.o_35 P) (nd oR (nd (oa 12) (nd od nl nl) (nd ob nl nl)) (nd (oe 24) (nd (oc 50) nl nl) (nd (oa 76) nl nl))) (nd od (nd (oc 18) (nd (oa 44) nl nl) (nd od nl nl)) (nd ob (nd (oe 56) nl nl) nl))) (nd (sh.o_55 P) (nd (oc 2) (nd ob (nd (oe 40) nl nl) (nd (oc 66) nl nl)) (nd (oa 28) (nd od nl nl) (nd ob nl nl))) (nd (oe 8) (nd od (nd ob nl nl) (nd (oe 72) nl nl)) (nd (oc 34) (nd (oa 60) nl nl) nl)))) (nd (sh.o_27 P) (nd (sh.o_43 P) (nd (oe 0) (nd od (nd ob nl nl) (nd (oe 64) nl nl)) (nd (oc 26) (nd (oa 52) nl nl) (nd od nl nl))) (nd ob (nd (oa 20) (nd od nl nl) (nd ob nl nl)) (nd (oe 32) (nd (oc 58) nl nl) nl))) (nd (sh.o_63 P) (nd (oa 4) (nd (oe 16) (nd (oc 42) nl nl) (nd (oa 68) nl nl)) (nd od (nd ob nl nl) nl)) (nd (oc 10) (nd ob (nd (oe 48) nl nl) (nd (oc 74) nl nl)) (nd (oa 36) (nd od nl nl) nl))))))))
noncomputable def st80 (w : World) (os : OsState) : SharedT := ⟨tr80 w.params, 474, {}, ⟨[]⟩, {}, 510, os⟩
noncomputable def tr96 (P : Params) : BT := (nd (boot_o_0 P) (nd (boot_o_1 P) (nd (sh.o_47 P) (nd (boot_o_7 P) (nd (sh.o_8 P) (nd (sh.o_28 P) (nd (sh.o_64 P) (nd od (nd ob (nd (oc 87) nl nl) nl) (nd (oe 61) nl nl)) (nd (oc 23) (nd (oa 49) nl nl) (nd od nl nl))) (nd ob (nd (oa 17) (nd od (nd (oe 93) nl nl) nl) (nd ob nl nl)) (nd (oe 29) (nd (oc 55) nl nl) (nd (oa 81) nl nl)))) (nd (sh.o_44 P) (nd (oa 1) (nd (oe 13) (nd (oc 39) (nd od nl nl) nl) (nd (oa 65) nl nl)) (nd od (nd ob nl nl) (nd (oe 77) nl nl))) (nd (oc 7) (nd ob (nd (oe 45) nl nl) (nd (oc 71) nl nl)) (nd (oa 33) (nd od nl nl) (nd ob nl nl))))) (nd (sh.o_16 P) (nd (sh.o_36 P) (nd (oIt 96) (nd ob (nd (oe 37) (nd (oa 89) nl nl) nl) (nd (oc 63) nl nl)) (nd (oa 25) (nd od nl nl) (nd ob nl nl))) (nd (oe 5) (nd od (nd ob (nd (oc 95) nl nl) nl) (nd (oe 69) nl nl)) (nd (oc 31) (nd (oa 57) nl nl) (nd od nl nl)))) (nd (sh.o_56 P) (nd od (nd (oc 15) (nd (oa 41) (nd ob nl nl) nl) (nd od nl nl)) (nd ob (nd (oe 53) nl nl) (nd (oc 79) nl nl))) (nd (oa 9) (nd (oe 21) (nd (oc 47) nl nl) (nd (oa 73) nl nl)) (nd od (nd ob nl nl) (nd (oe 85) nl nl)))))) (nd (sh.o_1 P) (nd (sh.o_12 P) (nd (sh.o_32 P) (nd (sh.o_68 P) (nd (oc 11) (nd (oa 37) (nd ob nl nl) nl) (nd od nl nl)) (nd ob (nd (oe 49) nl nl) (nd (oc 75) nl nl))) (nd (oa 5) (nd (oe 17) (nd (oc 43) (nd od nl nl) nl) (nd (oa 69) nl nl)) (nd od (nd ob nl nl) (nd (oe 81) nl nl)))) (nd (sh.o_52 P) (nd (oe 1) (nd od (nd ob (nd (oc 91) nl nl) nl) (nd (oe 65) nl nl)) (nd (oc 27) (nd (oa 53) nl nl) (nd od nl nl))) (nd ob (nd (oa 21) (nd od nl nl) (nd ob nl nl)) (nd (oe 33) (nd (oc 59) nl nl) (nd (oa 85) nl nl))))) (nd (sh.o_20 P) (nd (sh.o_40 P) (nd ob (nd (oa 13) (nd od (nd (oe 89) nl nl) nl) (nd ob nl nl)) (nd (oe 25) (nd (oc 51) nl nl) (nd (oa 77) nl nl))) (nd od (nd (oc 19) (nd (oa 45) nl nl) (nd od nl nl)) (nd ob (nd (oe 57) nl nl) (nd (oc 83) nl nl)))) (nd (sh.o_60 P) (nd (oc 3) (nd ob (nd (oe 41) (nd (oa 93) nl nl) nl) (nd (oc 67) nl nl)) (nd (oa 29) (nd od nl nl) (nd ob nl nl))) (nd (oe 9) (nd od (nd ob nl nl) (nd (oe 73) nl nl)) (nd (oc 35) (nd (oa 61) nl nl) (nd od nl nl))))))) (nd (boot_o_5 P) (nd (boot_o_9 P) (nd (sh.o_10 P) (nd (sh.o_30 P) (nd (sh.o_66 P) (nd (oa 11) (nd od (nd (oe 87) nl nl) nl) (nd ob nl nl)) (nd (oe 23) (nd (oc 49) nl nl) (nd (oa 75) nl nl))) (nd od (nd (oc 17) (nd (oa 43) (nd ob nl nl) nl) (nd od nl nl)) (nd ob (nd (oe 55) nl nl) (nd (oc 81) nl nl)))) (nd (sh.o_50 P) (nd (oc 1) (nd ob (nd (oe 39) (nd (oa 91) nl nl) nl) (nd (oc 65) nl nl)) (nd (oa 27) (nd od nl nl) (nd ob nl nl))) (nd (oe 7) (nd od (nd ob nl nl) (nd (oe 71) nl nl)) (nd (oc 33) (nd (oa 59) nl nl) (nd od nl nl))))) (nd (sh.o_18 P) (nd (sh.o_38 P) (nd (oDc P 96) (nd od (nd ob (nd (oc 89) nl nl) nl) (nd (oe 63) nl nl)) (nd (oc 25) (nd (oa 51) nl nl) (nd od nl nl))) (nd ob (nd (oa 19) (nd od (nd (oe 95) nl nl) nl) (nd ob nl nl)) (nd (oe 31) (nd (oc 57) nl nl) (nd (oa 83) nl nl)))) (nd (sh.o_58 P) (nd (oa 3) (nd (oe 15) (nd (oc 41) (nd od nl nl) nl) (nd (oa 67) nl nl)) (nd od (nd ob nl nl) (nd (oe 79) nl nl))) (nd (oc 9) (nd ob (nd (oe 47) nl nl) (nd (oc 73) nl nl)) (nd (oa 35) (nd od nl nl) (nd ob nl nl)))))) (nd (sh.o_3 P) (nd (sh.o_14 P) (nd (sh.o_34 P) (nd (sh.o_70 P) (nd (oe 11) (nd (oc 37) (nd od nl nl) nl) (nd (oa 63) nl nl)) (nd od (nd ob nl nl) (nd (oe 75) nl nl))) (nd (oc 5) (nd ob (nd (oe 43) (nd (oa 95) nl nl) nl) (nd (oc 69) nl nl)) (nd (oa 31) (nd od nl nl) (nd ob nl nl)))) (nd (sh.o_54 P) (nd ob (nd (oa 15) (nd od (nd (oe 91) nl nl) nl) (nd ob nl nl)) (nd (oe 27) (nd (oc 53) nl nl) (nd (oa 79) nl nl))) (nd od (nd (oc 21) (nd (oa 47) nl nl) (nd od nl nl)) (nd ob (nd (oe 59) nl nl) (nd (oc 85) nl nl))))) (nd (sh.o_26 P) (nd (sh.o_42 P) (nd od (nd (oc 13) (nd (oa 39) (nd ob nl nl) nl) (nd od nl nl)) (nd ob (nd (oe 51) nl nl) (nd (oc 77) nl nl))) (nd (oa 7) (nd (oe 19) (nd (oc 45) nl nl) (nd (oa 71) nl nl)) (nd od (nd ob nl nl) (nd (oe 83) nl nl)))) (nd (sh.o_62 P) (nd (oe 3) (nd od (nd ob (nd (oc 93) nl nl) nl) (nd (oe 67) nl nl)) (nd (oc 29) (nd (oa 55) nl nl) (nd od nl nl))) (nd ob (nd (oa 23) (nd od nl nl) (nd ob nl nl)) (nd (oe 35) (nd (oc 61) nl nl) (nd (oa 87) nl nl)))))))) (nd (sh.o_5 P) (nd (boot_o_4 P) (nd (boot_o_8 P) (nd (sh.o_9 P) (nd (sh.o_29 P) (nd (sh.o_65 P) (nd (oe 10) (nd (oc 36) (nd od nl nl) nl) (nd (oa 62) nl nl)) (nd od (nd ob nl nl) (nd (oe 74) nl nl))) (nd (oc 4) (nd ob (nd (oe 42) (nd (oa 94) nl nl) nl) (nd (oc 68) nl nl)) (nd (oa 30) (nd od nl nl) (nd ob nl nl)))) (nd (sh.o_45 P) (nd ob (nd (oa 14) (nd od (nd (oe 90) nl nl) nl) (nd ob nl nl)) (nd (oe 26) (nd (oc 52) nl nl) (nd (oa 78) nl nl))) (nd od (nd (oc 20) (nd (oa 46) nl nl) (nd od nl nl)) (nd ob (nd (oe 58) nl nl) (nd (oc 84) nl nl))))) (nd (sh.o_49 P) (nd (sh.o_37 P) (nd (oLs 96) (nd (oc 12) (nd (oa 38) (nd ob nl nl) nl) (nd od nl nl)) (nd ob (nd (oe 50) nl nl) (nd (oc 76) nl nl))) (nd (oa 6) (nd (oe 18) (nd (oc 44) (nd od nl nl) nl) (nd (oa 70) nl nl)) (nd od (nd ob nl nl) (nd (oe 82) nl nl)))) (nd (sh.o_57 P) (nd (oe 2) (nd od (nd ob (nd (oc 92) nl nl) nl) (nd (oe 66) nl nl)) (nd (oc 28) (nd (oa 54) nl nl) (nd od nl nl))) (nd ob (nd (oa 22) (nd od nl nl) (nd ob nl nl)) (nd (oe 34) (nd (oc 60) nl nl) (nd (oa 86) nl nl)))))) (nd (sh.o_48 P) (nd (sh.o_13 P) (nd (sh.o_33 P) (nd (sh.o_69 P) (nd od (nd ob (nd (oc 88) nl nl) nl) (nd (oe 62) nl nl)) (nd (oc 24) (nd (oa 50) nl nl) (nd od nl nl))) (nd ob (nd (oa 18) (nd od (nd (oe 94) nl nl) nl) (nd ob nl nl)) (nd (oe 30) (nd (oc 56) nl nl) (nd (oa 82) nl nl)))) (nd (sh.o_53 P) (nd (oa 2) (nd (oe 14) (nd (oc 40) (nd od nl nl) nl) (nd (oa 66) nl nl)) (nd od (nd ob nl nl) (nd (oe 78) nl nl))) (nd (oc 8) (nd ob (nd (oe 46) nl nl) (nd (oc 72) nl nl)) (nd (oa 34) (nd od nl nl) (nd ob nl nl))))) (nd (sh.o_25 P) (nd (sh.o_41 P) (nd (oc 0) (nd ob (nd (oe 38) (nd (oa 90) nl nl) nl) (nd (oc 64) nl nl)) (nd (oa 26) (nd od nl nl) (nd ob nl nl))) (nd (oe 6) (nd od (nd ob nl nl) (nd (oe 70) nl nl)) (nd (oc 32) (nd (oa 58) nl nl) (nd od nl nl)))) (nd (sh.o_61 P) (nd od (nd (oc 16) (nd (oa 42) (nd ob nl nl) nl) (nd od nl nl)) (nd ob (nd (oe 54) nl nl) (nd (oc 80) nl nl))) (nd (oa 10) (nd (oe 22) (nd (oc 48) nl nl) (nd (oa 74) nl nl)) (nd od (nd ob nl nl) (nd (oe 86) nl nl))))))) (nd (boot_o_6 P) (nd (boot_o_10 P) (nd (sh.o_11 P) (nd (sh.o_31 P) (nd (sh.o_67 P) (nd ob (nd (oe 36) (nd (oa 88) nl nl) nl) (nd (oc 62) nl nl)) (nd (oa 24) (nd od nl nl) (nd ob nl nl))) (nd (oe 4) (nd od (nd ob (nd (oc 94) nl nl) nl) (nd (oe 68) nl nl)) (nd (oc 30) (nd (oa 56) nl nl) (nd od nl nl)))) (nd (sh.o_51 P) (nd od (nd (oc 14) (nd (oa 40) (nd ob nl nl) nl) (nd od nl nl)) (nd ob (nd (oe 52) nl nl) (nd (oc 78) nl nl))) (nd (oa 8) (nd (oe 20) (nd (oc 46) nl nl) (nd (oa 72) nl nl)) (nd od (nd ob nl nl) (nd (oe 84) nl nl))))) (nd (sh.o_19 P) (nd (sh.o_39 P) (nd (oa 0) (nd (oe 12) (nd (oc 38) (nd od nl nl) nl) (nd (oa 64) nl nl)) (nd od (nd ob nl nl) (nd (oe 76) nl nl))) (nd (oc 6) (nd ob (nd (oe 44) nl nl) (nd (oc 70) nl nl)) (nd (oa 32) (nd od nl nl) (nd ob nl nl)))) (nd (sh.o_59 P) (nd ob (nd (oa 16) (nd od (nd (oe 92) nl nl) nl) (nd ob nl nl)) (nd (oe 28) (nd (oc 54) nl nl) (nd (oa 80) nl nl))) (nd od (nd (oc 22) (nd (oa 48) nl nl) (nd od nl nl)) (nd ob (nd (oe 60) nl nl) (nd (oc 86) nl nl)))))) (nd (sh.o_4 P) (nd (sh.o_15 P) (nd (sh.o_35 P) (nd oR (nd (oa 12) (nd od (nd (oe 88) nl nl) nl) (nd ob nl nl)) (nd (oe 24) (nd (oc 50) nl nl) (nd (oa 76) nl nl))) (nd od (nd (oc 18) (nd (oa 44) (nd ob nl nl) nl) (nd od nl nl)) (nd ob (nd (oe 56) nl nl) (nd (oc 82) nl nl)))) (nd (sh.o_55 P) (nd (oc 2) (nd ob (nd (oe 40) (nd (oa 92) nl nl) nl) (nd (oc 66) nl nl)) (nd (oa 28) (nd od nl nl) (nd ob nl nl))) (nd (oe 8) (nd od (nd ob nl nl) (nd (oe 72) nl nl)) (nd (oc 34) (nd (oa 60) nl nl) (nd od nl nl))))) (nd (sh.o_27 P) (nd (sh.o_43 P) (nd (oe 0) (nd od (nd ob (nd (oc 90) nl nl) nl) (nd (oe 64) nl nl)) (nd (oc 26) (nd (oa 52) nl nl) (nd od nl nl))) (nd ob (nd (oa 20) (nd od nl nl) (nd ob nl nl)) (nd (oe 32) (nd (oc 58) nl nl) (nd (oa 84) nl nl)))) (nd (sh.o_63 P) (nd (oa 4) (nd (oe 16) (nd (oc 42) (nd od nl nl) nl) (nd (oa 68) nl nl)) (nd od (nd ob nl nl) (nd (oe 80) nl nl))) (nd (oc 10) (nd ob (nd (oe 48) nl nl) (nd (oc 74) nl nl)) (nd (oa 36) (nd od nl nl) (nd ob nl nl)))))))))
noncomputable def st96 (w : World) (os : OsState) : SharedT := ⟨tr96 w.params, 554, {}, ⟨[]⟩, {}, 558, os⟩
noncomputable def tr112 (P : Params) : BT := (nd (boot_o_0 P) (nd (boot_o_1 P) (nd (sh.o_47 P) (nd (boot_o_7 P) (nd (sh.o_8 P) (nd (sh.o_28 P) (nd (sh.o_64 P) (nd od (nd ob (nd (oc 87) nl nl) nl) (nd (oe 61) nl nl)) (nd (oc 23) (nd (oa 49) (nd ob nl nl) nl) (nd od nl nl))) (nd ob (nd (oa 17) (nd od (nd (oe 93) nl nl) nl) (nd ob nl nl)) (nd (oe 29) (nd (oc 55) (nd od nl nl) nl) (nd (oa 81) nl nl)))) (nd (sh.o_44 P) (nd (oa 1) (nd (oe 13) (nd (oc 39) (nd od nl nl) nl) (nd (oa 65) nl nl)) (nd od (nd ob (nd (oc 103) nl nl) nl) (nd (oe 77) nl nl))) (nd (oc 7) (nd ob (nd (oe 45) (nd (oa 97) nl nl) nl) (nd (oc 71) nl nl)) (nd (oa 33) (nd od (nd (oe 109) nl nl) nl) (nd ob nl nl))))) (nd (sh.o_16 P) (nd (sh.o_36 P) (nd (oIt 112) (nd ob (nd (oe 37) (nd (oa 89) nl nl) nl) (nd (oc 63) nl nl)) (nd (oa 25) (nd od (nd (oe 101) nl nl) nl) (nd ob nl nl))) (nd (oe 5) (nd od (nd ob (nd (oc 95) nl nl) nl) (nd (oe 69) nl nl)) (nd (oc 31) (nd (oa 57) (nd ob nl nl) nl) (nd od nl nl)))) (nd (sh.o_56 P) (nd od (nd (oc 15) (nd (oa 41) (nd ob nl nl) nl) (nd od nl nl)) (nd ob (nd (oe 53) (nd (oa 105) nl nl) nl) (nd (oc 79) nl nl))) (nd (oa 9) (nd (oe 21) (nd (oc 47) (nd od nl nl) nl) (nd (oa 73) nl nl)) (nd od (nd ob (nd (oc 111) nl nl) nl) (nd (oe 85) nl nl)))))) (nd (sh.o_1 P) (nd (sh.o_12 P) (nd (sh.o_32 P) (nd (sh.o_68 P) (nd (oc 11) (nd (oa 37) (nd ob nl nl) nl) (nd od nl nl)) (nd ob (nd (oe 49) (nd (oa 101) nl nl) nl) (nd (oc 75) nl nl))) (nd (oa 5) (nd (oe 17) (nd (oc 43) (nd od nl nl) nl) (nd (oa 69) nl nl)) (nd od (nd ob (nd (oc 107) nl nl) nl) (nd (oe 81) nl nl)))) (nd (sh.o_52 P) (nd (oe 1) (nd od (nd ob (nd (oc 91) nl nl) nl) (nd (oe 65) nl nl)) (nd (oc 27) (nd (oa 53) (nd ob nl nl) nl) (nd od nl nl))) (nd ob (nd (oa 21) (nd od (nd (oe 97) nl nl) nl) (nd ob nl nl)) (nd (oe 33) (nd (oc 59) (nd od nl nl) nl) (nd (oa 85) nl nl))))) (nd (sh.o_20 P) (nd (sh.o_40 P) (nd ob (nd (oa 13) (nd od (nd (oe 89) nl nl) nl) (nd ob nl nl)) (nd (oe 25) (nd (oc 51) (nd od nl nl) nl) (nd (oa 77) nl nl))) (nd od (nd (oc 19) (nd (oa 45) (nd ob nl nl) nl) (nd od nl nl)) (nd ob (nd (oe 57) (nd (oa 109) nl nl) nl) (nd (oc 83) nl nl)))) (nd (sh.o_60 P) (nd (oc 3) (nd ob (nd (oe 41) (nd (oa 93) nl nl) nl) (nd (oc 67) nl nl)) (nd (oa 29) (nd od (nd (oe 105) nl nl) nl) (nd ob nl nl))) (nd (oe 9) (nd od (nd ob (nd (oc 99) nl nl) nl) (nd (oe 73) nl nl)) (nd (oc 35) (nd (oa 61) nl nl) (nd od nl nl))))))) (nd (boot_o_5 P) (nd (boot_o_9 P) (nd (sh.o_10 P) (nd (sh.o_30 P) (nd (sh.o_66 P) (nd (oa 11) (nd od (nd (oe 87) nl nl) nl) (nd ob nl nl)) (nd (oe 23) (nd (oc 49) (nd od nl nl) nl) (nd (oa 75) nl nl))) (nd od (nd (oc 17) (nd (oa 43) (nd ob nl nl) nl) (nd od nl nl)) (nd ob (nd (oe 55) (nd (oa 107) nl nl) nl) (nd (oc 81) nl nl)))) (nd (sh.o_50 P) (nd (oc 1) (nd ob (nd (oe 39) (nd (oa 91) nl nl) nl) (nd (oc 65) nl nl)) (nd (oa 27) (nd od (nd (oe 103) nl nl) nl) (nd ob nl nl))) (nd (oe 7) (nd od (nd ob (nd (oc 97) nl nl) nl) (nd (oe 71) nl nl)) (nd (oc 33) (nd (oa 59) (nd ob nl nl) nl) (nd od nl nl))))) (nd (sh.o_18 P) (nd (sh.o_38 P) (nd (oDc P 112) (nd od (nd ob (nd (oc 89) nl nl) nl) (nd (oe 63) nl nl)) (nd (oc 25) (nd (oa 51) (nd ob nl nl) nl) (nd od nl nl))) (nd ob (nd (oa 19) (nd od (nd (oe 95) nl nl) nl) (nd ob nl nl)) (nd (oe 31) (nd (oc 57) (nd od nl nl) nl) (nd (oa 83) nl nl)))) (nd (sh.o_58 P) (nd (oa 3) (nd (oe 15) (nd (oc 41) (nd od nl nl) nl) (nd (oa 67) nl nl)) (nd od (nd ob (nd (oc 105) nl nl) nl) (nd (oe 79) nl nl))) (nd (oc 9) (nd ob (nd (oe 47) (nd (oa 99) nl nl) nl) (nd (oc 73) nl nl)) (nd (oa 35) (nd od (nd (oe 111) nl nl) nl) (nd ob nl nl)))))) (nd (sh.o_3 P) (nd (sh.o_14 P) (nd (sh.o_34 P) (nd (sh.o_70 P) (nd (oe 11) (nd (oc 37) (nd od nl nl) nl) (nd (oa 63) nl nl)) (nd od (nd ob (nd (oc 101) nl nl) nl) (nd (oe 75) nl nl))) (nd (oc 5) (nd ob (nd (oe 43) (nd (oa 95) nl nl) nl) (nd (oc 69) nl nl)) (nd (oa 31) (nd od (nd (oe 107) nl nl) nl) (nd ob nl nl)))) (nd (sh.o_54 P) (nd ob (nd (oa 15) (nd od (nd (oe 91) nl nl) nl) (nd ob nl nl)) (nd (oe 27) (nd (oc 53) (nd od nl nl) nl) (nd (oa 79) nl nl))) (nd od (nd (oc 21) (nd (oa 47) (nd ob nl nl) nl) (nd od nl nl)) (nd ob (nd (oe 59) (nd (oa 111) nl nl) nl) (nd (oc 85) nl nl))))) (nd (sh.o_26 P) (nd (sh.o_42 P) (nd od (nd (oc 13) (nd (oa 39) (nd ob nl nl) nl) (nd od nl nl)) (nd ob (nd (oe 51) (nd (oa 103) nl nl) nl) (nd (oc 77) nl nl))) (nd (oa 7) (nd (oe 19) (nd (oc 45) (nd od nl nl) nl) (nd (oa 71) nl nl)) (nd od (nd ob (nd (oc 109) nl nl) nl) (nd (oe 83) nl nl)))) (nd (sh.o_62 P) (nd (oe 3) (nd od (nd ob (nd (oc 93) nl nl) nl) (nd (oe 67) nl nl)) (nd (oc 29) (nd (oa 55) (nd ob nl nl) nl) (nd od nl nl))) (nd ob (nd (oa 23) (nd od (nd (oe 99) nl nl) nl) (nd ob nl nl)) (nd (oe 35) (nd (oc 61) nl nl) (nd (oa 87) nl nl)))))))) (nd (sh.o_5 P) (nd (boot_o_4 P) (nd (boot_o_8 P) (nd (sh.o_9 P) (nd (sh.o_29 P) (nd (sh.o_65 P) (nd (oe 10) (nd (oc 36) (nd od nl nl) nl) (nd (oa 62) nl nl)) (nd od (nd ob (nd (oc 100) nl nl) nl) (nd (oe 74) nl nl))) (nd (oc 4) (nd ob (nd (oe 42) (nd (oa 94) nl nl) nl) (nd (oc 68) nl nl)) (nd (oa 30) (nd od (nd (oe 106) nl nl) nl) (nd ob nl nl)))) (nd (sh.o_45 P) (nd ob (nd (oa 14) (nd od (nd (oe 90) nl nl) nl) (nd ob nl nl)) (nd (oe 26) (nd (oc 52) (nd od nl nl) nl) (nd (oa 78) nl nl))) (nd od (nd (oc 20) (nd (oa 46) (nd ob nl nl) nl) (nd od nl nl)) (nd ob (nd (oe 58) (nd (oa 110) nl nl) nl) (nd (oc 84) nl nl))))) (nd (sh.o_49 P) (nd (sh.o_37 P) (nd (oLs 112) (nd (oc 12) (nd (oa 38) (nd ob nl nl) nl) (nd od nl nl)) (nd ob (nd (oe 50) (nd (oa 102) nl nl) nl) (nd (oc 76) nl nl))) (nd (oa 6) (nd (oe 18) (nd (oc 44) (nd od nl nl) nl) (nd (oa 70) nl nl)) (nd od (nd ob (nd (oc 108) nl nl) nl) (nd (oe 82) nl nl)))) (nd (sh.o_57 P) (nd (oe 2) (nd od (nd ob (nd (oc 92) nl nl) nl) (nd (oe 66) nl nl)) (nd (oc 28) (nd (oa 54) (nd ob nl nl) nl) (nd od nl nl))) (nd ob (nd (oa 22) (nd od (nd (oe 98) nl nl) nl) (nd ob nl nl)) (nd (oe 34) (nd (oc 60) (nd od nl nl) nl) (nd (oa 86) nl nl)))))) (nd (sh.o_48 P) (nd (sh.o_13 P) (nd (sh.o_33 P) (nd (sh.o_69 P) (nd od (nd ob (nd (oc 88) nl nl) nl) (nd (oe 62) nl nl)) (nd (oc 24) (nd (oa 50) (nd ob nl nl) nl) (nd od nl nl))) (nd ob (nd (oa 18) (nd od (nd (oe 94) nl nl) nl) (nd ob nl nl)) (nd (oe 30) (nd (oc 56) (nd od nl nl) nl) (nd (oa 82) nl nl)))) (nd (sh.o_53 P) (nd (oa 2) (nd (oe 14) (nd (oc 40) (nd od nl nl) nl) (nd (oa 66) nl nl)) (nd od (nd ob (nd (oc 104) nl nl) nl) (nd (oe 78) nl nl))) (nd (oc 8) (nd ob (nd (oe 46) (nd (oa 98) nl nl) nl) (nd (oc 72) nl nl)) (nd (oa 34) (nd od (nd (oe 110) nl nl) nl) (nd ob nl nl))))) (nd (sh.o_25 P) (nd (sh.o_41 P) (nd (oc 0) (nd ob (nd (oe 38) (nd (oa 90) nl nl) nl) (nd (oc 64) nl nl)) (nd (oa 26) (nd od (nd (oe 102) nl nl) nl) (nd ob nl nl))) (nd (oe 6) (nd od (nd ob (nd (oc 96) nl nl) nl) (nd (oe 70) nl nl)) (nd (oc 32) (nd (oa 58) (nd ob nl nl) nl) (nd od nl nl)))) (nd (sh.o_61 P) (nd od (nd (oc 16) (nd (oa 42) (nd ob nl nl) nl) (nd od nl nl)) (nd ob (nd (oe 54) (nd (oa 106) nl nl) nl) (nd (oc 80) nl nl))) (nd (oa 10) (nd (oe 22) (nd (oc 48) (nd od nl nl) nl) (nd (oa 74) nl nl)) (nd od (nd ob nl nl) (nd (oe 86) nl nl))))))) (nd (boot_o_6 P) (nd (boot_o_10 P) (nd (sh.o_11 P) (nd (sh.o_31 P) (nd (sh.o_67 P) (nd ob (nd (oe 36) (nd (oa 88) nl nl) nl) (nd (oc 62) nl nl)) (nd (oa 24) (nd od (nd (oe 100) nl nl) nl) (nd ob nl nl))) (nd (oe 4) (nd od (nd ob (nd (oc 94) nl nl) nl) (nd (oe 68) nl nl)) (nd (oc 30) (nd (oa 56) (nd ob nl nl) nl) (nd od nl nl)))) (nd (sh.o_51 P) (nd od (nd (oc 14) (nd (oa 40) (nd ob nl nl) nl) (nd od nl nl)) (nd ob (nd (oe 52) (nd (oa 104) nl nl) nl) (nd (oc 78) nl nl))) (nd (oa 8) (nd (oe 20) (nd (oc 46) (nd od nl nl) nl) (nd (oa 72) nl nl)) (nd od (nd ob (nd (oc 110) nl nl) nl) (nd (oe 84) nl nl))))) (nd (sh.o_19 P) (nd (sh.o_39 P) (nd (oa 0) (nd (oe 12) (nd (oc 38) (nd od nl nl) nl) (nd (oa 64) nl nl)) (nd od (nd ob (nd (oc 102) nl nl) nl) (nd (oe 76) nl nl))) (nd (oc 6) (nd ob (nd (oe 44) (nd (oa 96) nl nl) nl) (nd (oc 70) nl nl)) (nd (oa 32) (nd od (nd (oe 108) nl nl) nl) (nd ob nl nl)))) (nd (sh.o_59 P) (nd ob (nd (oa 16) (nd od (nd (oe 92) nl nl) nl) (nd ob nl nl)) (nd (oe 28) (nd (oc 54) (nd od nl nl) nl) (nd (oa 80) nl nl))) (nd od (nd (oc 22) (nd (oa 48) (nd ob nl nl) nl) (nd od nl nl)) (nd ob (nd (oe 60) nl nl) (nd (oc 86) nl nl)))))) (nd (sh.o_4 P) (nd (sh.o_15 P) (nd (sh.o_35 P) (nd oR (nd (oa 12) (nd od (nd (oe 88) nl nl) nl) (nd ob nl nl)) (nd (oe 24) (nd (oc 50) (nd od nl nl) nl) (nd (oa 76) nl nl))) (nd od (nd (oc 18) (nd (oa 44) (nd ob nl nl) nl) (nd od nl nl)) (nd ob (nd (oe 56) (nd (oa 108) nl nl) nl) (nd (oc 82) nl nl)))) (nd (sh.o_55 P) (nd (oc 2) (nd ob (nd (oe 40) (nd (oa 92) nl nl) nl) (nd (oc 66) nl nl)) (nd (oa 28) (nd od (nd (oe 104) nl nl) nl) (nd ob nl nl))) (nd (oe 8) (nd od (nd ob (nd (oc 98) nl nl) nl) (nd (oe 72) nl nl)) (nd (oc 34) (nd (oa 60) (nd ob nl nl) nl) (nd od nl nl))))) (nd (sh.o_27 P) (nd (sh.o_43 P) (nd (oe 0) (nd od (nd ob (nd (oc 90) nl nl) nl) (nd (oe 64) nl nl)) (nd (oc 26) (nd (oa 52) (nd ob nl nl) nl) (nd od nl nl))) (nd ob (nd (oa 20) (nd od (nd (oe 96) nl nl) nl) (nd ob nl nl)) (nd (oe 32) (nd (oc 58) (nd od nl nl) nl) (nd (oa 84) nl nl)))) (nd (sh.o_63 P) (nd (oa 4) (nd (oe 16) (nd (oc 42) (nd od nl nl) nl) (nd (oa 68) nl nl)) (nd od (nd ob (nd (oc 106) nl nl) nl) (nd (oe 80) nl nl))) (nd (oc 10) (nd ob (nd (oe 48) (nd (oa 100) nl nl) nl) (nd (oc 74) nl nl)) (nd (oa 36) (nd od nl nl) (nd ob nl nl)))))))))
noncomputable def st112 (w : World) (os : OsState) : SharedT := ⟨tr112 w.params, 634, {}, ⟨[]⟩, {}, 606, os⟩
noncomputable def tr128 (P : Params) : BT := (nd (boot_o_0 P) (nd (boot_o_1 P) (nd (sh.o_47 P) (nd (boot_o_7 P) (nd (sh.o_8 P) (nd (sh.o_28 P) (nd (sh.o_64 P) (nd od (nd ob (nd (oc 87) nl nl) nl) (nd (oe 61) (nd (oa 113) nl nl) nl)) (nd (oc 23) (nd (oa 49) (nd ob nl nl) nl) (nd od (nd (oe 125) nl nl) nl))) (nd ob (nd (oa 17) (nd od (nd (oe 93) nl nl) nl) (nd ob (nd (oc 119) nl nl) nl)) (nd (oe 29) (nd (oc 55) (nd od nl nl) nl) (nd (oa 81) nl nl)))) (nd (sh.o_44 P) (nd (oa 1) (nd (oe 13) (nd (oc 39) (nd od nl nl) nl) (nd (oa 65) (nd ob nl nl) nl)) (nd od (nd ob (nd (oc 103) nl nl) nl) (nd (oe 77) nl nl))) (nd (oc 7) (nd ob (nd (oe 45) (nd (oa 97) nl nl) nl) (nd (oc 71) (nd od nl nl) nl)) (nd (oa 33) (nd od (nd (oe 109) nl nl) nl) (nd ob nl nl))))) (nd (sh.o_16 P) (nd (sh.o_36 P) (nd (oIt 128) (nd ob (nd (oe 37) (nd (oa 89) nl nl) nl) (nd (oc 63) (nd od nl nl) nl)) (nd (oa 25) (nd od (nd (oe 101) nl nl) nl) (nd ob (nd (oc 127) nl nl) nl))) (nd (oe 5) (nd od (nd ob (nd (oc 95) nl nl) nl) (nd (oe 69) (nd (oa 121) nl nl) nl)) (nd (oc 31) (nd (oa 57) (nd ob nl nl) nl) (nd od nl nl)))) (nd (sh.o_56 P) (nd od (nd (oc 15) (nd (oa 41) (nd ob nl nl) nl) (nd od (nd (oe 117) nl nl) nl)) (nd ob (nd (oe 53) (nd (oa 105) nl nl) nl) (nd (oc 79) nl nl))) (nd (oa 9) (nd (oe 21) (nd (oc 47) (nd od nl nl) nl) (nd (oa 73) (nd ob nl nl) nl)) (nd od (nd ob (nd (oc 111) nl nl) nl) (nd (oe 85) nl nl)))))) (nd (sh.o_1 P) (nd (sh.o_12 P) (nd (sh.o_32 P) (nd (sh.o_68 P) (nd (oc 11) (nd (oa 37) (nd ob nl nl) nl) (nd od (nd (oe 113) nl nl) nl)) (nd ob (nd (oe 49) (nd (oa 101) nl nl) nl) (nd (oc 75) (nd od nl nl) nl))) (nd (oa 5) (nd (oe 17) (nd (oc 43) (nd od nl nl) nl) (nd (oa 69) (nd ob nl nl) nl)) (nd od (nd ob (nd (oc 107) nl nl) nl) (nd (oe 81) nl nl)))) (nd (sh.o_52 P) (nd (oe 1) (nd od (nd ob (nd (oc 91) nl nl) nl) (nd (oe 65) (nd (oa 117) nl nl) nl)) (nd (oc 27) (nd (oa 53) (nd ob nl nl) nl) (nd od nl nl))) (nd ob (nd (oa 21) (nd od (nd (oe 97) nl nl) nl) (nd ob (nd (oc 123) nl nl) nl)) (nd (oe 33) (nd (oc 59) (nd od nl nl) nl) (nd (oa 85) nl nl))))) (nd (sh.o_20 P) (nd (sh.o_40 P) (nd ob (nd (oa 13) (nd od (nd (oe 89) nl nl) nl) (nd ob (nd (oc 115) nl nl) nl)) (nd (oe 25) (nd (oc 51) (nd od nl nl) nl) (nd (oa 77) nl nl))) (nd od (nd (oc 19) (nd (oa 45) (nd ob nl nl) nl) (nd od (nd (oe 121) nl nl) nl)) (nd ob (nd (oe 57) (nd (oa 109) nl nl) nl) (nd (oc 83) nl nl)))) (nd (sh.o_60 P) (nd (oc 3) (nd ob (nd (oe 41) (nd (oa 93) nl nl) nl) (nd (oc 67) (nd od nl nl) nl)) (nd (oa 29) (nd od (nd (oe 105) nl nl) nl) (nd ob nl nl))) (nd (oe 9) (nd od (nd ob (nd (oc 99) nl nl) nl) (nd (oe 73) (nd (oa 125) nl nl) nl)) (nd (oc 35) (nd (oa 61) (nd ob nl nl) nl) (nd od nl nl))))))) (nd (boot_o_5 P) (nd (boot_o_9 P) (nd (sh.o_10 P) (nd (sh.o_30 P) (nd (sh.o_66 P) (nd (oa 11) (nd od (nd (oe 87) nl nl) nl) (nd ob (nd (oc 113) nl nl) nl)) (nd (oe 23) (nd (oc 49) (nd od nl nl) nl) (nd (oa 75) (nd ob nl nl) nl))) (nd od (nd (oc 17) (nd (oa 43) (nd ob nl nl) nl) (nd od (nd (oe 119) nl nl) nl)) (nd ob (nd (oe 55) (nd (oa 107) nl nl) nl) (nd (oc 81) nl nl)))) (nd (sh.o_50 P) (nd (oc 1) (nd ob (nd (oe 39) (nd (oa 91) nl nl) nl) (nd (oc 65) (nd od nl nl) nl)) (nd (oa 27) (nd od (nd (oe 103) nl nl) nl) (nd ob nl nl))) (nd (oe 7) (nd od (nd ob (nd (oc 97) nl nl) nl) (nd (oe 71) (nd (oa 123) nl nl) nl)) (nd (oc 33) (nd (oa 59) (nd ob nl nl) nl) (nd od nl nl))))) (nd (sh.o_18 P) (nd (sh.o_38 P) (nd (oDc P 128) (nd od (nd ob (nd (oc 89) nl nl) nl) (nd (oe 63) (nd (oa 115) nl nl) nl)) (nd (oc 25) (nd (oa 51) (nd ob nl nl) nl) (nd od (nd (oe 127) nl nl) nl))) (nd ob (nd (oa 19) (nd od (nd (oe 95) nl nl) nl) (nd ob (nd (oc 121) nl nl) nl)) (nd (oe 31) (nd (oc 57) (nd od nl nl) nl) (nd (oa 83) nl nl)))) (nd (sh.o_58 P) (nd (oa 3) (nd (oe 15) (nd (oc 41) (nd od nl nl) nl) (nd (oa 67) (nd ob nl nl) nl)) (nd od (nd ob (nd (oc 105) nl nl) nl) (nd (oe 79) nl nl))) (nd (oc 9) (nd ob (nd (oe 47) (nd (oa 99) nl nl) nl) (nd (oc 73) (nd od nl nl) nl)) (nd (oa 35) (nd od (nd (oe 111) nl nl) nl) (nd ob nl nl)))))) (nd (sh.o_3 P) (nd (sh.o_14 P) (nd (sh.o_34 P) (nd (sh.o_70 P) (nd (oe 11) (nd (oc 37) (nd od nl nl) nl) (nd (oa 63) (nd ob nl nl) nl)) (nd od (nd ob (nd (oc 101) nl nl) nl) (nd (oe 75) (nd (oa 127) nl nl) nl))) (nd (oc 5) (nd ob (nd (oe 43) (nd (oa 95) nl nl) nl) (nd (oc 69) (nd od nl nl) nl)) (nd (oa 31) (nd od (nd (oe 107) nl nl) nl) (nd ob nl nl)))) (nd (sh.o_54 P) (nd ob (nd (oa 15) (nd od (nd (oe 91) nl nl) nl) (nd ob (nd (oc 117) nl nl) nl)) (nd (oe 27) (nd (oc 53) (nd od nl nl) nl) (nd (oa 79) nl nl))) (nd od (nd (oc 21) (nd (oa 47) (nd ob nl nl) nl) (nd od (nd (oe 123) nl nl) nl)) (nd ob (nd (oe 59) (nd (oa 111) nl nl) nl) (nd (oc 85) nl nl))))) (nd (sh.o_26 P) (nd (sh.o_42 P) (nd od (nd (oc 13) (nd (oa 39) (nd ob nl nl) nl) (nd od (nd (oe 115) nl nl) nl)) (nd ob (nd (oe 51) (nd (oa 103) nl nl) nl) (nd (oc 77) nl nl))) (nd (oa 7) (nd (oe 19) (nd (oc 45) (nd od nl nl) nl) (nd (oa 71) (nd ob nl nl) nl)) (nd od (nd ob (nd (oc 109) nl nl) nl) (nd (oe 83) nl nl)))) (nd (sh.o_62 P) (nd (oe 3) (nd od (nd ob (nd (oc 93) nl nl) nl) (nd (oe 67) (nd (oa 119) nl nl) nl)) (nd (oc 29) (nd (oa 55) (nd ob nl nl) nl) (nd od nl nl))) (nd ob (nd (oa 23) (nd od (nd (oe 99) nl nl) nl) (nd ob (nd (oc 125) nl nl) nl)) (nd (oe 35) (nd (oc 61) (nd od nl nl) nl) (nd (oa 87) nl nl)))))))) (nd (sh.o_5 P) (nd (boot_o_4 P) (nd (boot_o_8 P) (nd (sh.o_9 P) (nd (sh.o_29 P) (nd (sh.o_65 P) (nd (oe 10) (nd (oc 36) (nd od nl nl) nl) (nd (oa 62) (nd ob nl nl) nl)) (nd od (nd ob (nd (oc 100) nl nl) nl) (nd (oe 74) (nd (oa 126) nl nl) nl))) (nd (oc 4) (nd ob (nd (oe 42) (nd (oa 94) nl nl) nl) (nd (oc 68) (nd od nl nl) nl)) (nd (oa 30) (nd od (nd (oe 106) nl nl) nl) (nd ob nl nl)))) (nd (sh.o_45 P) (nd ob (nd (oa 14) (nd od (nd (oe 90) nl nl) nl) (nd ob (nd (oc 116) nl nl) nl)) (nd (oe 26) (nd (oc 52) (nd od nl nl) nl) (nd (oa 78) nl nl))) (nd od (nd (oc 20) (nd (oa 46) (nd ob nl nl) nl) (nd od (nd (oe 122) nl nl) nl)) (nd ob (nd (oe 58) (nd (oa 110) nl nl) nl) (nd (oc 84) nl nl))))) (nd (sh.o_49 P) (nd (sh.o_37 P) (nd (oLs 128) (nd (oc 12) (nd (oa 38) (nd ob nl nl) nl) (nd od (nd (oe 114) nl nl) nl)) (nd ob (nd (oe 50) (nd (oa 102) nl nl) nl) (nd (oc 76) (nd od nl nl) nl))) (nd (oa 6) (nd (oe 18) (nd (oc 44) (nd od nl nl) nl) (nd (oa 70) (nd ob nl nl) nl)) (nd od (nd ob (nd (oc 108) nl nl) nl) (nd (oe 82) nl nl)))) (nd (sh.o_57 P) (nd (oe 2) (nd od (nd ob (nd (oc 92) nl nl) nl) (nd (oe 66) (nd (oa 118) nl nl) nl)) (nd (oc 28) (nd (oa 54) (nd ob nl nl) nl) (nd od nl nl))) (nd ob (nd (oa 22) (nd od (nd (oe 98) nl nl) nl) (nd ob (nd (oc 124) nl nl) nl)) (nd (oe 34) (nd (oc 60) (nd od nl nl) nl) (nd (oa 86) nl nl)))))) (nd (sh.o_48 P) (nd (sh.o_13 P) (nd (sh.o_33 P) (nd (sh.o_69 P) (nd od (nd ob (nd (oc 88) nl nl) nl) (nd (oe 62) (nd (oa 114) nl nl) nl)) (nd (oc 24) (nd (oa 50) (nd ob nl nl) nl) (nd od (nd (oe 126) nl nl) nl))) (nd ob (nd (oa 18) (nd od (nd (oe 94) nl nl) nl) (nd ob (nd (oc 120) nl nl) nl)) (nd (oe 30) (nd (oc 56) (nd od nl nl) nl) (nd (oa 82) nl nl)))) (nd (sh.o_53 P) (nd (oa 2) (nd (oe 14) (nd (oc 40) (nd od nl nl) nl) (nd (oa 66) (nd ob nl nl) nl)) (nd od (nd ob (nd (oc 104) nl nl) nl) (nd (oe 78) nl nl))) (nd (oc 8) (nd ob (nd (oe 46) (nd (oa 98) nl nl) nl) (nd (oc 72) (nd od nl nl) nl)) (nd (oa 34) (nd od (nd (oe 110) nl nl) nl) (nd ob nl nl))))) (nd (sh.o_25 P) (nd (sh.o_41 P) (nd (oc 0) (nd ob (nd (oe 38) (nd (oa 90) nl nl) nl) (nd (oc 64) (nd od nl nl) nl)) (nd (oa 26) (nd od (nd (oe 102) nl nl) nl) (nd ob nl nl))) (nd (oe 6) (nd od (nd ob (nd (oc 96) nl nl) nl) (nd (oe 70) (nd (oa 122) nl nl) nl)) (nd (oc 32) (nd (oa 58) (nd ob nl nl) nl) (nd od nl nl)))) (nd (sh.o_61 P) (nd od (nd (oc 16) (nd (oa 42) (nd ob nl nl) nl) (nd od (nd (oe 118) nl nl) nl)) (nd ob (nd (oe 54) (nd (oa 106) nl nl) nl) (nd (oc 80) nl nl))) (nd (oa 10) (nd (oe 22) (nd (oc 48) (nd od nl nl) nl) (nd (oa 74) (nd ob nl nl) nl)) (nd od (nd ob (nd (oc 112) nl nl) nl) (nd (oe 86) nl nl))))))) (nd (boot_o_6 P) (nd (boot_o_10 P) (nd (sh.o_11 P) (nd (sh.o_31 P) (nd (sh.o_67 P) (nd ob (nd (oe 36) (nd (oa 88) nl nl) nl) (nd (oc 62) (nd od nl nl) nl)) (nd (oa 24) (nd od (nd (oe 100) nl nl) nl) (nd ob (nd (oc 126) nl nl) nl))) (nd (oe 4) (nd od (nd ob (nd (oc 94) nl nl) nl) (nd (oe 68) (nd (oa 120) nl nl) nl)) (nd (oc 30) (nd (oa 56) (nd ob nl nl) nl) (nd od nl nl)))) (nd (sh.o_51 P) (nd od (nd (oc 14) (nd (oa 40) (nd ob nl nl) nl) (nd od (nd (oe 116) nl nl) nl)) (nd ob (nd (oe 52) (nd (oa 104) nl nl) nl) (nd (oc 78) nl nl))) (nd (oa 8) (nd (oe 20) (nd (oc 46) (nd od nl nl) nl) (nd (oa 72) (nd ob nl nl) nl)) (nd od (nd ob (nd (oc 110) nl nl) nl) (nd (oe 84) nl nl))))) (nd (sh.o_19 P) (nd (sh.o_39 P) (nd (oa 0) (nd (oe 12) (nd (oc 38) (nd od nl nl) nl) (nd (oa 64) (nd ob nl nl) nl)) (nd od (nd ob (nd (oc 102) nl nl) nl) (nd (oe 76) nl nl))) (nd (oc 6) (nd ob (nd (oe 44) (nd (oa 96) nl nl) nl) (nd (oc 70) (nd od nl nl) nl)) (nd (oa 32) (nd od (nd (oe 108) nl nl) nl) (nd ob nl nl)))) (nd (sh.o_59 P) (nd ob (nd (oa 16) (nd od (nd (oe 92) nl nl) nl) (nd ob (nd (oc 118) nl nl) nl)) (nd (oe 28) (nd (oc 54) (nd od nl nl) nl) (nd (oa 80) nl nl))) (nd od (nd (oc 22) (nd (oa 48) (nd ob nl nl) nl) (nd od (nd (oe 124) nl nl) nl)) (nd ob (nd (oe 60) (nd (oa 112) nl nl) nl) (nd (oc 86) nl nl)))))) (nd (sh.o_4 P) (nd (sh.o_15 P) (nd (sh.o_35 P) (nd oR (nd (oa 12) (nd od (nd (oe 88) nl nl) nl) (nd ob (nd (oc 114) nl nl) nl)) (nd (oe 24) (nd (oc 50) (nd od nl nl) nl) (nd (oa 76) (nd ob nl nl) nl))) (nd od (nd (oc 18) (nd (oa 44) (nd ob nl nl) nl) (nd od (nd (oe 120) nl nl) nl)) (nd ob (nd (oe 56) (nd (oa 108) nl nl) nl) (nd (oc 82) nl nl)))) (nd (sh.o_55 P) (nd (oc 2) (nd ob (nd (oe 40) (nd (oa 92) nl nl) nl) (nd (oc 66) (nd od nl nl) nl)) (nd (oa 28) (nd od (nd (oe 104) nl nl) nl) (nd ob nl nl))) (nd (oe 8) (nd od (nd ob (nd (oc 98) nl nl) nl) (nd (oe 72) (nd (oa 124) nl nl) nl)) (nd (oc 34) (nd (oa 60) (nd ob nl nl) nl) (nd od nl nl))))) (nd (sh.o_27 P) (nd (sh.o_43 P) (nd (oe 0) (nd od (nd ob (nd (oc 90) nl nl) nl) (nd (oe 64) (nd (oa 116) nl nl) nl)) (nd (oc 26) (nd (oa 52) (nd ob nl nl) nl) (nd od nl nl))) (nd ob (nd (oa 20) (nd od (nd (oe 96) nl nl) nl) (nd ob (nd (oc 122) nl nl) nl)) (nd (oe 32) (nd (oc 58) (nd od nl nl) nl) (nd (oa 84) nl nl)))) (nd (sh.o_63 P) (nd (oa 4) (nd (oe 16) (nd (oc 42) (nd od nl nl) nl) (nd (oa 68) (nd ob nl nl) nl)) (nd od (nd ob (nd (oc 106) nl nl) nl) (nd (oe 80) nl nl))) (nd (oc 10) (nd ob (nd (oe 48) (nd (oa 100) nl nl) nl) (nd (oc 74) (nd od nl nl) nl)) (nd (oa 36) (nd od (nd (oe 112) nl nl) nl) (nd ob nl nl)))))))))
noncomputable def st128 (w : World) (os : OsState) : SharedT := ⟨tr128 w.params, 714, {}, ⟨[]⟩, {}, 654, os⟩
noncomputable def tr144 (P : Params) : BT := (nd (boot_o_0 P) (nd (boot_o_1 P) (nd (sh.o_47 P) (nd (boot_o_7 P) (nd (sh.o_8 P) (nd (sh.o_28 P) (nd (sh.o_64 P) (nd od (nd ob (nd (oc 87) nl nl) (nd od nl nl)) (nd (oe 61) (nd (oa 113) nl nl) nl)) (nd (oc 23) (nd (oa 49) (nd ob nl nl) nl) (nd od (nd (oe 125) nl nl) nl))) (nd ob (nd (oa 17) (nd od (nd (oe 93) nl nl) nl) (nd ob (nd (oc 119) nl nl) nl)) (nd (oe 29) (nd (oc 55) (nd od nl nl) nl) (nd (oa 81) (nd ob nl nl) nl)))) (nd (sh.o_44 P) (nd (oa 1) (nd (oe 13) (nd (oc 39) (nd od nl nl) (nd (oe 141) nl nl)) (nd (oa 65) (nd ob nl nl) nl)) (nd od (nd ob (nd (oc 103) nl nl) nl) (nd (oe 77) (nd (oa 129) nl nl) nl))) (nd (oc 7) (nd ob (nd (oe 45) (nd (oa 97) nl nl) nl) (nd (oc 71) (nd od nl nl) nl)) (nd (oa 33) (nd od (nd (oe 109) nl nl) nl) (nd ob (nd (oc 135) nl nl) nl))))) (nd (sh.o_16 P) (nd (sh.o_36 P) (nd (oIt 144) (nd ob (nd (oe 37) (nd (oa 89) nl nl) (nd ob nl nl)) (nd (oc 63) (nd od nl nl) nl)) (nd (oa 25) (nd od (nd (oe 101) nl nl) nl) (nd ob (nd (oc 127) nl nl) nl))) (nd (oe 5) (nd od (nd ob (nd (oc 95) nl nl) nl) (nd (oe 69) (nd (oa 121) nl nl) nl)) (nd (oc 31) (nd (oa 57) (nd ob nl nl) nl) (nd od (nd (oe 133) nl nl) nl)))) (nd (sh.o_56 P) (nd od (nd (oc 15) (nd (oa 41) (nd ob nl nl) (nd (oc 143) nl nl)) (nd od (nd (oe 117) nl nl) nl)) (nd ob (nd (oe 53) (nd (oa 105) nl nl) nl) (nd (oc 79) (nd od nl nl) nl))) (nd (oa 9) (nd (oe 21) (nd (oc 47) (nd od nl nl) nl) (nd (oa 73) (nd ob nl nl) nl)) (nd od (nd ob (nd (oc 111) nl nl) nl) (nd (oe 85) (nd (oa 137) nl nl) nl)))))) (nd (sh.o_1 P) (nd (sh.o_12 P) (nd (sh.o_32 P) (nd (sh.o_68 P) (nd (oc 11) (nd (oa 37) (nd ob nl nl) (nd (oc 139) nl nl)) (nd od (nd (oe 113) nl nl) nl)) (nd ob (nd (oe 49) (nd (oa 101) nl nl) nl) (nd (oc 75) (nd od nl nl) nl))) (nd (oa 5) (nd (oe 17) (nd (oc 43) (nd od nl nl) nl) (nd (oa 69) (nd ob nl nl) nl)) (nd od (nd ob (nd (oc 107) nl nl) nl) (nd (oe 81) (nd (oa 133) nl nl) nl)))) (nd (sh.o_52 P) (nd (oe 1) (nd od (nd ob (nd (oc 91) nl nl) (nd od nl nl)) (nd (oe 65) (nd (oa 117) nl nl) nl)) (nd (oc 27) (nd (oa 53) (nd ob nl nl) nl) (nd od (nd (oe 129) nl nl) nl))) (nd ob (nd (oa 21) (nd od (nd (oe 97) nl nl) nl) (nd ob (nd (oc 123) nl nl) nl)) (nd (oe 33) (nd (oc 59) (nd od nl nl) nl) (nd (oa 85) (nd ob nl nl) nl))))) (nd (sh.o_20 P) (nd (sh.o_40 P) (nd ob (nd (oa 13) (nd od (nd (oe 89) nl nl) (nd (oa 141) nl nl)) (nd ob (nd (oc 115) nl nl) nl)) (nd (oe 25) (nd (oc 51) (nd od nl nl) nl) (nd (oa 77) (nd ob nl nl) nl))) (nd od (nd (oc 19) (nd (oa 45) (nd ob nl nl) nl) (nd od (nd (oe 121) nl nl) nl)) (nd ob (nd (oe 57) (nd (oa 109) nl nl) nl) (nd (oc 83) (nd od nl nl) nl)))) (nd (sh.o_60 P) (nd (oc 3) (nd ob (nd (oe 41) (nd (oa 93) nl nl) nl) (nd (oc 67) (nd od nl nl) nl)) (nd (oa 29) (nd od (nd (oe 105) nl nl) nl) (nd ob (nd (oc 131) nl nl) nl))) (nd (oe 9) (nd od (nd ob (nd (oc 99) nl nl) nl) (nd (oe 73) (nd (oa 125) nl nl) nl)) (nd (oc 35) (nd (oa 61) (nd ob nl nl) nl) (nd od (nd (oe 137) nl nl) nl))))))) (nd (boot_o_5 P) (nd (boot_o_9 P) (nd (sh.o_10 P) (nd (sh.o_30 P) (nd (sh.o_66 P) (nd (oa 11) (nd od (nd (oe 87) nl nl) (nd (oa 139) nl nl)) (nd ob (nd (oc 113) nl nl) nl)) (nd (oe 23) (nd (oc 49) (nd od nl nl) nl) (nd (oa 75) (nd ob nl nl) nl))) (nd od (nd (oc 17) (nd (oa 43) (nd ob nl nl) nl) (nd od (nd (oe 119) nl nl) nl)) (nd ob (nd (oe 55) (nd (oa 107) nl nl) nl) (nd (oc 81) (nd od nl nl) nl)))) (nd (sh.o_50 P) (nd (oc 1) (nd ob (nd (oe 39) (nd (oa 91) nl nl) (nd ob nl nl)) (nd (oc 65) (nd od nl nl) nl)) (nd (oa 27) (nd od (nd (oe 103) nl nl) nl) (nd ob (nd (oc 129) nl nl) nl))) (nd (oe 7) (nd od (nd ob (nd (oc 97) nl nl) nl) (nd (oe 71) (nd (oa 123) nl nl) nl)) (nd (oc 33) (nd (oa 59) (nd ob nl nl) nl) (nd od (nd (oe 135) nl nl) nl))))) (nd (sh.o_18 P) (nd (sh.o_38 P) (nd (oDc P 144) (nd od (nd ob (nd (oc 89) nl nl) (nd od nl nl)) (nd (oe 63) (nd (oa 115) nl nl) nl)) (nd (oc 25) (nd (oa 51) (nd ob nl nl) nl) (nd od (nd (oe 127) nl nl) nl))) (nd ob (nd (oa 19) (nd od (nd (oe 95) nl nl) nl) (nd ob (nd (oc 121) nl nl) nl)) (nd (oe 31) (nd (oc 57) (nd od nl nl) nl) (nd (oa 83) (nd ob nl nl) nl)))) (nd (sh.o_58 P) (nd (oa 3) (nd (oe 15) (nd (oc 41) (nd od nl nl) (nd (oe 143) nl nl)) (nd (oa 67) (nd ob nl nl) nl)) (nd od (nd ob (nd (oc 105) nl nl) nl) (nd (oe 79) (nd (oa 131) nl nl) nl))) (nd (oc 9) (nd ob (nd (oe 47) (nd (oa 99) nl nl) nl) (nd (oc 73) (nd od nl nl) nl)) (nd (oa 35) (nd od (nd (oe 111) nl nl) nl) (nd ob (nd (oc 137) nl nl) nl)))))) (nd (sh.o_3 P) (nd (sh.o_14 P) (nd (sh.o_34 P) (nd (sh.o_70 P) (nd (oe 11) (nd (oc 37) (nd od nl nl) (nd (oe 139) nl nl)) (nd (oa 63) (nd ob nl nl) nl)) (nd od (nd ob (nd (oc 101) nl nl) nl) (nd (oe 75) (nd (oa 127) nl nl) nl))) (nd (oc 5) (nd ob (nd (oe 43) (nd (oa 95) nl nl) nl) (nd (oc 69) (nd od nl nl) nl)) (nd (oa 31) (nd od (nd (oe 107) nl nl) nl) (nd ob (nd (oc 133) nl nl) nl)))) (nd (sh.o_54 P) (nd ob (nd (oa 15) (nd od (nd (oe 91) nl nl) (nd (oa 143) nl nl)) (nd ob (nd (oc 117) nl nl) nl)) (nd (oe 27) (nd (oc 53) (nd od nl nl) nl) (nd (oa 79) (nd ob nl nl) nl))) (nd od (nd (oc 21) (nd (oa 47) (nd ob nl nl) nl) (nd od (nd (oe 123) nl nl) nl)) (nd ob (nd (oe 59) (nd (oa 111) nl nl) nl) (nd (oc 85) (nd od nl nl) nl))))) (nd (sh.o_26 P) (nd (sh.o_42 P) (nd od (nd (oc 13) (nd (oa 39) (nd ob nl nl) (nd (oc 141) nl nl)) (nd od (nd (oe 115) nl nl) nl)) (nd ob (nd (oe 51) (nd (oa 103) nl nl) nl) (nd (oc 77) (nd od nl nl) nl))) (nd (oa 7) (nd (oe 19) (nd (oc 45) (nd od nl nl) nl) (nd (oa 71) (nd ob nl nl) nl)) (nd od (nd ob (nd (oc 109) nl nl) nl) (nd (oe 83) (nd (oa 135) nl nl) nl)))) (nd (sh.o_62 P) (nd (oe 3) (nd od (nd ob (nd (oc 93) nl nl) nl) (nd (oe 67) (nd (oa 119) nl nl) nl)) (nd (oc 29) (nd (oa 55) (nd ob nl nl) nl) (nd od (nd (oe 131) nl nl) nl))) (nd ob (nd (oa 23) (nd od (nd (oe 99) nl nl) nl) (nd ob (nd (oc 125) nl nl) nl)) (nd (oe 35) (nd (oc 61) (nd od nl nl) nl) (nd (oa 87) (nd ob nl nl) nl)))))))) (nd (sh.o_5 P) (nd (boot_o_4 P) (nd (boot_o_8 P) (nd (sh.o_9 P) (nd (sh.o_29 P) (nd (sh.o_65 P) (nd (oe 10) (nd (oc 36) (nd od nl nl) (nd (oe 138) nl nl)) (nd (oa 62) (nd ob nl nl) nl)) (nd od (nd ob (nd (oc 100) nl nl) nl) (nd (oe 74) (nd (oa 126) nl nl) nl))) (nd (oc 4) (nd ob (nd (oe 42) (nd (oa 94) nl nl) nl) (nd (oc 68) (nd od nl nl) nl)) (nd (oa 30) (nd od (nd (oe 106) nl nl) nl) (nd ob (nd (oc 132) nl nl) nl)))) (nd (sh.o_45 P) (nd ob (nd (oa 14) (nd od (nd (oe 90) nl nl) (nd (oa 142) nl nl)) (nd ob (nd (oc 116) nl nl) nl)) (nd (oe 26) (nd (oc 52) (nd od nl nl) nl) (nd (oa 78) (nd ob nl nl) nl))) (nd od (nd (oc 20) (nd (oa 46) (nd ob nl nl) nl) (nd od (nd (oe 122) nl nl) nl)) (nd ob (nd (oe 58) (nd (oa 110) nl nl) nl) (nd (oc 84) (nd od nl nl) nl))))) (nd (sh.o_49 P) (nd (sh.o_37 P) (nd (oLs 144) (nd (oc 12) (nd (oa 38) (nd ob nl nl) (nd (oc 140) nl nl)) (nd od (nd (oe 114) nl nl) nl)) (nd ob (nd (oe 50) (nd (oa 102) nl nl) nl) (nd (oc 76) (nd od nl nl) nl))) (nd (oa 6) (nd (oe 18) (nd (oc 44) (nd od nl nl) nl) (nd (oa 70) (nd ob nl nl) nl)) (nd od (nd ob (nd (oc 108) nl nl) nl) (nd (oe 82) (nd (oa 134) nl nl) nl)))) (nd (sh.o_57 P) (nd (oe 2) (nd od (nd ob (nd (oc 92) nl nl) (nd od nl nl)) (nd (oe 66) (nd (oa 118) nl nl) nl)) (nd (oc 28) (nd (oa 54) (nd ob nl nl) nl) (nd od (nd (oe 130) nl nl) nl))) (nd ob (nd (oa 22) (nd od (nd (oe 98) nl nl) nl) (nd ob (nd (oc 124) nl nl) nl)) (nd (oe 34) (nd (oc 60) (nd od nl nl) nl) (nd (oa 86) (nd ob nl nl) nl)))))) (nd (sh.o_48 P) (nd (sh.o_13 P) (nd (sh.o_33 P) (nd (sh.o_69 P) (nd od (nd ob (nd (oc 88) nl nl) (nd od nl nl)) (nd (oe 62) (nd (oa 114) nl nl) nl)) (nd (oc 24) (nd (oa 50) (nd ob nl nl) nl) (nd od (nd (oe 126) nl nl) nl))) (nd ob (nd (oa 18) (nd od (nd (oe 94) nl nl) nl) (nd ob (nd (oc 120) nl nl) nl)) (nd (oe 30) (nd (oc 56) (nd od nl nl) nl) (nd (oa 82) (nd ob nl nl) nl)))) (nd (sh.o_53 P) (nd (oa 2) (nd (oe 14) (nd (oc 40) (nd od nl nl) (nd (oe 142) nl nl)) (nd (oa 66) (nd ob nl nl) nl)) (nd od (nd ob (nd (oc 104) nl nl) nl) (nd (oe 78) (nd (oa 130) nl nl) nl))) (nd (oc 8) (nd ob (nd (oe 46) (nd (oa 98) nl nl) nl) (nd (oc 72) (nd od nl nl) nl)) (nd (oa 34) (nd od (nd (oe 110) nl nl) nl) (nd ob (nd (oc 136) nl nl) nl))))) (nd (sh.o_25 P) (nd (sh.o_41 P) (nd (oc 0) (nd ob (nd (oe 38) (nd (oa 90) nl nl) (nd ob nl nl)) (nd (oc 64) (nd od nl nl) nl)) (nd (oa 26) (nd od (nd (oe 102) nl nl) nl) (nd ob (nd (oc 128) nl nl) nl))) (nd (oe 6) (nd od (nd ob (nd (oc 96) nl nl) nl) (nd (oe 70) (nd (oa 122) nl nl) nl)) (nd (oc 32) (nd (oa 58) (nd ob nl nl) nl) (nd od (nd (oe 134) nl nl) nl)))) (nd (sh.o_61 P) (nd od (nd (oc 16) (nd (oa 42) (nd ob nl nl) nl) (nd od (nd (oe 118) nl nl) nl)) (nd ob (nd (oe 54) (nd (oa 106) nl nl) nl) (nd (oc 80) (nd od nl nl) nl))) (nd (oa 10) (nd (oe 22) (nd (oc 48) (nd od nl nl) nl) (nd (oa 74) (nd ob nl nl) nl)) (nd od (nd ob (nd (oc 112) nl nl) nl) (nd (oe 86) (nd (oa 138) nl nl) nl))))))) (nd (boot_o_6 P) (nd (boot_o_10 P) (nd (sh.o_11 P) (nd (sh.o_31 P) (nd (sh.o_67 P) (nd ob (nd (oe 36) (nd (oa 88) nl nl) (nd ob nl nl)) (nd (oc 62) (nd od nl nl) nl)) (nd (oa 24) (nd od (nd (oe 100) nl nl) nl) (nd ob (nd (oc 126) nl nl) nl))) (nd (oe 4) (nd od (nd ob (nd (oc 94) nl nl) nl) (nd (oe 68) (nd (oa 120) nl nl) nl)) (nd (oc 30) (nd (oa 56) (nd ob nl nl) nl) (nd od (nd (oe 132) nl nl) nl)))) (nd (sh.o_51 P) (nd od (nd (oc 14) (nd (oa 40) (nd ob nl nl) (nd (oc 142) nl nl)) (nd od (nd (oe 116) nl nl) nl)) (nd ob (nd (oe 52) (nd (oa 104) nl nl) nl) (nd (oc 78) (nd od nl nl) nl))) (nd (oa 8) (nd (oe 20) (nd (oc 46) (nd od nl nl) nl) (nd (oa 72) (nd ob nl nl) nl)) (nd od (nd ob (nd (oc 110) nl nl) nl) (nd (oe 84) (nd (oa 136) nl nl) nl))))) (nd (sh.o_19 P) (nd (sh.o_39 P) (nd (oa 0) (nd (oe 12) (nd (oc 38) (nd od nl nl) (nd (oe 140) nl nl)) (nd (oa 64) (nd ob nl nl) nl)) (nd od (nd ob (nd (oc 102) nl nl) nl) (nd (oe 76) (nd (oa 128) nl nl) nl))) (nd (oc 6) (nd ob (nd (oe 44) (nd (oa 96) nl nl) nl) (nd (oc 70) (nd od nl nl) nl)) (nd (oa 32) (nd od (nd (oe 108) nl nl) nl) (nd ob (nd (oc 134) nl nl) nl)))) (nd (sh.o_59 P) (nd ob (nd (oa 16) (nd od (nd (oe 92) nl nl) nl) (nd ob (nd (oc 118) nl nl) nl)) (nd (oe 28) (nd (oc 54) (nd od nl nl) nl) (nd (oa 80) (nd ob nl nl) nl))) (nd od (nd (oc 22) (nd (oa 48) (nd ob nl nl) nl) (nd od (nd (oe 124) nl nl) nl)) (nd ob (nd (oe 60) (nd (oa 112) nl nl) nl) (nd (oc 86) (nd od nl nl) nl)))))) (nd (sh.o_4 P) (nd (sh.o_15 P) (nd (sh.o_35 P) (nd oR (nd (oa 12) (nd od (nd (oe 88) nl nl) (nd (oa 140) nl nl)) (nd ob (nd (oc 114) nl nl) nl)) (nd (oe 24) (nd (oc 50) (nd od nl nl) nl) (nd (oa 76) (nd ob nl nl) nl))) (nd od (nd (oc 18) (nd (oa 44) (nd ob nl nl) nl) (nd od (nd (oe 120) nl nl) nl)) (nd ob (nd (oe 56) (nd (oa 108) nl nl) nl) (nd (oc 82) (nd od nl nl) nl)))) (nd (sh.o_55 P) (nd (oc 2) (nd ob (nd (oe 40) (nd (oa 92) nl nl) (nd ob nl nl)) (nd (oc 66) (nd od nl nl) nl)) (nd (oa 28) (nd od (nd (oe 104) nl nl) nl) (nd ob (nd (oc 130) nl nl) nl))) (nd (oe 8) (nd od (nd ob (nd (oc 98) nl nl) nl) (nd (oe 72) (nd (oa 124) nl nl) nl)) (nd (oc 34) (nd (oa 60) (nd ob nl nl) nl) (nd od (nd (oe 136) nl nl) nl))))) (nd (sh.o_27 P) (nd (sh.o_43 P) (nd (oe 0) (nd od (nd ob (nd (oc 90) nl nl) (nd od nl nl)) (nd (oe 64) (nd (oa 116) nl nl) nl)) (nd (oc 26) (nd (oa 52) (nd ob nl nl) nl) (nd od (nd (oe 128) nl nl) nl))) (nd ob (nd (oa 20) (nd od (nd (oe 96) nl nl) nl) (nd ob (nd (oc 122) nl nl) nl)) (nd (oe 32) (nd (oc 58) (nd od nl nl) nl) (nd (oa 84) (nd ob nl nl) nl)))) (nd (sh.o_63 P) (nd (oa 4) (nd (oe 16) (nd (oc 42) (nd od nl nl) nl) (nd (oa 68) (nd ob nl nl) nl)) (nd od (nd ob (nd (oc 106) nl nl) nl) (nd (oe 80) (nd (oa 132) nl nl) nl))) (nd (oc 10) (nd ob (nd (oe 48) (nd (oa 100) nl nl) nl) (nd (oc 74) (nd od nl nl) nl)) (nd (oa 36) (nd od (nd (oe 112) nl nl) nl) (nd ob (nd (oc 138) nl nl) nl)))))))))
noncomputable def st144 (w : World) (os : OsState) : SharedT := ⟨tr144 w.params, 794, {}, ⟨[]⟩, {}, 702, os⟩
noncomputable def tr160 (P : Params) : BT := (nd (boot_o_0 P) (nd (boot_o_1 P) (nd (sh.o_47 P) (nd (boot_o_7 P) (nd (sh.o_8 P) (nd (sh.o_28 P) (nd (sh.o_64 P) (nd od (nd ob (nd (oc 87) nl nl) (nd od nl nl)) (nd (oe 61) (nd (oa 113) nl nl) nl)) (nd (oc 23) (nd (oa 49) (nd ob nl nl) (nd (oc 151) nl nl)) (nd od (nd (oe 125) nl nl) nl))) (nd ob (nd (oa 17) (nd od (nd (oe 93) nl nl) (nd (oa 145) nl nl)) (nd ob (nd (oc 119) nl nl) nl)) (nd (oe 29) (nd (oc 55) (nd od nl nl) (nd (oe 157) nl nl)) (nd (oa 81) (nd ob nl nl) nl)))) (nd (sh.o_44 P) (nd (oa 1) (nd (oe 13) (nd (oc 39) (nd od nl nl) (nd (oe 141) nl nl)) (nd (oa 65) (nd ob nl nl) nl)) (nd od (nd ob (nd (oc 103) nl nl) (nd od nl nl)) (nd (oe 77) (nd (oa 129) nl nl) nl))) (nd (oc 7) (nd ob (nd (oe 45) (nd (oa 97) nl nl) (nd ob nl nl)) (nd (oc 71) (nd od nl nl) nl)) (nd (oa 33) (nd od (nd (oe 109) nl nl) nl) (nd ob (nd (oc 135) nl nl) nl))))) (nd (sh.o_16 P) (nd (sh.o_36 P) (nd (oIt 160) (nd ob (nd (oe 37) (nd (oa 89) nl nl) (nd ob nl nl)) (nd (oc 63) (nd od nl nl) nl)) (nd (oa 25) (nd od (nd (oe 101) nl nl) (nd (oa 153) nl nl)) (nd ob (nd (oc 127) nl nl) nl))) (nd (oe 5) (nd od (nd ob (nd (oc 95) nl nl) (nd od nl nl)) (nd (oe 69) (nd (oa 121) nl nl) nl)) (nd (oc 31) (nd (oa 57) (nd ob nl nl) (nd (oc 159) nl nl)) (nd od (nd (oe 133) nl nl) nl)))) (nd (sh.o_56 P) (nd od (nd (oc 15) (nd (oa 41) (nd ob nl nl) (nd (oc 143) nl nl)) (nd od (nd (oe 117) nl nl) nl)) (nd ob (nd (oe 53) (nd (oa 105) nl nl) (nd ob nl nl)) (nd (oc 79) (nd od nl nl) nl))) (nd (oa 9) (nd (oe 21) (nd (oc 47) (nd od nl nl) (nd (oe 149) nl nl)) (nd (oa 73) (nd ob nl nl) nl)) (nd od (nd ob (nd (oc 111) nl nl) nl) (nd (oe 85) (nd (oa 137) nl nl) nl)))))) (nd (sh.o_1 P) (nd (sh.o_12 P) (nd (sh.o_32 P) (nd (sh.o_68 P) (nd (oc 11) (nd (oa 37) (nd ob nl nl) (nd (oc 139) nl nl)) (nd od (nd (oe 113) nl nl) nl)) (nd ob (nd (oe 49) (nd (oa 101) nl nl) (nd ob nl nl)) (nd (oc 75) (nd od nl nl) nl))) (nd (oa 5) (nd (oe 17) (nd (oc 43) (nd od nl nl) (nd (oe 145) nl nl)) (nd (oa 69) (nd ob nl nl) nl)) (nd od (nd ob (nd (oc 107) nl nl) (nd od nl nl)) (nd (oe 81) (nd (oa 133) nl nl) nl)))) (nd (sh.o_52 P) (nd (oe 1) (nd od (nd ob (nd (oc 91) nl nl) (nd od nl nl)) (nd (oe 65) (nd (oa 117) nl nl) nl)) (nd (oc 27) (nd (oa 53) (nd ob nl nl) (nd (oc 155) nl nl)) (nd od (nd (oe 129) nl nl) nl))) (nd ob (nd (oa 21) (nd od (nd (oe 97) nl nl) (nd (oa 149) nl nl)) (nd ob (nd (oc 123) nl nl) nl)) (nd (oe 33) (nd (oc 59) (nd od nl nl) nl) (nd (oa 85) (nd ob nl nl) nl))))) (nd (sh.o_20 P) (nd (sh.o_40 P) (nd ob (nd (oa 13) (nd od (nd (oe 89) nl nl) (nd (oa 141) nl nl)) (nd ob (nd (oc 115) nl nl) nl)) (nd (oe 25) (nd (oc 51) (nd od nl nl) (nd (oe 153) nl nl)) (nd (oa 77) (nd ob nl nl) nl))) (nd od (nd (oc 19) (nd (oa 45) (nd ob nl nl) (nd (oc 147) nl nl)) (nd od (nd (oe 121) nl nl) nl)) (nd ob (nd (oe 57) (nd (oa 109) nl nl) nl) (nd (oc 83) (nd od nl nl) nl)))) (nd (sh.o_60 P) (nd (oc 3) (nd ob (nd (oe 41) (nd (oa 93) nl nl) (nd ob nl nl)) (nd (oc 67) (nd od nl nl) nl)) (nd (oa 29) (nd od (nd (oe 105) nl nl) (nd (oa 157) nl nl)) (nd ob (nd (oc 131) nl nl) nl))) (nd (oe 9) (nd od (nd ob (nd (oc 99) nl nl) (nd od nl nl)) (nd (oe 73) (nd (oa 125) nl nl) nl)) (nd (oc 35) (nd (oa 61) (nd ob nl nl) nl) (nd od (nd (oe 137) nl nl) nl))))))) (nd (boot_o_5 P) (nd (boot_o_9 P) (nd (sh.o_10 P) (nd (sh.o_30 P) (nd (sh.o_66 P) (nd (oa 11) (nd od (nd (oe 87) nl nl) (nd (oa 139) nl nl)) (nd ob (nd (oc 113) nl nl) nl)) (nd (oe 23) (nd (oc 49) (nd od nl nl) (nd (oe 151) nl nl)) (nd (oa 75) (nd ob nl nl) nl))) (nd od (nd (oc 17) (nd (oa 43) (nd ob nl nl) (nd (oc 145) nl nl)) (nd od (nd (oe 119) nl nl) nl)) (nd ob (nd (oe 55) (nd (oa 107) nl nl) (nd ob nl nl)) (nd (oc 81) (nd od nl nl) nl)))) (nd (sh.o_50 P) (nd (oc 1) (nd ob (nd (oe 39) (nd (oa 91) nl nl) (nd ob nl nl)) (nd (oc 65) (nd od nl nl) nl)) (nd (oa 27) (nd od (nd (oe 103) nl nl) (nd (oa 155) nl nl)) (nd ob (nd (oc 129) nl nl) nl))) (nd (oe 7) (nd od (nd ob (nd (oc 97) nl nl) (nd od nl nl)) (nd (oe 71) (nd (oa 123) nl nl) nl)) (nd (oc 33) (nd (oa 59) (nd ob nl nl) nl) (nd od (nd (oe 135) nl nl) nl))))) (nd (sh.o_18 P) (nd (sh.o_38 P) (nd (oDc P 160) (nd od (nd ob (nd (oc 89) nl nl) (nd od nl nl)) (nd (oe 63) (nd (oa 115) nl nl) nl)) (nd (oc 25) (nd (oa 51) (nd ob nl nl) (nd (oc 153) nl nl)) (nd od (nd (oe 127) nl nl) nl))) (nd ob (nd (oa 19) (nd od (nd (oe 95) nl nl) (nd (oa 147) nl nl)) (nd ob (nd (oc 121) nl nl) nl)) (nd (oe 31) (nd (oc 57) (nd od nl nl) (nd (oe 159) nl nl)) (nd (oa 83) (nd ob nl nl) nl)))) (nd (sh.o_58 P) (nd (oa 3) (nd (oe 15) (nd (oc 41) (nd od nl nl) (nd (oe 143) nl nl)) (nd (oa 67) (nd ob nl nl) nl)) (nd od (nd ob (nd (oc 105) nl nl) (nd od nl nl)) (nd (oe 79) (nd (oa 131) nl nl) nl))) (nd (oc 9) (nd ob (nd (oe 47) (nd (oa 99) nl nl) (nd ob nl nl)) (nd (oc 73) (nd od nl nl) nl)) (nd (oa 35) (nd od (nd (oe 111) nl nl) nl) (nd ob (nd (oc 137) nl nl) nl)))))) (nd (sh.o_3 P) (nd (sh.o_14 P) (nd (sh.o_34 P) (nd (sh.o_70 P) (nd (oe 11) (nd (oc 37) (nd od nl nl) (nd (oe 139) nl nl)) (nd (oa 63) (nd ob nl nl) nl)) (nd od (nd ob (nd (oc 101) nl nl) (nd od nl nl)) (nd (oe 75) (nd (oa 127) nl nl) nl))) (nd (oc 5) (nd ob (nd (oe 43) (nd (oa 95) nl nl) (nd ob nl nl)) (nd (oc 69) (nd od nl nl) nl)) (nd (oa 31) (nd od (nd (oe 107) nl nl) (nd (oa 159) nl nl)) (nd ob (nd (oc 133) nl nl) nl)))) (nd (sh.o_54 P) (nd ob (nd (oa 15) (nd od (nd (oe 91) nl nl) (nd (oa 143) nl nl)) (nd ob (nd (oc 117) nl nl) nl)) (nd (oe 27) (nd (oc 53) (nd od nl nl) (nd (oe 155) nl nl)) (nd (oa 79) (nd ob nl nl) nl))) (nd od (nd (oc 21) (nd (oa 47) (nd ob nl nl) (nd (oc 149) nl nl)) (nd od (nd (oe 123) nl nl) nl)) (nd ob (nd (oe 59) (nd (oa 111) nl nl) nl) (nd (oc 85) (nd od nl nl) nl))))) (nd (sh.o_26 P) (nd (sh.o_42 P) (nd od (nd (oc 13) (nd (oa 39) (nd ob nl nl) (nd (oc 141) nl nl)) (nd od (nd (oe 115) nl nl) nl)) (nd ob (nd (oe 51) (nd (oa 103) nl nl) (nd ob nl nl)) (nd (oc 77) (nd od nl nl) nl))) (nd (oa 7) (nd (oe 19) (nd (oc 45) (nd od nl nl) (nd (oe 147) nl nl)) (nd (oa 71) (nd ob nl nl) nl)) (nd od (nd ob (nd (oc 109) nl nl) nl) (nd (oe 83) (nd (oa 135) nl nl) nl)))) (nd (sh.o_62 P) (nd (oe 3) (nd od (nd ob (nd (oc 93) nl nl) (nd od nl nl)) (nd (oe 67) (nd (oa 119) nl nl) nl)) (nd (oc 29) (nd (oa 55) (nd ob nl nl) (nd (oc 157) nl nl)) (nd od (nd (oe 131) nl nl) nl))) (nd ob (nd (oa 23) (nd od (nd (oe 99) nl nl) (nd (oa 151) nl nl)) (nd ob (nd (oc 125) nl nl) nl)) (nd (oe 35) (nd (oc 61) (nd od nl nl) nl) (nd (oa 87) (nd ob nl nl) nl)))))))) (nd (sh.o_5 P) (nd (boot_o_4 P) (nd (boot_o_8 P) (nd (sh.o_9 P) (nd (sh.o_29 P) (nd (sh.o_65 P) (nd (oe 10) (nd (oc 36) (nd od nl nl) (nd (oe 138) nl nl)) (nd (oa 62) (nd ob nl nl) nl)) (nd od (nd ob (nd (oc 100) nl nl) (nd od nl nl)) (nd (oe 74) (nd (oa 126) nl nl) nl))) (nd (oc 4) (nd ob (nd (oe 42) (nd (oa 94) nl nl) (nd ob nl nl)) (nd (oc 68) (nd od nl nl) nl)) (nd (oa 30) (nd od (nd (oe 106) nl nl) (nd (oa 158) nl nl)) (nd ob (nd (oc 132) nl nl) nl)))) (nd (sh.o_45 P) (nd ob (nd (oa 14) (nd od (nd (oe 90) nl nl) (nd (oa 142) nl nl)) (nd ob (nd (oc 116) nl nl) nl)) (nd (oe 26) (nd (oc 52) (nd od nl nl) (nd (oe 154) nl nl)) (nd (oa 78) (nd ob nl nl) nl))) (nd od (nd (oc 20) (nd (oa 46) (nd ob nl nl) (nd (oc 148) nl nl)) (nd od (nd (oe 122) nl nl) nl)) (nd ob (nd (oe 58) (nd (oa 110) nl nl) nl) (nd (oc 84) (nd od nl nl) nl))))) (nd (sh.o_49 P) (nd (sh.o_37 P) (nd (oLs 160) (nd (oc 12) (nd (oa 38) (nd ob nl nl) (nd (oc 140) nl nl)) (nd od (nd (oe 114) nl nl) nl)) (nd ob (nd (oe 50) (nd (oa 102) nl nl) (nd ob nl nl)) (nd (oc 76) (nd od nl nl) nl))) (nd (oa 6) (nd (oe 18) (nd (oc 44) (nd od nl nl) (nd (oe 146) nl nl)) (nd (oa 70) (nd ob nl nl) nl)) (nd od (nd ob (nd (oc 108) nl nl) (nd od nl nl)) (nd (oe 82) (nd (oa 134) nl nl) nl)))) (nd (sh.o_57 P) (nd (oe 2) (nd od (nd ob (nd (oc 92) nl nl) (nd od nl nl)) (nd (oe 66) (nd (oa 118) nl nl) nl)) (nd (oc 28) (nd (oa 54) (nd ob nl nl) (nd (oc 156) nl nl)) (nd od (nd (oe 130) nl nl) nl))) (nd ob (nd (oa 22) (nd od (nd (oe 98) nl nl) (nd (oa 150) nl nl)) (nd ob (nd (oc 124) nl nl) nl)) (nd (oe 34) (nd (oc 60) (nd od nl nl) nl) (nd (oa 86) (nd ob nl nl) nl)))))) (nd (sh.o_48 P) (nd (sh.o_13 P) (nd (sh.o_33 P) (nd (sh.o_69 P) (nd od (nd ob (nd (oc 88) nl nl) (nd od nl nl)) (nd (oe 62) (nd (oa 114) nl nl) nl)) (nd (oc 24) (nd (oa 50) (nd ob nl nl) (nd (oc 152) nl nl)) (nd od (nd (oe 126) nl nl) nl))) (nd ob (nd (oa 18) (nd od (nd (oe 94) nl nl) (nd (oa 146) nl nl)) (nd ob (nd (oc 120) nl nl) nl)) (nd (oe 30) (nd (oc 56) (nd od nl nl) (nd (oe 158) nl nl)) (nd (oa 82) (nd ob nl nl) nl)))) (nd (sh.o_53 P) (nd (oa 2) (nd (oe 14) (nd (oc 40) (nd od nl nl) (nd (oe 142) nl nl)) (nd (oa 66) (nd ob nl nl) nl)) (nd od (nd ob (nd (oc 104) nl nl) (nd od nl nl)) (nd (oe 78) (nd (oa 130) nl nl) nl))) (nd (oc 8) (nd ob (nd (oe 46) (nd (oa 98) nl nl) (nd ob nl nl)) (nd (oc 72) (nd od nl nl) nl)) (nd (oa 34) (nd od (nd (oe 110) nl nl) nl) (nd ob (nd (oc 136) nl nl) nl))))) (nd (sh.o_25 P) (nd (sh.o_41 P) (nd (oc 0) (nd ob (nd (oe 38) (nd (oa 90) nl nl) (nd ob nl nl)) (nd (oc 64) (nd od nl nl) nl)) (nd (oa 26) (nd od (nd (oe 102) nl nl) (nd (oa 154) nl nl)) (nd ob (nd (oc 128) nl nl) nl))) (nd (oe 6) (nd od (nd ob (nd (oc 96) nl nl) (nd od nl nl)) (nd (oe 70) (nd (oa 122) nl nl) nl)) (nd (oc 32) (nd (oa 58) (nd ob nl nl) nl) (nd od (nd (oe 134) nl nl) nl)))) (nd (sh.o_61 P) (nd od (nd (oc 16) (nd (oa 42) (nd ob nl nl) (nd (oc 144) nl nl)) (nd od (nd (oe 118) nl nl) nl)) (nd ob (nd (oe 54) (nd (oa 106) nl nl) (nd ob nl nl)) (nd (oc 80) (nd od nl nl) nl))) (nd (oa 10) (nd (oe 22) (nd (oc 48) (nd od nl nl) (nd (oe 150) nl nl)) (nd (oa 74) (nd ob nl nl) nl)) (nd od (nd ob (nd (oc 112) nl nl) nl) (nd (oe 86) (nd (oa 138) nl nl) nl))))))) (nd (boot_o_6 P) (nd (boot_o_10 P) (nd (sh.o_11 P) (nd (sh.o_31 P) (nd (sh.o_67 P) (nd ob (nd (oe 36) (nd (oa 88) nl nl) (nd ob nl nl)) (nd (oc 62) (nd od nl nl) nl)) (nd (oa 24) (nd od (nd (oe 100) nl nl) (nd (oa 152) nl nl)) (nd ob (nd (oc 126) nl nl) nl))) (nd (oe 4) (nd od (nd ob (nd (oc 94) nl nl) (nd od nl nl)) (nd (oe 68) (nd (oa 120) nl nl) nl)) (nd (oc 30) (nd (oa 56) (nd ob nl nl) (nd (oc 158) nl nl)) (nd od (nd (oe 132) nl nl) nl)))) (nd (sh.o_51 P) (nd od (nd (oc 14) (nd (oa 40) (nd ob nl nl) (nd (oc 142) nl nl)) (nd od (nd (oe 116) nl nl) nl)) (nd ob (nd (oe 52) (nd (oa 104) nl nl) (nd ob nl nl)) (nd (oc 78) (nd od nl nl) nl))) (nd (oa 8) (nd (oe 20) (nd (oc 46) (nd od nl nl) (nd (oe 148) nl nl)) (nd (oa 72) (nd ob nl nl) nl)) (nd od (nd ob (nd (oc 110) nl nl) nl) (nd (oe 84) (nd (oa 136) nl nl) nl))))) (nd (sh.o_19 P) (nd (sh.o_39 P) (nd (oa 0) (nd (oe 12) (nd (oc 38) (nd od nl nl) (nd (oe 140) nl nl)) (nd (oa 64) (nd ob nl nl) nl)) (nd od (nd ob (nd (oc 102) nl nl) (nd od nl nl)) (nd (oe 76) (nd (oa 128) nl nl) nl))) (nd (oc 6) (nd ob (nd (oe 44) (nd (oa 96) nl nl) (nd ob nl nl)) (nd (oc 70) (nd od nl nl) nl)) (nd (oa 32) (nd od (nd (oe 108) nl nl) nl) (nd ob (nd (oc 134) nl nl) nl)))) (nd (sh.o_59 P) (nd ob (nd (oa 16) (nd od (nd (oe 92) nl nl) (nd (oa 144) nl nl)) (nd ob (nd (oc 118) nl nl) nl)) (nd (oe 28) (nd (oc 54) (nd od nl nl) (nd (oe 156) nl nl)) (nd (oa 80) (nd ob nl nl) nl))) (nd od (nd (oc 22) (nd (oa 48) (nd ob nl nl) (nd (oc 150) nl nl)) (nd od (nd (oe 124) nl nl) nl)) (nd ob (nd (oe 60) (nd (oa 112) nl nl) nl) (nd (oc 86) (nd od nl nl) nl)))))) (nd (sh.o_4 P) (nd (sh.o_15 P) (nd (sh.o_35 P) (nd oR (nd (oa 12) (nd od (nd (oe 88) nl nl) (nd (oa 140) nl nl)) (nd ob (nd (oc 114) nl nl) nl)) (nd (oe 24) (nd (oc 50) (nd od nl nl) (nd (oe 152) nl nl)) (nd (oa 76) (nd ob nl nl) nl))) (nd od (nd (oc 18) (nd (oa 44) (nd ob nl nl) (nd (oc 146) nl nl)) (nd od (nd (oe 120) nl nl) nl)) (nd ob (nd (oe 56) (nd (oa 108) nl nl) (nd ob nl nl)) (nd (oc 82) (nd od nl nl) nl)))) (nd (sh.o_55 P) (nd (oc 2) (nd ob (nd (oe 40) (nd (oa 92) nl nl) (nd ob nl nl)) (nd (oc 66) (nd od nl nl) nl)) (nd (oa 28) (nd od (nd (oe 104) nl nl) (nd (oa 156) nl nl)) (nd ob (nd (oc 130) nl nl) nl))) (nd (oe 8) (nd od (nd ob (nd (oc 98) nl nl) (nd od nl nl)) (nd (oe 72) (nd (oa 124) nl nl) nl)) (nd (oc 34) (nd (oa 60) (nd ob nl nl) nl) (nd od (nd (oe 136) nl nl) nl))))) (nd (sh.o_27 P) (nd (sh.o_43 P) (nd (oe 0) (nd od (nd ob (nd (oc 90) nl nl) (nd od nl nl)) (nd (oe 64) (nd (oa 116) nl nl) nl)) (nd (oc 26) (nd (oa 52) (nd ob nl nl) (nd (oc 154) nl nl)) (nd od (nd (oe 128) nl nl) nl))) (nd ob (nd (oa 20) (nd od (nd (oe 96) nl nl) (nd (oa 148) nl nl)) (nd ob (nd (oc 122) nl nl) nl)) (nd (oe 32) (nd (oc 58) (nd od nl nl) nl) (nd (oa 84) (nd ob nl nl) nl)))) (nd (sh.o_63 P) (nd (oa 4) (nd (oe 16) (nd (oc 42) (nd od nl nl) (nd (oe 144) nl nl)) (nd (oa 68) (nd ob nl nl) nl)) (nd od (nd ob (nd (oc 106) nl nl) (nd od nl nl)) (nd (oe 80) (nd (oa 132) nl nl) nl))) (nd (oc 10) (nd ob (nd (oe 48) (nd (oa 100) nl nl) (nd ob nl nl)) (nd (oc 74) (nd od nl nl) nl)) (nd (oa 36) (nd od (nd (oe 112) nl nl) nl) (nd ob (nd (oc 138) nl nl) nl)))))))))
noncomputable def st160 (w : World) (os : OsState) : SharedT := ⟨tr160 w.params, 874, {}, ⟨[]⟩, {}, 750, os⟩
noncomputable def tr176 (P : Params) : BT := (nd (boot_o_0 P) (nd (boot_o_1 P) (nd (sh.o_47 P) (nd (boot_o_7 P) (nd (sh.o_8 P) (nd (sh.o_28 P) (nd (sh.o_64 P) (nd od (nd ob (nd (oc 87) nl nl) (nd od nl nl)) (nd (oe 61) (nd (oa 113) nl nl) (nd ob nl nl))) (nd (oc 23) (nd (oa 49) (nd ob nl nl) (nd (oc 151) nl nl)) (nd od (nd (oe 125) nl nl) nl))) (nd ob (nd (oa 17) (nd od (nd (oe 93) nl nl) (nd (oa 145) nl nl)) (nd ob (nd (oc 119) nl nl) (nd od nl nl))) (nd (oe 29) (nd (oc 55) (nd od nl nl) (nd (oe 157) nl nl)) (nd (oa 81) (nd ob nl nl) nl)))) (nd (sh.o_44 P) (nd (oa 1) (nd (oe 13) (nd (oc 39) (nd od nl nl) (nd (oe 141) nl nl)) (nd (oa 65) (nd ob nl nl) (nd (oc 167) nl nl))) (nd od (nd ob (nd (oc 103) nl nl) (nd od nl nl)) (nd (oe 77) (nd (oa 129) nl nl) nl))) (nd (oc 7) (nd ob (nd (oe 45) (nd (oa 97) nl nl) (nd ob nl nl)) (nd (oc 71) (nd od nl nl) (nd (oe 173) nl nl))) (nd (oa 33) (nd od (nd (oe 109) nl nl) (nd (oa 161) nl nl)) (nd ob (nd (oc 135) nl nl) nl))))) (nd (sh.o_16 P) (nd (sh.o_36 P) (nd (oIt 176) (nd ob (nd (oe 37) (nd (oa 89) nl nl) (nd ob nl nl)) (nd (oc 63) (nd od nl nl) (nd (oe 165) nl nl))) (nd (oa 25) (nd od (nd (oe 101) nl nl) (nd (oa 153) nl nl)) (nd ob (nd (oc 127) nl nl) nl))) (nd (oe 5) (nd od (nd ob (nd (oc 95) nl nl) (nd od nl nl)) (nd (oe 69) (nd (oa 121) nl nl) (nd ob nl nl))) (nd (oc 31) (nd (oa 57) (nd ob nl nl) (nd (oc 159) nl nl)) (nd od (nd (oe 133) nl nl) nl)))) (nd (sh.o_56 P) (nd od (nd (oc 15) (nd (oa 41) (nd ob nl nl) (nd (oc 143) nl nl)) (nd od (nd (oe 117) nl nl) (nd (oa 169) nl nl))) (nd ob (nd (oe 53) (nd (oa 105) nl nl) (nd ob nl nl)) (nd (oc 79) (nd od nl nl) nl))) (nd (oa 9) (nd (oe 21) (nd (oc 47) (nd od nl nl) (nd (oe 149) nl nl)) (nd (oa 73) (nd ob nl nl) (nd (oc 175) nl nl))) (nd od (nd ob (nd (oc 111) nl nl) (nd od nl nl)) (nd (oe 85) (nd (oa 137) nl nl) nl)))))) (nd (sh.o_1 P) (nd (sh.o_12 P) (nd (sh.o_32 P) (nd (sh.o_68 P) (nd (oc 11) (nd (oa 37) (nd ob nl nl) (nd (oc 139) nl nl)) (nd od (nd (oe 113) nl nl) (nd (oa 165) nl nl))) (nd ob (nd (oe 49) (nd (oa 101) nl nl) (nd ob nl nl)) (nd (oc 75) (nd od nl nl) nl))) (nd (oa 5) (nd (oe 17) (nd (oc 43) (nd od nl nl) (nd (oe 145) nl nl)) (nd (oa 69) (nd ob nl nl) (nd (oc 171) nl nl))) (nd od (nd ob (nd (oc 107) nl nl) (nd od nl nl)) (nd (oe 81) (nd (oa 133) nl nl) nl)))) (nd (sh.o_52 P) (nd (oe 1) (nd od (nd ob (nd (oc 91) nl nl) (nd od nl nl)) (nd (oe 65) (nd (oa 117) nl nl) (nd ob nl nl))) (nd (oc 27) (nd (oa 53) (nd ob nl nl) (nd (oc 155) nl nl)) (nd od (nd (oe 129) nl nl) nl))) (nd ob (nd (oa 21) (nd od (nd (oe 97) nl nl) (nd (oa 149) nl nl)) (nd ob (nd (oc 123) nl nl) (nd od nl nl))) (nd (oe 33) (nd (oc 59) (nd od nl nl) (nd (oe 161) nl nl)) (nd (oa 85) (nd ob nl nl) nl))))) (nd (sh.o_20 P) (nd (sh.o_40 P) (nd ob (nd (oa 13) (nd od (nd (oe 89) nl nl) (nd (oa 141) nl nl)) (nd ob (nd (oc 115) nl nl) (nd od nl nl))) (nd (oe 25) (nd (oc 51) (nd od nl nl) (nd (oe 153) nl nl)) (nd (oa 77) (nd ob nl nl) nl))) (nd od (nd (oc 19) (nd (oa 45) (nd ob nl nl) (nd (oc 147) nl nl)) (nd od (nd (oe 121) nl nl) (nd (oa 173) nl nl))) (nd ob (nd (oe 57) (nd (oa 109) nl nl) (nd ob nl nl)) (nd (oc 83) (nd od nl nl) nl)))) (nd (sh.o_60 P) (nd (oc 3) (nd ob (nd (oe 41) (nd (oa 93) nl nl) (nd ob nl nl)) (nd (oc 67) (nd od nl nl) (nd (oe 169) nl nl))) (nd (oa 29) (nd od (nd (oe 105) nl nl) (nd (oa 157) nl nl)) (nd ob (nd (oc 131) nl nl) nl))) (nd (oe 9) (nd od (nd ob (nd (oc 99) nl nl) (nd od nl nl)) (nd (oe 73) (nd (oa 125) nl nl) nl)) (nd (oc 35) (nd (oa 61) (nd ob nl nl) (nd (oc 163) nl nl)) (nd od (nd (oe 137) nl nl) nl))))))) (nd (boot_o_5 P) (nd (boot_o_9 P) (nd (sh.o_10 P) (nd (sh.o_30 P) (nd (sh.o_66 P) (nd (oa 11) (nd od (nd (oe 87) nl nl) (nd (oa 139) nl nl)) (nd ob (nd (oc 113) nl nl) (nd od nl nl))) (nd (oe 23) (nd (oc 49) (nd od nl nl) (nd (oe 151) nl nl)) (nd (oa 75) (nd ob nl nl) nl))) (nd od (nd (oc 17) (nd (oa 43) (nd ob nl nl) (nd (oc 145) nl nl)) (nd od (nd (oe 119) nl nl) (nd (oa 171) nl nl))) (nd ob (nd (oe 55) (nd (oa 107) nl nl) (nd ob nl nl)) (nd (oc 81) (nd od nl nl) nl)))) (nd (sh.o_50 P) (nd (oc 1) (nd ob (nd (oe 39) (nd (oa 91) nl nl) (nd ob nl nl)) (nd (oc 65) (nd od nl nl) (nd (oe 167) nl nl))) (nd (oa 27) (nd od (nd (oe 103) nl nl) (nd (oa 155) nl nl)) (nd ob (nd (oc 129) nl nl) nl))) (nd (oe 7) (nd od (nd ob (nd (oc 97) nl nl) (nd od nl nl)) (nd (oe 71) (nd (oa 123) nl nl) (nd ob nl nl))) (nd (oc 33) (nd (oa 59) (nd ob nl nl) (nd (oc 161) nl nl)) (nd od (nd (oe 135) nl nl) nl))))) (nd (sh.o_18 P) (nd (sh.o_38 P) (nd (oDc P 176) (nd od (nd ob (nd (oc 89) nl nl) (nd od nl nl)) (nd (oe 63) (nd (oa 115) nl nl) (nd ob nl nl))) (nd (oc 25) (nd (oa 51) (nd ob nl nl) (nd (oc 153) nl nl)) (nd od (nd (oe 127) nl nl) nl))) (nd ob (nd (oa 19) (nd od (nd (oe 95) nl nl) (nd (oa 147) nl nl)) (nd ob (nd (oc 121) nl nl) (nd od nl nl))) (nd (oe 31) (nd (oc 57) (nd od nl nl) (nd (oe 159) nl nl)) (nd (oa 83) (nd ob nl nl) nl)))) (nd (sh.o_58 P) (nd (oa 3) (nd (oe 15) (nd (oc 41) (nd od nl nl) (nd (oe 143) nl nl)) (nd (oa 67) (nd ob nl nl) (nd (oc 169) nl nl))) (nd od (nd ob (nd (oc 105) nl nl) (nd od nl nl)) (nd (oe 79) (nd (oa 131) nl nl) nl))) (nd (oc 9) (nd ob (nd (oe 47) (nd (oa 99) nl nl) (nd ob nl nl)) (nd (oc 73) (nd od nl nl) (nd (oe 175) nl nl))) (nd (oa 35) (nd od (nd (oe 111) nl nl) (nd (oa 163) nl nl)) (nd ob (nd (oc 137) nl nl) nl)))))) (nd (sh.o_3 P) (nd (sh.o_14 P) (nd (sh.o_34 P) (nd (sh.o_70 P) (nd (oe 11) (nd (oc 37) (nd od nl nl) (nd (oe 139) nl nl)) (nd (oa 63) (nd ob nl nl) (nd (oc 165) nl nl))) (nd od (nd ob (nd (oc 101) nl nl) (nd od nl nl)) (nd (oe 75) (nd (oa 127) nl nl) nl))) (nd (oc 5) (nd ob (nd (oe 43) (nd (oa 95) nl nl) (nd ob nl nl)) (nd (oc 69) (nd od nl nl) (nd (oe 171) nl nl))) (nd (oa 31) (nd od (nd (oe 107) nl nl) (nd (oa 159) nl nl)) (nd ob (nd (oc 133) nl nl) nl)))) (nd (sh.o_54 P) (nd ob (nd (oa 15) (nd od (nd (oe 91) nl nl) (nd (oa 143) nl nl)) (nd ob (nd (oc 117) nl nl) (nd od nl nl))) (nd (oe 27) (nd (oc 53) (nd od nl nl) (nd (oe 155) nl nl)) (nd (oa 79) (nd ob nl nl) nl))) (nd od (nd (oc 21) (nd (oa 47) (nd ob nl nl) (nd (oc 149) nl nl)) (nd od (nd (oe 123) nl nl) (nd (oa 175) nl nl))) (nd ob (nd (oe 59) (nd (oa 111) nl nl) (nd ob nl nl)) (nd (oc 85) (nd od nl nl) nl))))) (nd (sh.o_26 P) (nd (sh.o_42 P) (nd od (nd (oc 13) (nd (oa 39) (nd ob nl nl) (nd (oc 141) nl nl)) (nd od (nd (oe 115) nl nl) (nd (oa 167) nl nl))) (nd ob (nd (oe 51) (nd (oa 103) nl nl) (nd ob nl nl)) (nd (oc 77) (nd od nl nl) nl))) (nd (oa 7) (nd (oe 19) (nd (oc 45) (nd od nl nl) (nd (oe 147) nl nl)) (nd (oa 71) (nd ob nl nl) (nd (oc 173) nl nl))) (nd od (nd ob (nd (oc 109) nl nl) (nd od nl nl)) (nd (oe 83) (nd (oa 135) nl nl) nl)))) (nd (sh.o_62 P) (nd (oe 3) (nd od (nd ob (nd (oc 93) nl nl) (nd od nl nl)) (nd (oe 67) (nd (oa 119) nl nl) (nd ob nl nl))) (nd (oc 29) (nd (oa 55) (nd ob nl nl) (nd (oc 157) nl nl)) (nd od (nd (oe 131) nl nl) nl))) (nd ob (nd (oa 23) (nd od (nd (oe 99) nl nl) (nd (oa 151) nl nl)) (nd ob (nd (oc 125) nl nl) nl)) (nd (oe 35) (nd (oc 61) (nd od nl nl) (nd (oe 163) nl nl)) (nd (oa 87) (nd ob nl nl) nl)))))))) (nd (sh.o_5 P) (nd (boot_o_4 P) (nd (boot_o_8 P) (nd (sh.o_9 P) (nd (sh.o_29 P) (nd (sh.o_65 P) (nd (oe 10) (nd (oc 36) (nd od nl nl) (nd (oe 138) nl nl)) (nd (oa 62) (nd ob nl nl) (nd (oc 164) nl nl))) (nd od (nd ob (nd (oc 100) nl nl) (nd od nl nl)) (nd (oe 74) (nd (oa 126) nl nl) nl))) (nd (oc 4) (nd ob (nd (oe 42) (nd (oa 94) nl nl) (nd ob nl nl)) (nd (oc 68) (nd od nl nl) (nd (oe 170) nl nl))) (nd (oa 30) (nd od (nd (oe 106) nl nl) (nd (oa 158) nl nl)) (nd ob (nd (oc 132) nl nl) nl)))) (nd (sh.o_45 P) (nd ob (nd (oa 14) (nd od (nd (oe 90) nl nl) (nd (oa 142) nl nl)) (nd ob (nd (oc 116) nl nl) (nd od nl nl))) (nd (oe 26) (nd (oc 52) (nd od nl nl) (nd (oe 154) nl nl)) (nd (oa 78) (nd ob nl nl) nl))) (nd od (nd (oc 20) (nd (oa 46) (nd ob nl nl) (nd (oc 148) nl nl)) (nd od (nd (oe 122) nl nl) (nd (oa 174) nl nl))) (nd ob (nd (oe 58) (nd (oa 110) nl nl) (nd ob nl nl)) (nd (oc 84) (nd od nl nl) nl))))) (nd (sh.o_49 P) (nd (sh.o_37 P) (nd (oLs 176) (nd (oc 12) (nd (oa 38) (nd ob nl nl) (nd (oc 140) nl nl)) (nd od (nd (oe 114) nl nl) (nd (oa 166) nl nl))) (nd ob (nd (oe 50) (nd (oa 102) nl nl) (nd ob nl nl)) (nd (oc 76) (nd od nl nl) nl))) (nd (oa 6) (nd (oe 18) (nd (oc 44) (nd od nl nl) (nd (oe 146) nl nl)) (nd (oa 70) (nd ob nl nl) (nd (oc 172) nl nl))) (nd od (nd ob (nd (oc 108) nl nl) (nd od nl nl)) (nd (oe 82) (nd (oa 134) nl nl) nl)))) (nd (sh.o_57 P) (nd (oe 2) (nd od (nd ob (nd (oc 92) nl nl) (nd od nl nl)) (nd (oe 66) (nd (oa 118) nl nl) (nd ob nl nl))) (nd (oc 28) (nd (oa 54) (nd ob nl nl) (nd (oc 156) nl nl)) (nd od (nd (oe 130) nl nl) nl))) (nd ob (nd (oa 22) (nd od (nd (oe 98) nl nl) (nd (oa 150) nl nl)) (nd ob (nd (oc 124) nl nl) (nd od nl nl))) (nd (oe 34) (nd (oc 60) (nd od nl nl) (nd (oe 162) nl nl)) (nd (oa 86) (nd ob nl nl) nl)))))) (nd (sh.o_48 P) (nd (sh.o_13 P) (nd (sh.o_33 P) (nd (sh.o_69 P) (nd od (nd ob (nd (oc 88) nl nl) (nd od nl nl)) (nd (oe 62) (nd (oa 114) nl nl) (nd ob nl nl))) (nd (oc 24) (nd (oa 50) (nd ob nl nl) (nd (oc 152) nl nl)) (nd od (nd (oe 126) nl nl) nl))) (nd ob (nd (oa 18) (nd od (nd (oe 94) nl nl) (nd (oa 146) nl nl)) (nd ob (nd (oc 120) nl nl) (nd od nl nl))) (nd (oe 30) (nd (oc 56) (nd od nl nl) (nd (oe 158) nl nl)) (nd (oa 82) (nd ob nl nl) nl)))) (nd (sh.o_53 P) (nd (oa 2) (nd (oe 14) (nd (oc 40) (nd od nl nl) (nd (oe 142) nl nl)) (nd (oa 66) (nd ob nl nl) (nd (oc 168) nl nl))) (nd od (nd ob (nd (oc 104) nl nl) (nd od nl nl)) (nd (oe 78) (nd (oa 130) nl nl) nl))) (nd (oc 8) (nd ob (nd (oe 46) (nd (oa 98) nl nl) (nd ob nl nl)) (nd (oc 72) (nd od nl nl) (nd (oe 174) nl nl))) (nd (oa 34) (nd od (nd (oe 110) nl nl) (nd (oa 162) nl nl)) (nd ob (nd (oc 136) nl nl) nl))))) (nd (sh.o_25 P) (nd (sh.o_41 P) (nd (oc 0) (nd ob (nd (oe 38) (nd (oa 90) nl nl) (nd ob nl nl)) (nd (oc 64) (nd od nl nl) (nd (oe 166) nl nl))) (nd (oa 26) (nd od (nd (oe 102) nl nl) (nd (oa 154) nl nl)) (nd ob (nd (oc 128) nl nl) nl))) (nd (oe 6) (nd od (nd ob (nd (oc 96) nl nl) (nd od nl nl)) (nd (oe 70) (nd (oa 122) nl nl) (nd ob nl nl))) (nd (oc 32) (nd (oa 58) (nd ob nl nl) (nd (oc 160) nl nl)) (nd od (nd (oe 134) nl nl) nl)))) (nd (sh.o_61 P) (nd od (nd (oc 16) (nd (oa 42) (nd ob nl nl) (nd (oc 144) nl nl)) (nd od (nd (oe 118) nl nl) (nd (oa 170) nl nl))) (nd ob (nd (oe 54) (nd (oa 106) nl nl) (nd ob nl nl)) (nd (oc 80) (nd od nl nl) nl))) (nd (oa 10) (nd (oe 22) (nd (oc 48) (nd od nl nl) (nd (oe 150) nl nl)) (nd (oa 74) (nd ob nl nl) nl)) (nd od (nd ob (nd (oc 112) nl nl) (nd od nl nl)) (nd (oe 86) (nd (oa 138) nl nl) nl))))))) (nd (boot_o_6 P) (nd (boot_o_10 P) (nd (sh.o_11 P) (nd (sh.o_31 P) (nd (sh.o_67 P) (nd ob (nd (oe 36) (nd (oa 88) nl nl) (nd ob nl nl)) (nd (oc 62) (nd od nl nl) (nd (oe 164) nl nl))) (nd (oa 24) (nd od (nd (oe 100) nl nl) (nd (oa 152) nl nl)) (nd ob (nd (oc 126) nl nl) nl))) (nd (oe 4) (nd od (nd ob (nd (oc 94) nl nl) (nd od nl nl)) (nd (oe 68) (nd (oa 120) nl nl) (nd ob nl nl))) (nd (oc 30) (nd (oa 56) (nd ob nl nl) (nd (oc 158) nl nl)) (nd od (nd (oe 132) nl nl) nl)))) (nd (sh.o_51 P) (nd od (nd (oc 14) (nd (oa 40) (nd ob nl nl) (nd (oc 142) nl nl)) (nd od (nd (oe 116) nl nl) (nd (oa 168) nl nl))) (nd ob (nd (oe 52) (nd (oa 104) nl nl) (nd ob nl nl)) (nd (oc 78) (nd od nl nl) nl))) (nd (oa 8) (nd (oe 20) (nd (oc 46) (nd od nl nl) (nd (oe 148) nl nl)) (nd (oa 72) (nd ob nl nl) (nd (oc 174) nl nl))) (nd od (nd ob (nd (oc 110) nl nl) (nd od nl nl)) (nd (oe 84) (nd (oa 136) nl nl) nl))))) (nd (sh.o_19 P) (nd (sh.o_39 P) (nd (oa 0) (nd (oe 12) (nd (oc 38) (nd od nl nl) (nd (oe 140) nl nl)) (nd (oa 64) (nd ob nl nl) (nd (oc 166) nl nl))) (nd od (nd ob (nd (oc 102) nl nl) (nd od nl nl)) (nd (oe 76) (nd (oa 128) nl nl) nl))) (nd (oc 6) (nd ob (nd (oe 44) (nd (oa 96) nl nl) (nd ob nl nl)) (nd (oc 70) (nd od nl nl) (nd (oe 172) nl nl))) (nd (oa 32) (nd od (nd (oe 108) nl nl) (nd (oa 160) nl nl)) (nd ob (nd (oc 134) nl nl) nl)))) (nd (sh.o_59 P) (nd ob (nd (oa 16) (nd od (nd (oe 92) nl nl) (nd (oa 144) nl nl)) (nd ob (nd (oc 118) nl nl) (nd od nl nl))) (nd (oe 28) (nd (oc 54) (nd od nl nl) (nd (oe 156) nl nl)) (nd (oa 80) (nd ob nl nl) nl))) (nd od (nd (oc 22) (nd (oa 48) (nd ob nl nl) (nd (oc 150) nl nl)) (nd od (nd (oe 124) nl nl) nl)) (nd ob (nd (oe 60) (nd (oa 112) nl nl) (nd ob nl nl)) (nd (oc 86) (nd od nl nl) nl)))))) (nd (sh.o_4 P) (nd (sh.o_15 P) (nd (sh.o_35 P) (nd oR (nd (oa 12) (nd od (nd (oe 88) nl nl) (nd (oa 140) nl nl)) (nd ob (nd (oc 114) nl nl) (nd od nl nl))) (nd (oe 24) (nd (oc 50) (nd od nl nl) (nd (oe 152) nl nl)) (nd (oa 76) (nd ob nl nl) nl))) (nd od (nd (oc 18) (nd (oa 44) (nd ob nl nl) (nd (oc 146) nl nl)) (nd od (nd (oe 120) nl nl) (nd (oa 172) nl nl))) (nd ob (nd (oe 56) (nd (oa 108) nl nl) (nd ob nl nl)) (nd (oc 82) (nd od nl nl) nl)))) (nd (sh.o_55 P) (nd (oc 2) (nd ob (nd (oe 40) (nd (oa 92) nl nl) (nd ob nl nl)) (nd (oc 66) (nd od nl nl) (nd (oe 168) nl nl))) (nd (oa 28) (nd od (nd (oe 104) nl nl) (nd (oa 156) nl nl)) (nd ob (nd (oc 130) nl nl) nl))) (nd (oe 8) (nd od (nd ob (nd (oc 98) nl nl) (nd od nl nl)) (nd (oe 72) (nd (oa 124) nl nl) (nd ob nl nl))) (nd (oc 34) (nd (oa 60) (nd ob nl nl) (nd (oc 162) nl nl)) (nd od (nd (oe 136) nl nl) nl))))) (nd (sh.o_27 P) (nd (sh.o_43 P) (nd (oe 0) (nd od (nd ob (nd (oc 90) nl nl) (nd od nl nl)) (nd (oe 64) (nd (oa 116) nl nl) (nd ob nl nl))) (nd (oc 26) (nd (oa 52) (nd ob nl nl) (nd (oc 154) nl nl)) (nd od (nd (oe 128) nl nl) nl))) (nd ob (nd (oa 20) (nd od (nd (oe 96) nl nl) (nd (oa 148) nl nl)) (nd ob (nd (oc 122) nl nl) (nd od nl nl))) (nd (oe 32) (nd (oc 58) (nd od nl nl) (nd (oe 160) nl nl)) (nd (oa 84) (nd ob nl nl) nl)))) (nd (sh.o_63 P) (nd (oa 4) (nd (oe 16) (nd (oc 42) (nd od nl nl) (nd (oe 144) nl nl)) (nd (oa 68) (nd ob nl nl) (nd (oc 170) nl nl))) (nd od (nd ob (nd (oc 106) nl nl) (nd od nl nl)) (nd (oe 80) (nd (oa 132) nl nl) nl))) (nd (oc 10) (nd ob (nd (oe 48) (nd (oa 100) nl nl) (nd ob nl nl)) (nd (oc 74) (nd od nl nl) nl)) (nd (oa 36) (nd od (nd (oe 112) nl nl) (nd (oa 164) nl nl)) (nd ob (nd (oc 138) nl nl) nl)))))))))
noncomputable def st176 (w : World) (os : OsState) : SharedT := ⟨tr176 w.params, 954, {}, ⟨[]⟩, {}, 798, os⟩
noncomputable def tr192 (P : Params) : BT := (nd (boot_o_0 P) (nd (boot_o_1 P) (nd (sh.o_47 P) (nd (boot_o_7 P) (nd (sh.o_8 P) (nd (sh.o_28 P) (nd (sh.o_64 P) (nd od (nd ob (nd (oc 87) (nd (oe 189) nl nl) nl) (nd od nl nl)) (nd (oe 61) (nd (oa 113) nl nl) (nd ob nl nl))) (nd (oc 23) (nd (oa 49) (nd ob nl nl) (nd (oc 151) nl nl)) (nd od (nd (oe 125) nl nl) (nd (oa 177) nl nl)))) (nd ob (nd (oa 17) (nd od (nd (oe 93) nl nl) (nd (oa 145) nl nl)) (nd ob (nd (oc 119) nl nl) (nd od nl nl))) (nd (oe 29) (nd (oc 55) (nd od nl nl) (nd (oe 157) nl nl)) (nd (oa 81) (nd ob nl nl) (nd (oc 183) nl nl))))) (nd (sh.o_44 P) (nd (oa 1) (nd (oe 13) (nd (oc 39) (nd od nl nl) (nd (oe 141) nl nl)) (nd (oa 65) (nd ob nl nl) (nd (oc 167) nl nl))) (nd od (nd ob (nd (oc 103) nl nl) (nd od nl nl)) (nd (oe 77) (nd (oa 129) nl nl) (nd ob nl nl)))) (nd (oc 7) (nd ob (nd (oe 45) (nd (oa 97) nl nl) (nd ob nl nl)) (nd (oc 71) (nd od nl nl) (nd (oe 173) nl nl))) (nd (oa 33) (nd od (nd (oe 109) nl nl) (nd (oa 161) nl nl)) (nd ob (nd (oc 135) nl nl) (nd od nl nl)))))) (nd (sh.o_16 P) (nd (sh.o_36 P) (nd (oIt 192) (nd ob (nd (oe 37) (nd (oa 89) (nd (oc 191) nl nl) nl) (nd ob nl nl)) (nd (oc 63) (nd od nl nl) (nd (oe 165) nl nl))) (nd (oa 25) (nd od (nd (oe 101) nl nl) (nd (oa 153) nl nl)) (nd ob (nd (oc 127) nl nl) (nd od nl nl)))) (nd (oe 5) (nd od (nd ob (nd (oc 95) nl nl) (nd od nl nl)) (nd (oe 69) (nd (oa 121) nl nl) (nd ob nl nl))) (nd (oc 31) (nd (oa 57) (nd ob nl nl) (nd (oc 159) nl nl)) (nd od (nd (oe 133) nl nl) (nd (oa 185) nl nl))))) (nd (sh.o_56 P) (nd od (nd (oc 15) (nd (oa 41) (nd ob nl nl) (nd (oc 143) nl nl)) (nd od (nd (oe 117) nl nl) (nd (oa 169) nl nl))) (nd ob (nd (oe 53) (nd (oa 105) nl nl) (nd ob nl nl)) (nd (oc 79) (nd od nl nl) (nd (oe 181) nl nl)))) (nd (oa 9) (nd (oe 21) (nd (oc 47) (nd od nl nl) (nd (oe 149) nl nl)) (nd (oa 73) (nd ob nl nl) (nd (oc 175) nl nl))) (nd od (nd ob (nd (oc 111) nl nl) (nd od nl nl)) (nd (oe 85) (nd (oa 137) nl nl) (nd ob nl nl))))))) (nd (sh.o_1 P) (nd (sh.o_12 P) (nd (sh.o_32 P) (nd (sh.o_68 P) (nd (oc 11) (nd (oa 37) (nd ob (nd od nl nl) nl) (nd (oc 139) nl nl)) (nd od (nd (oe 113) nl nl) (nd (oa 165) nl nl))) (nd ob (nd (oe 49) (nd (oa 101) nl nl) (nd ob nl nl)) (nd (oc 75) (nd od nl nl) (nd (oe 177) nl nl)))) (nd (oa 5) (nd (oe 17) (nd (oc 43) (nd od nl nl) (nd (oe 145) nl nl)) (nd (oa 69) (nd ob nl nl) (nd (oc 171) nl nl))) (nd od (nd ob (nd (oc 107) nl nl) (nd od nl nl)) (nd (oe 81) (nd (oa 133) nl nl) (nd ob nl nl))))) (nd (sh.o_52 P) (nd (oe 1) (nd od (nd ob (nd (oc 91) nl nl) (nd od nl nl)) (nd (oe 65) (nd (oa 117) nl nl) (nd ob nl nl))) (nd (oc 27) (nd (oa 53) (nd ob nl nl) (nd (oc 155) nl nl)) (nd od (nd (oe 129) nl nl) (nd (oa 181) nl nl)))) (nd ob (nd (oa 21) (nd od (nd (oe 97) nl nl) (nd (oa 149) nl nl)) (nd ob (nd (oc 123) nl nl) (nd od nl nl))) (nd (oe 33) (nd (oc 59) (nd od nl nl) (nd (oe 161) nl nl)) (nd (oa 85) (nd ob nl nl) (nd (oc 187) nl nl)))))) (nd (sh.o_20 P) (nd (sh.o_40 P) (nd ob (nd (oa 13) (nd od (nd (oe 89) nl nl) (nd (oa 141) nl nl)) (nd ob (nd (oc 115) nl nl) (nd od nl nl))) (nd (oe 25) (nd (oc 51) (nd od nl nl) (nd (oe 153) nl nl)) (nd (oa 77) (nd ob nl nl) (nd (oc 179) nl nl)))) (nd od (nd (oc 19) (nd (oa 45) (nd ob nl nl) (nd (oc 147) nl nl)) (nd od (nd (oe 121) nl nl) (nd (oa 173) nl nl))) (nd ob (nd (oe 57) (nd (oa 109) nl nl) (nd ob nl nl)) (nd (oc 83) (nd od nl nl) (nd (oe 185) nl nl))))) (nd (sh.o_60 P) (nd (oc 3) (nd ob (nd (oe 41) (nd (oa 93) nl nl) (nd ob nl nl)) (nd (oc 67) (nd od nl nl) (nd (oe 169) nl nl))) (nd (oa 29) (nd od (nd (oe 105) nl nl) (nd (oa 157) nl nl)) (nd ob (nd (oc 131) nl nl) (nd od nl nl)))) (nd (oe 9) (nd od (nd ob (nd (oc 99) nl nl) (nd od nl nl)) (nd (oe 73) (nd (oa 125) nl nl) (nd ob nl nl))) (nd (oc 35) (nd (oa 61) (nd ob nl nl) (nd (oc 163) nl nl)) (nd od (nd (oe 137) nl nl) (nd (oa 189) nl nl)))))))) (nd (boot_o_5 P) (nd (boot_o_9 P) (nd (sh.o_10 P) (nd (sh.o_30 P) (nd (sh.o_66 P) (nd (oa 11) (nd od (nd (oe 87) (nd ob nl nl) nl) (nd (oa 139) nl nl)) (nd ob (nd (oc 113) nl nl) (nd od nl nl))) (nd (oe 23) (nd (oc 49) (nd od nl nl) (nd (oe 151) nl nl)) (nd (oa 75) (nd ob nl nl) (nd (oc 177) nl nl)))) (nd od (nd (oc 17) (nd (oa 43) (nd ob nl nl) (nd (oc 145) nl nl)) (nd od (nd (oe 119) nl nl) (nd (oa 171) nl nl))) (nd ob (nd (oe 55) (nd (oa 107) nl nl) (nd ob nl nl)) (nd (oc 81) (nd od nl nl) (nd (oe 183) nl nl))))) (nd (sh.o_50 P) (nd (oc 1) (nd ob (nd (oe 39) (nd (oa 91) nl nl) (nd ob nl nl)) (nd (oc 65) (nd od nl nl) (nd (oe 167) nl nl))) (nd (oa 27) (nd od (nd (oe 103) nl nl) (nd (oa 155) nl nl)) (nd ob (nd (oc 129) nl nl) (nd od nl nl)))) (nd (oe 7) (nd od (nd ob (nd (oc 97) nl nl) (nd od nl nl)) (nd (oe 71) (nd (oa 123) nl nl) (nd ob nl nl))) (nd (oc 33) (nd (oa 59) (nd ob nl nl) (nd (oc 161) nl nl)) (nd od (nd (oe 135) nl nl) (nd (oa 187) nl nl)))))) (nd (sh.o_18 P) (nd (sh.o_38 P) (nd (oDc P 192) (nd od (nd ob (nd (oc 89) (nd (oe 191) nl nl) nl) (nd od nl nl)) (nd (oe 63) (nd (oa 115) nl nl) (nd ob nl nl))) (nd (oc 25) (nd (oa 51) (nd ob nl nl) (nd (oc 153) nl nl)) (nd od (nd (oe 127) nl nl) (nd (oa 179) nl nl)))) (nd ob (nd (oa 19) (nd od (nd (oe 95) nl nl) (nd (oa 147) nl nl)) (nd ob (nd (oc 121) nl nl) (nd od nl nl))) (nd (oe 31) (nd (oc 57) (nd od nl nl) (nd (oe 159) nl nl)) (nd (oa 83) (nd ob nl nl) (nd (oc 185) nl nl))))) (nd (sh.o_58 P) (nd (oa 3) (nd (oe 15) (nd (oc 41) (nd od nl nl) (nd (oe 143) nl nl)) (nd (oa 67) (nd ob nl nl) (nd (oc 169) nl nl))) (nd od (nd ob (nd (oc 105) nl nl) (nd od nl nl)) (nd (oe 79) (nd (oa 131) nl nl) (nd ob nl nl)))) (nd (oc 9) (nd ob (nd (oe 47) (nd (oa 99) nl nl) (nd ob nl nl)) (nd (oc 73) (nd od nl nl) (nd (oe 175) nl nl))) (nd (oa 35) (nd od (nd (oe 111) nl nl) (nd (oa 163) nl nl)) (nd ob (nd (oc 137) nl nl) (nd od nl nl))))))) (nd (sh.o_3 P) (nd (sh.o_14 P) (nd (sh.o_34 P) (nd (sh.o_70 P) (nd (oe 11) (nd (oc 37) (nd od (nd (oa 191) nl nl) nl) (nd (oe 139) nl nl)) (nd (oa 63) (nd ob nl nl) (nd (oc 165) nl nl))) (nd od (nd ob (nd (oc 101) nl nl) (nd od nl nl)) (nd (oe 75) (nd (oa 127) nl nl) (nd ob nl nl)))) (nd (oc 5) (nd ob (nd (oe 43) (nd (oa 95) nl nl) (nd ob nl nl)) (nd (oc 69) (nd od nl nl) (nd (oe 171) nl nl))) (nd (oa 31) (nd od (nd (oe 107) nl nl) (nd (oa 159) nl nl)) (nd ob (nd (oc 133) nl nl) (nd od nl nl))))) (nd (sh.o_54 P) (nd ob (nd (oa 15) (nd od (nd (oe 91) nl nl) (nd (oa 143) nl nl)) (nd ob (nd (oc 117) nl nl) (nd od nl nl))) (nd (oe 27) (nd (oc 53) (nd od nl nl) (nd (oe 155) nl nl)) (nd (oa 79) (nd ob nl nl) (nd (oc 181) nl nl)))) (nd od (nd (oc 21) (nd (oa 47) (nd ob nl nl) (nd (oc 149) nl nl)) (nd od (nd (oe 123) nl nl) (nd (oa 175) nl nl))) (nd ob (nd (oe 59) (nd (oa 111) nl nl) (nd ob nl nl)) (nd (oc 85) (nd od nl nl) (nd (oe 187) nl nl)))))) (nd (sh.o_26 P) (nd (sh.o_42 P) (nd od (nd (oc 13) (nd (oa 39) (nd ob nl nl) (nd (oc 141) nl nl)) (nd od (nd (oe 115) nl nl) (nd (oa 167) nl nl))) (nd ob (nd (oe 51) (nd (oa 103) nl nl) (nd ob nl nl)) (nd (oc 77) (nd od nl nl) (nd (oe 179) nl nl)))) (nd (oa 7) (nd (oe 19) (nd (oc 45) (nd od nl nl) (nd (oe 147) nl nl)) (nd (oa 71) (nd ob nl nl) (nd (oc 173) nl nl))) (nd od (nd ob (nd (oc 109) nl nl) (nd od nl nl)) (nd (oe 83) (nd (oa 135) nl nl) (nd ob nl nl))))) (nd (sh.o_62 P) (nd (oe 3) (nd od (nd ob (nd (oc 93) nl nl) (nd od nl nl)) (nd (oe 67) (nd (oa 119) nl nl) (nd ob nl nl))) (nd (oc 29) (nd (oa 55) (nd ob nl nl) (nd (oc 157) nl nl)) (nd od (nd (oe 131) nl nl) (nd (oa 183) nl nl)))) (nd ob (nd (oa 23) (nd od (nd (oe 99) nl nl) (nd (oa 151) nl nl)) (nd ob (nd (oc 125) nl nl) (nd od nl nl))) (nd (oe 35) (nd (oc 61) (nd od nl nl) (nd (oe 163) nl nl)) (nd (oa 87) (nd ob nl nl) (nd (oc 189) nl nl))))))))) (nd (sh.o_5 P) (nd (boot_o_4 P) (nd (boot_o_8 P) (nd (sh.o_9 P) (nd (sh.o_29 P) (nd (sh.o_65 P) (nd (oe 10) (nd (oc 36) (nd od (nd (oa 190) nl nl) nl) (nd (oe 138) nl nl)) (nd (oa 62) (nd ob nl nl) (nd (oc 164) nl nl))) (nd od (nd ob (nd (oc 100) nl nl) (nd od nl nl)) (nd (oe 74) (nd (oa 126) nl nl) (nd ob nl nl)))) (nd (oc 4) (nd ob (nd (oe 42) (nd (oa 94) nl nl) (nd ob nl nl)) (nd (oc 68) (nd od nl nl) (nd (oe 170) nl nl))) (nd (oa 30) (nd od (nd (oe 106) nl nl) (nd (oa 158) nl nl)) (nd ob (nd (oc 132) nl nl) (nd od nl nl))))) (nd (sh.o_45 P) (nd ob (nd (oa 14) (nd od (nd (oe 90) nl nl) (nd (oa 142) nl nl)) (nd ob (nd (oc 116) nl nl) (nd od nl nl))) (nd (oe 26) (nd (oc 52) (nd od nl nl) (nd (oe 154) nl nl)) (nd (oa 78) (nd ob nl nl) (nd (oc 180) nl nl)))) (nd od (nd (oc 20) (nd (oa 46) (nd ob nl nl) (nd (oc 148) nl nl)) (nd od (nd (oe 122) nl nl) (nd (oa 174) nl nl))) (nd ob (nd (oe 58) (nd (oa 110) nl nl) (nd ob nl nl)) (nd (oc 84) (nd od nl nl) (nd (oe 186) nl nl)))))) (nd (sh.o_49 P) (nd (sh.o_37 P) (nd (oLs 192) (nd (oc 12) (nd (oa 38) (nd ob (nd od nl nl) nl) (nd (oc 140) nl nl)) (nd od (nd (oe 114) nl nl) (nd (oa 166) nl nl))) (nd ob (nd (oe 50) (nd (oa 102) nl nl) (nd ob nl nl)) (nd (oc 76) (nd od nl nl) (nd (oe 178) nl nl)))) (nd (oa 6) (nd (oe 18) (nd (oc 44) (nd od nl nl) (nd (oe 146) nl nl)) (nd (oa 70) (nd ob nl nl) (nd (oc 172) nl nl))) (nd od (nd ob (nd (oc 108) nl nl) (nd od nl nl)) (nd (oe 82) (nd (oa 134) nl nl) (nd ob nl nl))))) (nd (sh.o_57 P) (nd (oe 2) (nd od (nd ob (nd (oc 92) nl nl) (nd od nl nl)) (nd (oe 66) (nd (oa 118) nl nl) (nd ob nl nl))) (nd (oc 28) (nd (oa 54) (nd ob nl nl) (nd (oc 156) nl nl)) (nd od (nd (oe 130) nl nl) (nd (oa 182) nl nl)))) (nd ob (nd (oa 22) (nd od (nd (oe 98) nl nl) (nd (oa 150) nl nl)) (nd ob (nd (oc 124) nl nl) (nd od nl nl))) (nd (oe 34) (nd (oc 60) (nd od nl nl) (nd (oe 162) nl nl)) (nd (oa 86) (nd ob nl nl) (nd (oc 188) nl nl))))))) (nd (sh.o_48 P) (nd (sh.o_13 P) (nd (sh.o_33 P) (nd (sh.o_69 P) (nd od (nd ob (nd (oc 88) (nd (oe 190) nl nl) nl) (nd od nl nl)) (nd (oe 62) (nd (oa 114) nl nl) (nd ob nl nl))) (nd (oc 24) (nd (oa 50) (nd ob nl nl) (nd (oc 152) nl nl)) (nd od (nd (oe 126) nl nl) (nd (oa 178) nl nl)))) (nd ob (nd (oa 18) (nd od (nd (oe 94) nl nl) (nd (oa 146) nl nl)) (nd ob (nd (oc 120) nl nl) (nd od nl nl))) (nd (oe 30) (nd (oc 56) (nd od nl nl) (nd (oe 158) nl nl)) (nd (oa 82) (nd ob nl nl) (nd (oc 184) nl nl))))) (nd (sh.o_53 P) (nd (oa 2) (nd (oe 14) (nd (oc 40) (nd od nl nl) (nd (oe 142) nl nl)) (nd (oa 66) (nd ob nl nl) (nd (oc 168) nl nl))) (nd od (nd ob (nd (oc 104) nl nl) (nd od nl nl)) (nd (oe 78) (nd (oa 130) nl nl) (nd ob nl nl)))) (nd (oc 8) (nd ob (nd (oe 46) (nd (oa 98) nl nl) (nd ob nl nl)) (nd (oc 72) (nd od nl nl) (nd (oe 174) nl nl))) (nd (oa 34) (nd od (nd (oe 110) nl nl) (nd (oa 162) nl nl)) (nd ob (nd (oc 136) nl nl) (nd od nl nl)))))) (nd (sh.o_25 P) (nd (sh.o_41 P) (nd (oc 0) (nd ob (nd (oe 38) (nd (oa 90) nl nl) (nd ob nl nl)) (nd (oc 64) (nd od nl nl) (nd (oe 166) nl nl))) (nd (oa 26) (nd od (nd (oe 102) nl nl) (nd (oa 154) nl nl)) (nd ob (nd (oc 128) nl nl) (nd od nl nl)))) (nd (oe 6) (nd od (nd ob (nd (oc 96) nl nl) (nd od nl nl)) (nd (oe 70) (nd (oa 122) nl nl) (nd ob nl nl))) (nd (oc 32) (nd (oa 58) (nd ob nl nl) (nd (oc 160) nl nl)) (nd od (nd (oe 134) nl nl) (nd (oa 186) nl nl))))) (nd (sh.o_61 P) (nd od (nd (oc 16) (nd (oa 42) (nd ob nl nl) (nd (oc 144) nl nl)) (nd od (nd (oe 118) nl nl) (nd (oa 170) nl nl))) (nd ob (nd (oe 54) (nd (oa 106) nl nl) (nd ob nl nl)) (nd (oc 80) (nd od nl nl) (nd (oe 182) nl nl)))) (nd (oa 10) (nd (oe 22) (nd (oc 48) (nd od nl nl) (nd (oe 150) nl nl)) (nd (oa 74) (nd ob nl nl) (nd (oc 176) nl nl))) (nd od (nd ob (nd (oc 112) nl nl) (nd od nl nl)) (nd (oe 86) (nd (oa 138) nl nl) (nd ob nl nl)))))))) (nd (boot_o_6 P) (nd (boot_o_10 P) (nd (sh.o_11 P) (nd (sh.o_31 P) (nd (sh.o_67 P) (nd ob (nd (oe 36) (nd (oa 88) (nd (oc 190) nl nl) nl) (nd ob nl nl)) (nd (oc 62) (nd od nl nl) (nd (oe 164) nl nl))) (nd (oa 24) (nd od (nd (oe 100) nl nl) (nd (oa 152) nl nl)) (nd ob (nd (oc 126) nl nl) (nd od nl nl)))) (nd (oe 4) (nd od (nd ob (nd (oc 94) nl nl) (nd od nl nl)) (nd (oe 68) (nd (oa 120) nl nl) (nd ob nl nl))) (nd (oc 30) (nd (oa 56) (nd ob nl nl) (nd (oc 158) nl nl)) (nd od (nd (oe 132) nl nl) (nd (oa 184) nl nl))))) (nd (sh.o_51 P) (nd od (nd (oc 14) (nd (oa 40) (nd ob nl nl) (nd (oc 142) nl nl)) (nd od (nd (oe 116) nl nl) (nd (oa 168) nl nl))) (nd ob (nd (oe 52) (nd (oa 104) nl nl) (nd ob nl nl)) (nd (oc 78) (nd od nl nl) (nd (oe 180) nl nl)))) (nd (oa 8) (nd (oe 20) (nd (oc 46) (nd od nl nl) (nd (oe 148) nl nl)) (nd (oa 72) (nd ob nl nl) (nd (oc 174) nl nl))) (nd od (nd ob (nd (oc 110) nl nl) (nd od nl nl)) (nd (oe 84) (nd (oa 136) nl nl) (nd ob nl nl)))))) (nd (sh.o_19 P) (nd (sh.o_39 P) (nd (oa 0) (nd (oe 12) (nd (oc 38) (nd od nl nl) (nd (oe 140) nl nl)) (nd (oa 64) (nd ob nl nl) (nd (oc 166) nl nl))) (nd od (nd ob (nd (oc 102) nl nl) (nd od nl nl)) (nd (oe 76) (nd (oa 128) nl nl) (nd ob nl nl)))) (nd (oc 6) (nd ob (nd (oe 44) (nd (oa 96) nl nl) (nd ob nl nl)) (nd (oc 70) (nd od nl nl) (nd (oe 172) nl nl))) (nd (oa 32) (nd od (nd (oe 108) nl nl) (nd (oa 160) nl nl)) (nd ob (nd (oc 134) nl nl) (nd od nl nl))))) (nd (sh.o_59 P) (nd ob (nd (oa 16) (nd od (nd (oe 92) nl nl) (nd (oa 144) nl nl)) (nd ob (nd (oc 118) nl nl) (nd od nl nl))) (nd (oe 28) (nd (oc 54) (nd od nl nl) (nd (oe 156) nl nl)) (nd (oa 80) (nd ob nl nl) (nd (oc 182) nl nl)))) (nd od (nd (oc 22) (nd (oa 48) (nd ob nl nl) (nd (oc 150) nl nl)) (nd od (nd (oe 124) nl nl) (nd (oa 176) nl nl))) (nd ob (nd (oe 60) (nd (oa 112) nl nl) (nd ob nl nl)) (nd (oc 86) (nd od nl nl) (nd (oe 188) nl nl))))))) (nd (sh.o_4 P) (nd (sh.o_15 P) (nd (sh.o_35 P) (nd oR (nd (oa 12) (nd od (nd (oe 88) (nd ob nl nl) nl) (nd (oa 140) nl nl)) (nd ob (nd (oc 114) nl nl) (nd od nl nl))) (nd (oe 24) (nd (oc 50) (nd od nl nl) (nd (oe 152) nl nl)) (nd (oa 76) (nd ob nl nl) (nd (oc 178) nl nl)))) (nd od (nd (oc 18) (nd (oa 44) (nd ob nl nl) (nd (oc 146) nl nl)) (nd od (nd (oe 120) nl nl) (nd (oa 172) nl nl))) (nd ob (nd (oe 56) (nd (oa 108) nl nl) (nd ob nl nl)) (nd (oc 82) (nd od nl nl) (nd (oe 184) nl nl))))) (nd (sh.o_55 P) (nd (oc 2) (nd ob (nd (oe 40) (nd (oa 92) nl nl) (nd ob nl nl)) (nd (oc 66) (nd od nl nl) (nd (oe 168) nl nl))) (nd (oa 28) (nd od (nd (oe 104) nl nl) (nd (oa 156) nl nl)) (nd ob (nd (oc 130) nl nl) (nd od nl nl)))) (nd (oe 8) (nd od (nd ob (nd (oc 98) nl nl) (nd od nl nl)) (nd (oe 72) (nd (oa 124) nl nl) (nd ob nl nl))) (nd (oc 34) (nd (oa 60) (nd ob nl nl) (nd (oc 162) nl nl)) (nd od (nd (oe 136) nl nl) (nd (oa 188) nl nl)))))) (nd (sh.o_27 P) (nd (sh.o_43 P) (nd (oe 0) (nd od (nd ob (nd (oc 90) nl nl) (nd od nl nl)) (nd (oe 64) (nd (oa 116) nl nl) (nd ob nl nl))) (nd (oc 26) (nd (oa 52) (nd ob nl nl) (nd (oc 154) nl nl)) (nd od (nd (oe 128) nl nl) (nd (oa 180) nl nl)))) (nd ob (nd (oa 20) (nd od (nd (oe 96) nl nl) (nd (oa 148) nl nl)) (nd ob (nd (oc 122) nl nl) (nd od nl nl))) (nd (oe 32) (nd (oc 58) (nd od nl nl) (nd (oe 160) nl nl)) (nd (oa 84) (nd ob nl nl) (nd (oc 186) nl nl))))) (nd (sh.o_63 P) (nd (oa 4) (nd (oe 16) (nd (oc 42) (nd od nl nl) (nd (oe 144) nl nl)) (nd (oa 68) (nd ob nl nl) (nd (oc 170) nl nl))) (nd od (nd ob (nd (oc 106) nl nl) (nd od nl nl)) (nd (oe 80) (nd (oa 132) nl nl) (nd ob nl nl)))) (nd (oc 10) (nd ob (nd (oe 48) (nd (oa 100) nl nl) (nd ob nl nl)) (nd (oc 74) (nd od nl nl) (nd (oe 176) nl nl))) (nd (oa 36) (nd od (nd (oe 112) nl nl) (nd (oa 164) nl nl)) (nd ob (nd (oc 138) nl nl) (nd od nl nl))))))))))
noncomputable def st192 (w : World) (os : OsState) : SharedT := ⟨tr192 w.params, 1034, {}, ⟨[]⟩, {}, 846, os⟩
noncomputable def tr208 (P : Params) : BT := (nd (boot_o_0 P) (nd (boot_o_1 P) (nd (sh.o_47 P) (nd (boot_o_7 P) (nd (sh.o_8 P) (nd (sh.o_28 P) (nd (sh.o_64 P) (nd od (nd ob (nd (oc 87) (nd (oe 189) nl nl) nl) (nd od nl nl)) (nd (oe 61) (nd (oa 113) nl nl) (nd ob nl nl))) (nd (oc 23) (nd (oa 49) (nd ob (nd od nl nl) nl) (nd (oc 151) nl nl)) (nd od (nd (oe 125) nl nl) (nd (oa 177) nl nl)))) (nd ob (nd (oa 17) (nd od (nd (oe 93) (nd ob nl nl) nl) (nd (oa 145) nl nl)) (nd ob (nd (oc 119) nl nl) (nd od nl nl))) (nd (oe 29) (nd (oc 55) (nd od nl nl) (nd (oe 157) nl nl)) (nd (oa 81) (nd ob nl nl) (nd (oc 183) nl nl))))) (nd (sh.o_44 P) (nd (oa 1) (nd (oe 13) (nd (oc 39) (nd od (nd (oa 193) nl nl) nl) (nd (oe 141) nl nl)) (nd (oa 65) (nd ob nl nl) (nd (oc 167) nl nl))) (nd od (nd ob (nd (oc 103) (nd (oe 205) nl nl) nl) (nd od nl nl)) (nd (oe 77) (nd (oa 129) nl nl) (nd ob nl nl)))) (nd (oc 7) (nd ob (nd (oe 45) (nd (oa 97) (nd (oc 199) nl nl) nl) (nd ob nl nl)) (nd (oc 71) (nd od nl nl) (nd (oe 173) nl nl))) (nd (oa 33) (nd od (nd (oe 109) nl nl) (nd (oa 161) nl nl)) (nd ob (nd (oc 135) nl nl) (nd od nl nl)))))) (nd (sh.o_16 P) (nd (sh.o_36 P) (nd (oIt 208) (nd ob (nd (oe 37) (nd (oa 89) (nd (oc 191) nl nl) nl) (nd ob nl nl)) (nd (oc 63) (nd od nl nl) (nd (oe 165) nl nl))) (nd (oa 25) (nd od (nd (oe 101) (nd ob nl nl) nl) (nd (oa 153) nl nl)) (nd ob (nd (oc 127) nl nl) (nd od nl nl)))) (nd (oe 5) (nd od (nd ob (nd (oc 95) (nd (oe 197) nl nl) nl) (nd od nl nl)) (nd (oe 69) (nd (oa 121) nl nl) (nd ob nl nl))) (nd (oc 31) (nd (oa 57) (nd ob nl nl) (nd (oc 159) nl nl)) (nd od (nd (oe 133) nl nl) (nd (oa 185) nl nl))))) (nd (sh.o_56 P) (nd od (nd (oc 15) (nd (oa 41) (nd ob (nd od nl nl) nl) (nd (oc 143) nl nl)) (nd od (nd (oe 117) nl nl) (nd (oa 169) nl nl))) (nd ob (nd (oe 53) (nd (oa 105) (nd (oc 207) nl nl) nl) (nd ob nl nl)) (nd (oc 79) (nd od nl nl) (nd (oe 181) nl nl)))) (nd (oa 9) (nd (oe 21) (nd (oc 47) (nd od (nd (oa 201) nl nl) nl) (nd (oe 149) nl nl)) (nd (oa 73) (nd ob nl nl) (nd (oc 175) nl nl))) (nd od (nd ob (nd (oc 111) nl nl) (nd od nl nl)) (nd (oe 85) (nd (oa 137) nl nl) (nd ob nl nl))))))) (nd (sh.o_1 P) (nd (sh.o_12 P) (nd (sh.o_32 P) (nd (sh.o_68 P) (nd (oc 11) (nd (oa 37) (nd ob (nd od nl nl) nl) (nd (oc 139) nl nl)) (nd od (nd (oe 113) nl nl) (nd (oa 165) nl nl))) (nd ob (nd (oe 49) (nd (oa 101) (nd (oc 203) nl nl) nl) (nd ob nl nl)) (nd (oc 75) (nd od nl nl) (nd (oe 177) nl nl)))) (nd (oa 5) (nd (oe 17) (nd (oc 43) (nd od (nd (oa 197) nl nl) nl) (nd (oe 145) nl nl)) (nd (oa 69) (nd ob nl nl) (nd (oc 171) nl nl))) (nd od (nd ob (nd (oc 107) nl nl) (nd od nl nl)) (nd (oe 81) (nd (oa 133) nl nl) (nd ob nl nl))))) (nd (sh.o_52 P) (nd (oe 1) (nd od (nd ob (nd (oc 91) (nd (oe 193) nl nl) nl) (nd od nl nl)) (nd (oe 65) (nd (oa 117) nl nl) (nd ob nl nl))) (nd (oc 27) (nd (oa 53) (nd ob (nd od nl nl) nl) (nd (oc 155) nl nl)) (nd od (nd (oe 129) nl nl) (nd (oa 181) nl nl)))) (nd ob (nd (oa 21) (nd od (nd (oe 97) (nd ob nl nl) nl) (nd (oa 149) nl nl)) (nd ob (nd (oc 123) nl nl) (nd od nl nl))) (nd (oe 33) (nd (oc 59) (nd od nl nl) (nd (oe 161) nl nl)) (nd (oa 85) (nd ob nl nl) (nd (oc 187) nl nl)))))) (nd (sh.o_20 P) (nd (sh.o_40 P) (nd ob (nd (oa 13) (nd od (nd (oe 89) (nd ob nl nl) nl) (nd (oa 141) nl nl)) (nd ob (nd (oc 115) nl nl) (nd od nl nl))) (nd (oe 25) (nd (oc 51) (nd od (nd (oa 205) nl nl) nl) (nd (oe 153) nl nl)) (nd (oa 77) (nd ob nl nl) (nd (oc 179) nl nl)))) (nd od (nd (oc 19) (nd (oa 45) (nd ob (nd od nl nl) nl) (nd (oc 147) nl nl)) (nd od (nd (oe 121) nl nl) (nd (oa 173) nl nl))) (nd ob (nd (oe 57) (nd (oa 109) nl nl) (nd ob nl nl)) (nd (oc 83) (nd od nl nl) (nd (oe 185) nl nl))))) (nd (sh.o_60 P) (nd (oc 3) (nd ob (nd (oe 41) (nd (oa 93) (nd (oc 195) nl nl) nl) (nd ob nl nl)) (nd (oc 67) (nd od nl nl) (nd (oe 169) nl nl))) (nd (oa 29) (nd od (nd (oe 105) nl nl) (nd (oa 157) nl nl)) (nd ob (nd (oc 131) nl nl) (nd od nl nl)))) (nd (oe 9) (nd od (nd ob (nd (oc 99) (nd (oe 201) nl nl) nl) (nd od nl nl)) (nd (oe 73) (nd (oa 125) nl nl) (nd ob nl nl))) (nd (oc 35) (nd (oa 61) (nd ob nl nl) (nd (oc 163) nl nl)) (nd od (nd (oe 137) nl nl) (nd (oa 189) nl nl)))))))) (nd (boot_o_5 P) (nd (boot_o_9 P) (nd (sh.o_10 P) (nd (sh.o_30 P) (nd (sh.o_66 P) (nd (oa 11) (nd od (nd (oe 87) (nd ob nl nl) nl) (nd (oa 139) nl nl)) (nd ob (nd (oc 113) nl nl) (nd od nl nl))) (nd (oe 23) (nd (oc 49) (nd od (nd (oa 203) nl nl) nl) (nd (oe 151) nl nl)) (nd (oa 75) (nd ob nl nl) (nd (oc 177) nl nl)))) (nd od (nd (oc 17) (nd (oa 43) (nd ob (nd od nl nl) nl) (nd (oc 145) nl nl)) (nd od (nd (oe 119) nl nl) (nd (oa 171) nl nl))) (nd ob (nd (oe 55) (nd (oa 107) nl nl) (nd ob nl nl)) (nd (oc 81) (nd od nl nl) (nd (oe 183) nl nl))))) (nd (sh.o_50 P) (nd (oc 1) (nd ob (nd (oe 39) (nd (oa 91) (nd (oc 193) nl nl) nl) (nd ob nl nl)) (nd (oc 65) (nd od nl nl) (nd (oe 167) nl nl))) (nd (oa 27) (nd od (nd (oe 103) (nd ob nl nl) nl) (nd (oa 155) nl nl)) (nd ob (nd (oc 129) nl nl) (nd od nl nl)))) (nd (oe 7) (nd od (nd ob (nd (oc 97) (nd (oe 199) nl nl) nl) (nd od nl nl)) (nd (oe 71) (nd (oa 123) nl nl) (nd ob nl nl))) (nd (oc 33) (nd (oa 59) (nd ob nl nl) (nd (oc 161) nl nl)) (nd od (nd (oe 135) nl nl) (nd (oa 187) nl nl)))))) (nd (sh.o_18 P) (nd (sh.o_38 P) (nd (oDc P 208) (nd od (nd ob (nd (oc 89) (nd (oe 191) nl nl) nl) (nd od nl nl)) (nd (oe 63) (nd (oa 115) nl nl) (nd ob nl nl))) (nd (oc 25) (nd (oa 51) (nd ob (nd od nl nl) nl) (nd (oc 153) nl nl)) (nd od (nd (oe 127) nl nl) (nd (oa 179) nl nl)))) (nd ob (nd (oa 19) (nd od (nd (oe 95) (nd ob nl nl) nl) (nd (oa 147) nl nl)) (nd ob (nd (oc 121) nl nl) (nd od nl nl))) (nd (oe 31) (nd (oc 57) (nd od nl nl) (nd (oe 159) nl nl)) (nd (oa 83) (nd ob nl nl) (nd (oc 185) nl nl))))) (nd (sh.o_58 P) (nd (oa 3) (nd (oe 15) (nd (oc 41) (nd od (nd (oa 195) nl nl) nl) (nd (oe 143) nl nl)) (nd (oa 67) (nd ob nl nl) (nd (oc 169) nl nl))) (nd od (nd ob (nd (oc 105) (nd (oe 207) nl nl) nl) (nd od nl nl)) (nd (oe 79) (nd (oa 131) nl nl) (nd ob nl nl)))) (nd (oc 9) (nd ob (nd (oe 47) (nd (oa 99) (nd (oc 201) nl nl) nl) (nd ob nl nl)) (nd (oc 73) (nd od nl nl) (nd (oe 175) nl nl))) (nd (oa 35) (nd od (nd (oe 111) nl nl) (nd (oa 163) nl nl)) (nd ob (nd (oc 137) nl nl) (nd od nl nl))))))) (nd (sh.o_3 P) (nd (sh.o_14 P) (nd (sh.o_34 P) (nd (sh.o_70 P) (nd (oe 11) (nd (oc 37) (nd od (nd (oa 191) nl nl) nl) (nd (oe 139) nl nl)) (nd (oa 63) (nd ob nl nl) (nd (oc 165) nl nl))) (nd od (nd ob (nd (oc 101) (nd (oe 203) nl nl) nl) (nd od nl nl)) (nd (oe 75) (nd (oa 127) nl nl) (nd ob nl nl)))) (nd (oc 5) (nd ob (nd (oe 43) (nd (oa 95) (nd (oc 197) nl nl) nl) (nd ob nl nl)) (nd (oc 69) (nd od nl nl) (nd (oe 171) nl nl))) (nd (oa 31) (nd od (nd (oe 107) nl nl) (nd (oa 159) nl nl)) (nd ob (nd (oc 133) nl nl) (nd od nl nl))))) (nd (sh.o_54 P) (nd ob (nd (oa 15) (nd od (nd (oe 91) (nd ob nl nl) nl) (nd (oa 143) nl nl)) (nd ob (nd (oc 117) nl nl) (nd od nl nl))) (nd (oe 27) (nd (oc 53) (nd od (nd (oa 207) nl nl) nl) (nd (oe 155) nl nl)) (nd (oa 79) (nd ob nl nl) (nd (oc 181) nl nl)))) (nd od (nd (oc 21) (nd (oa 47) (nd ob (nd od nl nl) nl) (nd (oc 149) nl nl)) (nd od (nd (oe 123) nl nl) (nd (oa 175) nl nl))) (nd ob (nd (oe 59) (nd (oa 111) nl nl) (nd ob nl nl)) (nd (oc 85) (nd od nl nl) (nd (oe 187) nl nl)))))) (nd (sh.o_26 P) (nd (sh.o_42 P) (nd od (nd (oc 13) (nd (oa 39) (nd ob (nd od nl nl) nl) (nd (oc 141) nl nl)) (nd od (nd (oe 115) nl nl) (nd (oa 167) nl nl))) (nd ob (nd (oe 51) (nd (oa 103) (nd (oc 205) nl nl) nl) (nd ob nl nl)) (nd (oc 77) (nd od nl nl) (nd (oe 179) nl nl)))) (nd (oa 7) (nd (oe 19) (nd (oc 45) (nd od (nd (oa 199) nl nl) nl) (nd (oe 147) nl nl)) (nd (oa 71) (nd ob nl nl) (nd (oc 173) nl nl))) (nd od (nd ob (nd (oc 109) nl nl) (nd od nl nl)) (nd (oe 83) (nd (oa 135) nl nl) (nd ob nl nl))))) (nd (sh.o_62 P) (nd (oe 3) (nd od (nd ob (nd (oc 93) (nd (oe 195) nl nl) nl) (nd od nl nl)) (nd (oe 67) (nd (oa 119) nl nl) (nd ob nl nl))) (nd (oc 29) (nd (oa 55) (nd ob nl nl) (nd (oc 157) nl nl)) (nd od (nd (oe 131) nl nl) (nd (oa 183) nl nl)))) (nd ob (nd (oa 23) (nd od (nd (oe 99) (nd ob nl nl) nl) (nd (oa 151) nl nl)) (nd ob (nd (oc 125) nl nl) (nd od nl nl))) (nd (oe 35) (nd (oc 61) (nd od nl nl) (nd (oe 163) nl nl)) (nd (oa 87) (nd ob nl nl) (nd (oc 189) nl nl))))))))) (nd (sh.o_5 P) (nd (boot_o_4 P) (nd (boot_o_8 P) (nd (sh.o_9 P) (nd (sh.o_29 P) (nd (sh.o_65 P) (nd (oe 10) (nd (oc 36) (nd od (nd (oa 190) nl nl) nl) (nd (oe 138) nl nl)) (nd (oa 62) (nd ob nl nl) (nd (oc 164) nl nl))) (nd od (nd ob (nd (oc 100) (nd (oe 202) nl nl) nl) (nd od nl nl)) (nd (oe 74) (nd (oa 126) nl nl) (nd ob nl nl)))) (nd (oc 4) (nd ob (nd (oe 42) (nd (oa 94) (nd (oc 196) nl nl) nl) (nd ob nl nl)) (nd (oc 68) (nd od nl nl) (nd (oe 170) nl nl))) (nd (oa 30) (nd od (nd (oe 106) nl nl) (nd (oa 158) nl nl)) (nd ob (nd (oc 132) nl nl) (nd od nl nl))))) (nd (sh.o_45 P) (nd ob (nd (oa 14) (nd od (nd (oe 90) (nd ob nl nl) nl) (nd (oa 142) nl nl)) (nd ob (nd (oc 116) nl nl) (nd od nl nl))) (nd (oe 26) (nd (oc 52) (nd od (nd (oa 206) nl nl) nl) (nd (oe 154) nl nl)) (nd (oa 78) (nd ob nl nl) (nd (oc 180) nl nl)))) (nd od (nd (oc 20) (nd (oa 46) (nd ob (nd od nl nl) nl) (nd (oc 148) nl nl)) (nd od (nd (oe 122) nl nl) (nd (oa 174) nl nl))) (nd ob (nd (oe 58) (nd (oa 110) nl nl) (nd ob nl nl)) (nd (oc 84) (nd od nl nl) (nd (oe 186) nl nl)))))) (nd (sh.o_49 P) (nd (sh.o_37 P) (nd (oLs 208) (nd (oc 12) (nd (oa 38) (nd ob (nd od nl nl) nl) (nd (oc 140) nl nl)) (nd od (nd (oe 114) nl nl) (nd (oa 166) nl nl))) (nd ob (nd (oe 50) (nd (oa 102) (nd (oc 204) nl nl) nl) (nd ob nl nl)) (nd (oc 76) (nd od nl nl) (nd (oe 178) nl nl)))) (nd (oa 6) (nd (oe 18) (nd (oc 44) (nd od (nd (oa 198) nl nl) nl) (nd (oe 146) nl nl)) (nd (oa 70) (nd ob nl nl) (nd (oc 172) nl nl))) (nd od (nd ob (nd (oc 108) nl nl) (nd od nl nl)) (nd (oe 82) (nd (oa 134) nl nl) (nd ob nl nl))))) (nd (sh.o_57 P) (nd (oe 2) (nd od (nd ob (nd (oc 92) (nd (oe 194) nl nl) nl) (nd od nl nl)) (nd (oe 66) (nd (oa 118) nl nl) (nd ob nl nl))) (nd (oc 28) (nd (oa 54) (nd ob (nd od nl nl) nl) (nd (oc 156) nl nl)) (nd od (nd (oe 130) nl nl) (nd (oa 182) nl nl)))) (nd ob (nd (oa 22) (nd od (nd (oe 98) (nd ob nl nl) nl) (nd (oa 150) nl nl)) (nd ob (nd (oc 124) nl nl) (nd od nl nl))) (nd (oe 34) (nd (oc 60) (nd od nl nl) (nd (oe 162) nl nl)) (nd (oa 86) (nd ob nl nl) (nd (oc 188) nl nl))))))) (nd (sh.o_48 P) (nd (sh.o_13 P) (nd (sh.o_33 P) (nd (sh.o_69 P) (nd od (nd ob (nd (oc 88) (nd (oe 190) nl nl) nl) (nd od nl nl)) (nd (oe 62) (nd (oa 114) nl nl) (nd ob nl nl))) (nd (oc 24) (nd (oa 50) (nd ob (nd od nl nl) nl) (nd (oc 152) nl nl)) (nd od (nd (oe 126) nl nl) (nd (oa 178) nl nl)))) (nd ob (nd (oa 18) (nd od (nd (oe 94) (nd ob nl nl) nl) (nd (oa 146) nl nl)) (nd ob (nd (oc 120) nl nl) (nd od nl nl))) (nd (oe 30) (nd (oc 56) (nd od nl nl) (nd (oe 158) nl nl)) (nd (oa 82) (nd ob nl nl) (nd (oc 184) nl nl))))) (nd (sh.o_53 P) (nd (oa 2) (nd (oe 14) (nd (oc 40) (nd od (nd (oa 194) nl nl) nl) (nd (oe 142) nl nl)) (nd (oa 66) (nd ob nl nl) (nd (oc 168) nl nl))) (nd od (nd ob (nd (oc 104) (nd (oe 206) nl nl) nl) (nd od nl nl)) (nd (oe 78) (nd (oa 130) nl nl) (nd ob nl nl)))) (nd (oc 8) (nd ob (nd (oe 46) (nd (oa 98) (nd (oc 200) nl nl) nl) (nd ob nl nl)) (nd (oc 72) (nd od nl nl) (nd (oe 174) nl nl))) (nd (oa 34) (nd od (nd (oe 110) nl nl) (nd (oa 162) nl nl)) (nd ob (nd (oc 136) nl nl) (nd od nl nl)))))) (nd (sh.o_25 P) (nd (sh.o_41 P) (nd (oc 0) (nd ob (nd (oe 38) (nd (oa 90) (nd (oc 192) nl nl) nl) (nd ob nl nl)) (nd (oc 64) (nd od nl nl) (nd (oe 166) nl nl))) (nd (oa 26) (nd od (nd (oe 102) (nd ob nl nl) nl) (nd (oa 154) nl nl)) (nd ob (nd (oc 128) nl nl) (nd od nl nl)))) (nd (oe 6) (nd od (nd ob (nd (oc 96) (nd (oe 198) nl nl) nl) (nd od nl nl)) (nd (oe 70) (nd (oa 122) nl nl) (nd ob nl nl))) (nd (oc 32) (nd (oa 58) (nd ob nl nl) (nd (oc 160) nl nl)) (nd od (nd (oe 134) nl nl) (nd (oa 186) nl nl))))) (nd (sh.o_61 P) (nd od (nd (oc 16) (nd (oa 42) (nd ob (nd od nl nl) nl) (nd (oc 144) nl nl)) (nd od (nd (oe 118) nl nl) (nd (oa 170) nl nl))) (nd ob (nd (oe 54) (nd (oa 106) nl nl) (nd ob nl nl)) (nd (oc 80) (nd od nl nl) (nd (oe 182) nl nl)))) (nd (oa 10) (nd (oe 22) (nd (oc 48) (nd od (nd (oa 202) nl nl) nl) (nd (oe 150) nl nl)) (nd (oa 74) (nd ob nl nl) (nd (oc 176) nl nl))) (nd od (nd ob (nd (oc 112) nl nl) (nd od nl nl)) (nd (oe 86) (nd (oa 138) nl nl) (nd ob nl nl)))))))) (nd (boot_o_6 P) (nd (boot_o_10 P) (nd (sh.o_11 P) (nd (sh.o_31 P) (nd (sh.o_67 P) (nd ob (nd (oe 36) (nd (oa 88) (nd (oc 190) nl nl) nl) (nd ob nl nl)) (nd (oc 62) (nd od nl nl) (nd (oe 164) nl nl))) (nd (oa 24) (nd od (nd (oe 100) (nd ob nl nl) nl) (nd (oa 152) nl nl)) (nd ob (nd (oc 126) nl nl) (nd od nl nl)))) (nd (oe 4) (nd od (nd ob (nd (oc 94) (nd (oe 196) nl nl) nl) (nd od nl nl)) (nd (oe 68) (nd (oa 120) nl nl) (nd ob nl nl))) (nd (oc 30) (nd (oa 56) (nd ob nl nl) (nd (oc 158) nl nl)) (nd od (nd (oe 132) nl nl) (nd (oa 184) nl nl))))) (nd (sh.o_51 P) (nd od (nd (oc 14) (nd (oa 40) (nd ob (nd od nl nl) nl) (nd (oc 142) nl nl)) (nd od (nd (oe 116) nl nl) (nd (oa 168) nl nl))) (nd ob (nd (oe 52) (nd (oa 104) (nd (oc 206) nl nl) nl) (nd ob nl nl)) (nd (oc 78) (nd od nl nl) (nd (oe 180) nl nl)))) (nd (oa 8) (nd (oe 20) (nd (oc 46) (nd od (nd (oa 200) nl nl) nl) (nd (oe 148) nl nl)) (nd (oa 72) (nd ob nl nl) (nd (oc 174) nl nl))) (nd od (nd ob (nd (oc 110) nl nl) (nd od nl nl)) (nd (oe 84) (nd (oa 136) nl nl) (nd ob nl nl)))))) (nd (sh.o_19 P) (nd (sh.o_39 P) (nd (oa 0) (nd (oe 12) (nd (oc 38) (nd od (nd (oa 192) nl nl) nl) (nd (oe 140) nl nl)) (nd (oa 64) (nd ob nl nl) (nd (oc 166) nl nl))) (nd od (nd ob (nd (oc 102) (nd (oe 204) nl nl) nl) (nd od nl nl)) (nd (oe 76) (nd (oa 128) nl nl) (nd ob nl nl)))) (nd (oc 6) (nd ob (nd (oe 44) (nd (oa 96) (nd (oc 198) nl nl) nl) (nd ob nl nl)) (nd (oc 70) (nd od nl nl) (nd (oe 172) nl nl))) (nd (oa 32) (nd od (nd (oe 108) nl nl) (nd (oa 160) nl nl)) (nd ob (nd (oc 134) nl nl) (nd od nl nl))))) (nd (sh.o_59 P) (nd ob (nd (oa 16) (nd od (nd (oe 92) (nd ob nl nl) nl) (nd (oa 144) nl nl)) (nd ob (nd (oc 118) nl nl) (nd od nl nl))) (nd (oe 28) (nd (oc 54) (nd od nl nl) (nd (oe 156) nl nl)) (nd (oa 80) (nd ob nl nl) (nd (oc 182) nl nl)))) (nd od (nd (oc 22) (nd (oa 48) (nd ob (nd od nl nl) nl) (nd (oc 150) nl nl)) (nd od (nd (oe 124) nl nl) (nd (oa 176) nl nl))) (nd ob (nd (oe 60) (nd (oa 112) nl nl) (nd ob nl nl)) (nd (oc 86) (nd od nl nl) (nd (oe 188) nl nl))))))) (nd (sh.o_4 P) (nd (sh.o_15 P) (nd (sh.o_35 P) (nd oR (nd (oa 12) (nd od (nd (oe 88) (nd ob nl nl) nl) (nd (oa 140) nl nl)) (nd ob (nd (oc 114) nl nl) (nd od nl nl))) (nd (oe 24) (nd (oc 50) (nd od (nd (oa 204) nl nl) nl) (nd (oe 152) nl nl)) (nd (oa 76) (nd ob nl nl) (nd (oc 178) nl nl)))) (nd od (nd (oc 18) (nd (oa 44) (nd ob (nd od nl nl) nl) (nd (oc 146) nl nl)) (nd od (nd (oe 120) nl nl) (nd (oa 172) nl nl))) (nd ob (nd (oe 56) (nd (oa 108) nl nl) (nd ob nl nl)) (nd (oc 82) (nd od nl nl) (nd (oe 184) nl nl))))) (nd (sh.o_55 P) (nd (oc 2) (nd ob (nd (oe 40) (nd (oa 92) (nd (oc 194) nl nl) nl) (nd ob nl nl)) (nd (oc 66) (nd od nl nl) (nd (oe 168) nl nl))) (nd (oa 28) (nd od (nd (oe 104) (nd ob nl nl) nl) (nd (oa 156) nl nl)) (nd ob (nd (oc 130) nl nl) (nd od nl nl)))) (nd (oe 8) (nd od (nd ob (nd (oc 98) (nd (oe 200) nl nl) nl) (nd od nl nl)) (nd (oe 72) (nd (oa 124) nl nl) (nd ob nl nl))) (nd (oc 34) (nd (oa 60) (nd ob nl nl) (nd (oc 162) nl nl)) (nd od (nd (oe 136) nl nl) (nd (oa 188) nl nl)))))) (nd (sh.o_27 P) (nd (sh.o_43 P) (nd (oe 0) (nd od (nd ob (nd (oc 90) (nd (oe 192) nl nl) nl) (nd od nl nl)) (nd (oe 64) (nd (oa 116) nl nl) (nd ob nl nl))) (nd (oc 26) (nd (oa 52) (nd ob (nd od nl nl) nl) (nd (oc 154) nl nl)) (nd od (nd (oe 128) nl nl) (nd (oa 180) nl nl)))) (nd ob (nd (oa 20) (nd od (nd (oe 96) (nd ob nl nl) nl) (nd (oa 148) nl nl)) (nd ob (nd (oc 122) nl nl) (nd od nl nl))) (nd (oe 32) (nd (oc 58) (nd od nl nl) (nd (oe 160) nl nl)) (nd (oa 84) (nd ob nl nl) (nd (oc 186) nl nl))))) (nd (sh.o_63 P) (nd (oa 4) (nd (oe 16) (nd (oc 42) (nd od (nd (oa 196) nl nl) nl) (nd (oe 144) nl nl)) (nd (oa 68) (nd ob nl nl) (nd (oc 170) nl nl))) (nd od (nd ob (nd (oc 106) nl nl) (nd od nl nl)) (nd (oe 80) (nd (oa 132) nl nl) (nd ob nl nl)))) (nd (oc 10) (nd ob (nd (oe 48) (nd (oa 100) (nd (oc 202) nl nl) nl) (nd ob nl nl)) (nd (oc 74) (nd od nl nl) (nd (oe 176) nl nl))) (nd (oa 36) (nd od (nd (oe 112) nl nl) (nd (oa 164) nl nl)) (nd ob (nd (oc 138) nl nl) (nd od nl nl))))))))))
noncomputable def st208 (w : World) (os : OsState) : SharedT := ⟨tr208 w.params, 1114, {}, ⟨[]⟩, {}, 894, os⟩
noncomputable def tr224 (P : Params) : BT := (nd (boot_o_0 P) (nd (boot_o_1 P) (nd (sh.o_47 P) (nd (boot_o_7 P) (nd (sh.o_8 P) (nd (sh.o_28 P) (nd (sh.o_64 P) (nd od (nd ob (nd (oc 87) (nd (oe 189) nl nl) nl) (nd od nl nl)) (nd (oe 61) (nd (oa 113) (nd (oc 215) nl nl) nl) (nd ob nl nl))) (nd (oc 23) (nd (oa 49) (nd ob (nd od nl nl) nl) (nd (oc 151) nl nl)) (nd od (nd (oe 125) nl nl) (nd (oa 177) nl nl)))) (nd ob (nd (oa 17) (nd od (nd (oe 93) (nd ob nl nl) nl) (nd (oa 145) nl nl)) (nd ob (nd (oc 119) (nd (oe 221) nl nl) nl) (nd od nl nl))) (nd (oe 29) (nd (oc 55) (nd od (nd (oa 209) nl nl) nl) (nd (oe 157) nl nl)) (nd (oa 81) (nd ob nl nl) (nd (oc 183) nl nl))))) (nd (sh.o_44 P) (nd (oa 1) (nd (oe 13) (nd (oc 39) (nd od (nd (oa 193) nl nl) nl) (nd (oe 141) nl nl)) (nd (oa 65) (nd ob (nd od nl nl) nl) (nd (oc 167) nl nl))) (nd od (nd ob (nd (oc 103) (nd (oe 205) nl nl) nl) (nd od nl nl)) (nd (oe 77) (nd (oa 129) nl nl) (nd ob nl nl)))) (nd (oc 7) (nd ob (nd (oe 45) (nd (oa 97) (nd (oc 199) nl nl) nl) (nd ob nl nl)) (nd (oc 71) (nd od nl nl) (nd (oe 173) nl nl))) (nd (oa 33) (nd od (nd (oe 109) (nd ob nl nl) nl) (nd (oa 161) nl nl)) (nd ob (nd (oc 135) nl nl) (nd od nl nl)))))) (nd (sh.o_16 P) (nd (sh.o_36 P) (nd (oIt 224) (nd ob (nd (oe 37) (nd (oa 89) (nd (oc 191) nl nl) nl) (nd ob nl nl)) (nd (oc 63) (nd od (nd (oa 217) nl nl) nl) (nd (oe 165) nl nl))) (nd (oa 25) (nd od (nd (oe 101) (nd ob nl nl) nl) (nd (oa 153) nl nl)) (nd ob (nd (oc 127) nl nl) (nd od nl nl)))) (nd (oe 5) (nd od (nd ob (nd (oc 95) (nd (oe 197) nl nl) nl) (nd od nl nl)) (nd (oe 69) (nd (oa 121) (nd (oc 223) nl nl) nl) (nd ob nl nl))) (nd (oc 31) (nd (oa 57) (nd ob (nd od nl nl) nl) (nd (oc 159) nl nl)) (nd od (nd (oe 133) nl nl) (nd (oa 185) nl nl))))) (nd (sh.o_56 P) (nd od (nd (oc 15) (nd (oa 41) (nd ob (nd od nl nl) nl) (nd (oc 143) nl nl)) (nd od (nd (oe 117) (nd ob nl nl) nl) (nd (oa 169) nl nl))) (nd ob (nd (oe 53) (nd (oa 105) (nd (oc 207) nl nl) nl) (nd ob nl nl)) (nd (oc 79) (nd od nl nl) (nd (oe 181) nl nl)))) (nd (oa 9) (nd (oe 21) (nd (oc 47) (nd od (nd (oa 201) nl nl) nl) (nd (oe 149) nl nl)) (nd (oa 73) (nd ob nl nl) (nd (oc 175) nl nl))) (nd od (nd ob (nd (oc 111) (nd (oe 213) nl nl) nl) (nd od nl nl)) (nd (oe 85) (nd (oa 137) nl nl) (nd ob nl nl))))))) (nd (sh.o_1 P) (nd (sh.o_12 P) (nd (sh.o_32 P) (nd (sh.o_68 P) (nd (oc 11) (nd (oa 37) (nd ob (nd od nl nl) nl) (nd (oc 139) nl nl)) (nd od (nd (oe 113) (nd ob nl nl) nl) (nd (oa 165) nl nl))) (nd ob (nd (oe 49) (nd (oa 101) (nd (oc 203) nl nl) nl) (nd ob nl nl)) (nd (oc 75) (nd od nl nl) (nd (oe 177) nl nl)))) (nd (oa 5) (nd (oe 17) (nd (oc 43) (nd od (nd (oa 197) nl nl) nl) (nd (oe 145) nl nl)) (nd (oa 69) (nd ob (nd od nl nl) nl) (nd (oc 171) nl nl))) (nd od (nd ob (nd (oc 107) (nd (oe 209) nl nl) nl) (nd od nl nl)) (nd (oe 81) (nd (oa 133) nl nl) (nd ob nl nl))))) (nd (sh.o_52 P) (nd (oe 1) (nd od (nd ob (nd (oc 91) (nd (oe 193) nl nl) nl) (nd od nl nl)) (nd (oe 65) (nd (oa 117) (nd (oc 219) nl nl) nl) (nd ob nl nl))) (nd (oc 27) (nd (oa 53) (nd ob (nd od nl nl) nl) (nd (oc 155) nl nl)) (nd od (nd (oe 129) nl nl) (nd (oa 181) nl nl)))) (nd ob (nd (oa 21) (nd od (nd (oe 97) (nd ob nl nl) nl) (nd (oa 149) nl nl)) (nd ob (nd (oc 123) nl nl) (nd od nl nl))) (nd (oe 33) (nd (oc 59) (nd od (nd (oa 213) nl nl) nl) (nd (oe 161) nl nl)) (nd (oa 85) (nd ob nl nl) (nd (oc 187) nl nl)))))) (nd (sh.o_20 P) (nd (sh.o_40 P) (nd ob (nd (oa 13) (nd od (nd (oe 89) (nd ob nl nl) nl) (nd (oa 141) nl nl)) (nd ob (nd (oc 115) (nd (oe 217) nl nl) nl) (nd od nl nl))) (nd (oe 25) (nd (oc 51) (nd od (nd (oa 205) nl nl) nl) (nd (oe 153) nl nl)) (nd (oa 77) (nd ob nl nl) (nd (oc 179) nl nl)))) (nd od (nd (oc 19) (nd (oa 45) (nd ob (nd od nl nl) nl) (nd (oc 147) nl nl)) (nd od (nd (oe 121) nl nl) (nd (oa 173) nl nl))) (nd ob (nd (oe 57) (nd (oa 109) (nd (oc 211) nl nl) nl) (nd ob nl nl)) (nd (oc 83) (nd od nl nl) (nd (oe 185) nl nl))))) (nd (sh.o_60 P) (nd (oc 3) (nd ob (nd (oe 41) (nd (oa 93) (nd (oc 195) nl nl) nl) (nd ob nl nl)) (nd (oc 67) (nd od (nd (oa 221) nl nl) nl) (nd (oe 169) nl nl))) (nd (oa 29) (nd od (nd (oe 105) (nd ob nl nl) nl) (nd (oa 157) nl nl)) (nd ob (nd (oc 131) nl nl) (nd od nl nl)))) (nd (oe 9) (nd od (nd ob (nd (oc 99) (nd (oe 201) nl nl) nl) (nd od nl nl)) (nd (oe 73) (nd (oa 125) nl nl) (nd ob nl nl))) (nd (oc 35) (nd (oa 61) (nd ob (nd od nl nl) nl) (nd (oc 163) nl nl)) (nd od (nd (oe 137) nl nl) (nd (oa 189) nl nl)))))))) (nd (boot_o_5 P) (nd (boot_o_9 P) (nd (sh.o_10 P) (nd (sh.o_30 P) (nd (sh.o_66 P) (nd (oa 11) (nd od (nd (oe 87) (nd ob nl nl) nl) (nd (oa 139) nl nl)) (nd ob (nd (oc 113) (nd (oe 215) nl nl) nl) (nd od nl nl))) (nd (oe 23) (nd (oc 49) (nd od (nd (oa 203) nl nl) nl) (nd (oe 151) nl nl)) (nd (oa 75) (nd ob nl nl) (nd (oc 177) nl nl)))) (nd od (nd (oc 17) (nd (oa 43) (nd ob (nd od nl nl) nl) (nd (oc 145) nl nl)) (nd od (nd (oe 119) (nd ob nl nl) nl) (nd (oa 171) nl nl))) (nd ob (nd (oe 55) (nd (oa 107) (nd (oc 209) nl nl) nl) (nd ob nl nl)) (nd (oc 81) (nd od nl nl) (nd (oe 183) nl nl))))) (nd (sh.o_50 P) (nd (oc 1) (nd ob (nd (oe 39) (nd (oa 91) (nd (oc 193) nl nl) nl) (nd ob nl nl)) (nd (oc 65) (nd od (nd (oa 219) nl nl) nl) (nd (oe 167) nl nl))) (nd (oa 27) (nd od (nd (oe 103) (nd ob nl nl) nl) (nd (oa 155) nl nl)) (nd ob (nd (oc 129) nl nl) (nd od nl nl)))) (nd (oe 7) (nd od (nd ob (nd (oc 97) (nd (oe 199) nl nl) nl) (nd od nl nl)) (nd (oe 71) (nd (oa 123) nl nl) (nd ob nl nl))) (nd (oc 33) (nd (oa 59) (nd ob (nd od nl nl) nl) (nd (oc 161) nl nl)) (nd od (nd (oe 135) nl nl) (nd (oa 187) nl nl)))))) (nd (sh.o_18 P) (nd (sh.o_38 P) (nd (oDc P 224) (nd od (nd ob (nd (oc 89) (nd (oe 191) nl nl) nl) (nd od nl nl)) (nd (oe 63) (nd (oa 115) (nd (oc 217) nl nl) nl) (nd ob nl nl))) (nd (oc 25) (nd (oa 51) (nd ob (nd od nl nl) nl) (nd (oc 153) nl nl)) (nd od (nd (oe 127) nl nl) (nd (oa 179) nl nl)))) (nd ob (nd (oa 19) (nd od (nd (oe 95) (nd ob nl nl) nl) (nd (oa 147) nl nl)) (nd ob (nd (oc 121) (nd (oe 223) nl nl) nl) (nd od nl nl))) (nd (oe 31) (nd (oc 57) (nd od (nd (oa 211) nl nl) nl) (nd (oe 159) nl nl)) (nd (oa 83) (nd ob nl nl) (nd (oc 185) nl nl))))) (nd (sh.o_58 P) (nd (oa 3) (nd (oe 15) (nd (oc 41) (nd od (nd (oa 195) nl nl) nl) (nd (oe 143) nl nl)) (nd (oa 67) (nd ob (nd od nl nl) nl) (nd (oc 169) nl nl))) (nd od (nd ob (nd (oc 105) (nd (oe 207) nl nl) nl) (nd od nl nl)) (nd (oe 79) (nd (oa 131) nl nl) (nd ob nl nl)))) (nd (oc 9) (nd ob (nd (oe 47) (nd (oa 99) (nd (oc 201) nl nl) nl) (nd ob nl nl)) (nd (oc 73) (nd od nl nl) (nd (oe 175) nl nl))) (nd (oa 35) (nd od (nd (oe 111) (nd ob nl nl) nl) (nd (oa 163) nl nl)) (nd ob (nd (oc 137) nl nl) (nd od nl nl))))))) (nd (sh.o_3 P) (nd (sh.o_14 P) (nd (sh.o_34 P) (nd (sh.o_70 P) (nd (oe 11) (nd (oc 37) (nd od (nd (oa 191) nl nl) nl) (nd (oe 139) nl nl)) (nd (oa 63) (nd ob (nd od nl nl) nl) (nd (oc 165) nl nl))) (nd od (nd ob (nd (oc 101) (nd (oe 203) nl nl) nl) (nd od nl nl)) (nd (oe 75) (nd (oa 127) nl nl) (nd ob nl nl)))) (nd (oc 5) (nd ob (nd (oe 43) (nd (oa 95) (nd (oc 197) nl nl) nl) (nd ob nl nl)) (nd (oc 69) (nd od (nd (oa 223) nl nl) nl) (nd (oe 171) nl nl))) (nd (oa 31) (nd od (nd (oe 107) (nd ob nl nl) nl) (nd (oa 159) nl nl)) (nd ob (nd (oc 133) nl nl) (nd od nl nl))))) (nd (sh.o_54 P) (nd ob (nd (oa 15) (nd od (nd (oe 91) (nd ob nl nl) nl) (nd (oa 143) nl nl)) (nd ob (nd (oc 117) (nd (oe 219) nl nl) nl) (nd od nl nl))) (nd (oe 27) (nd (oc 53) (nd od (nd (oa 207) nl nl) nl) (nd (oe 155) nl nl)) (nd (oa 79) (nd ob nl nl) (nd (oc 181) nl nl)))) (nd od (nd (oc 21) (nd (oa 47) (nd ob (nd od nl nl) nl) (nd (oc 149) nl nl)) (nd od (nd (oe 123) nl nl) (nd (oa 175) nl nl))) (nd ob (nd (oe 59) (nd (oa 111) (nd (oc 213) nl nl) nl) (nd ob nl nl)) (nd (oc 85) (nd od nl nl) (nd (oe 187) nl nl)))))) (nd (sh.o_26 P) (nd (sh.o_42 P) (nd od (nd (oc 13) (nd (oa 39) (nd ob (nd od nl nl) nl) (nd (oc 141) nl nl)) (nd od (nd (oe 115) (nd ob nl nl) nl) (nd (oa 167) nl nl))) (nd ob (nd (oe 51) (nd (oa 103) (nd (oc 205) nl nl) nl) (nd ob nl nl)) (nd (oc 77) (nd od nl nl) (nd (oe 179) nl nl)))) (nd (oa 7) (nd (oe 19) (nd (oc 45) (nd od (nd (oa 199) nl nl) nl) (nd (oe 147) nl nl)) (nd (oa 71) (nd ob nl nl) (nd (oc 173) nl nl))) (nd od (nd ob (nd (oc 109) (nd (oe 211) nl nl) nl) (nd od nl nl)) (nd (oe 83) (nd (oa 135) nl nl) (nd ob nl nl))))) (nd (sh.o_62 P) (nd (oe 3) (nd od (nd ob (nd (oc 93) (nd (oe 195) nl nl) nl) (nd od nl nl)) (nd (oe 67) (nd (oa 119) (nd (oc 221) nl nl) nl) (nd ob nl nl))) (nd (oc 29) (nd (oa 55) (nd ob (nd od nl nl) nl) (nd (oc 157) nl nl)) (nd od (nd (oe 131) nl nl) (nd (oa 183) nl nl)))) (nd ob (nd (oa 23) (nd od (nd (oe 99) (nd ob nl nl) nl) (nd (oa 151) nl nl)) (nd ob (nd (oc 125) nl nl) (nd od nl nl))) (nd (oe 35) (nd (oc 61) (nd od (nd (oa 215) nl nl) nl) (nd (oe 163) nl nl)) (nd (oa 87) (nd ob nl nl) (nd (oc 189) nl nl))))))))) (nd (sh.o_5 P) (nd (boot_o_4 P) (nd (boot_o_8 P) (nd (sh.o_9 P) (nd (sh.o_29 P) (nd (sh.o_65 P) (nd (oe 10) (nd (oc 36) (nd od (nd (oa 190) nl nl) nl) (nd (oe 138) nl nl)) (nd (oa 62) (nd ob (nd od nl nl) nl) (nd (oc 164) nl nl))) (nd od (nd ob (nd (oc 100) (nd (oe 202) nl nl) nl) (nd od nl nl)) (nd (oe 74) (nd (oa 126) nl nl) (nd ob nl nl)))) (nd (oc 4) (nd ob (nd (oe 42) (nd (oa 94) (nd (oc 196) nl nl) nl) (nd ob nl nl)) (nd (oc 68) (nd od (nd (oa 222) nl nl) nl) (nd (oe 170) nl nl))) (nd (oa 30) (nd od (nd (oe 106) (nd ob nl nl) nl) (nd (oa 158) nl nl)) (nd ob (nd (oc 132) nl nl) (nd od nl nl))))) (nd (sh.o_45 P) (nd ob (nd (oa 14) (nd od (nd (oe 90) (nd ob nl nl) nl) (nd (oa 142) nl nl)) (nd ob (nd (oc 116) (nd (oe 218) nl nl) nl) (nd od nl nl))) (nd (oe 26) (nd (oc 52) (nd od (nd (oa 206) nl nl) nl) (nd (oe 154) nl nl)) (nd (oa 78) (nd ob nl nl) (nd (oc 180) nl nl)))) (nd od (nd (oc 20) (nd (oa 46) (nd ob (nd od nl nl) nl) (nd (oc 148) nl nl)) (nd od (nd (oe 122) nl nl) (nd (oa 174) nl nl))) (nd ob (nd (oe 58) (nd (oa 110) (nd (oc 212) nl nl) nl) (nd ob nl nl)) (nd (oc 84) (nd od nl nl) (nd (oe 186) nl nl)))))) (nd (sh.o_49 P) (nd (sh.o_37 P) (nd (oLs 224) (nd (oc 12) (nd (oa 38) (nd ob (nd od nl nl) nl) (nd (oc 140) nl nl)) (nd od (nd (oe 114) (nd ob nl nl) nl) (nd (oa 166) nl nl))) (nd ob (nd (oe 50) (nd (oa 102) (nd (oc 204) nl nl) nl) (nd ob nl nl)) (nd (oc 76) (nd od nl nl) (nd (oe 178) nl nl)))) (nd (oa 6) (nd (oe 18) (nd (oc 44) (nd od (nd (oa 198) nl nl) nl) (nd (oe 146) nl nl)) (nd (oa 70) (nd ob (nd od nl nl) nl) (nd (oc 172) nl nl))) (nd od (nd ob (nd (oc 108) (nd (oe 210) nl nl) nl) (nd od nl nl)) (nd (oe 82) (nd (oa 134) nl nl) (nd ob nl nl))))) (nd (sh.o_57 P) (nd (oe 2) (nd od (nd ob (nd (oc 92) (nd (oe 194) nl nl) nl) (nd od nl nl)) (nd (oe 66) (nd (oa 118) (nd (oc 220) nl nl) nl) (nd ob nl nl))) (nd (oc 28) (nd (oa 54) (nd ob (nd od nl nl) nl) (nd (oc 156) nl nl)) (nd od (nd (oe 130) nl nl) (nd (oa 182) nl nl)))) (nd ob (nd (oa 22) (nd od (nd (oe 98) (nd ob nl nl) nl) (nd (oa 150) nl nl)) (nd ob (nd (oc 124) nl nl) (nd od nl nl))) (nd (oe 34) (nd (oc 60) (nd od (nd (oa 214) nl nl) nl) (nd (oe 162) nl nl)) (nd (oa 86) (nd ob nl nl) (nd (oc 188) nl nl))))))) (nd (sh.o_48 P) (nd (sh.o_13 P) (nd (sh.o_33 P) (nd (sh.o_69 P) (nd od (nd ob (nd (oc 88) (nd (oe 190) nl nl) nl) (nd od nl nl)) (nd (oe 62) (nd (oa 114) (nd (oc 216) nl nl) nl) (nd ob nl nl))) (nd (oc 24) (nd (oa 50) (nd ob (nd od nl nl) nl) (nd (oc 152) nl nl)) (nd od (nd (oe 126) nl nl) (nd (oa 178) nl nl)))) (nd ob (nd (oa 18) (nd od (nd (oe 94) (nd ob nl nl) nl) (nd (oa 146) nl nl)) (nd ob (nd (oc 120) (nd (oe 222) nl nl) nl) (nd od nl nl))) (nd (oe 30) (nd (oc 56) (nd od (nd (oa 210) nl nl) nl) (nd (oe 158) nl nl)) (nd (oa 82) (nd ob nl nl) (nd (oc 184) nl nl))))) (nd (sh.o_53 P) (nd (oa 2) (nd (oe 14) (nd (oc 40) (nd od (nd (oa 194) nl nl) nl) (nd (oe 142) nl nl)) (nd (oa 66) (nd ob (nd od nl nl) nl) (nd (oc 168) nl nl))) (nd od (nd ob (nd (oc 104) (nd (oe 206) nl nl) nl) (nd od nl nl)) (nd (oe 78) (nd (oa 130) nl nl) (nd ob nl nl)))) (nd (oc 8) (nd ob (nd (oe 46) (nd (oa 98) (nd (oc 200) nl nl) nl) (nd ob nl nl)) (nd (oc 72) (nd od nl nl) (nd (oe 174) nl nl))) (nd (oa 34) (nd od (nd (oe 110) (nd ob nl nl) nl) (nd (oa 162) nl nl)) (nd ob (nd (oc 136) nl nl) (nd od nl nl)))))) (nd (sh.o_25 P) (nd (sh.o_41 P) (nd (oc 0) (nd ob (nd (oe 38) (nd (oa 90) (nd (oc 192) nl nl) nl) (nd ob nl nl)) (nd (oc 64) (nd od (nd (oa 218) nl nl) nl) (nd (oe 166) nl nl))) (nd (oa 26) (nd od (nd (oe 102) (nd ob nl nl) nl) (nd (oa 154) nl nl)) (nd ob (nd (oc 128) nl nl) (nd od nl nl)))) (nd (oe 6) (nd od (nd ob (nd (oc 96) (nd (oe 198) nl nl) nl) (nd od nl nl)) (nd (oe 70) (nd (oa 122) nl nl) (nd ob nl nl))) (nd (oc 32) (nd (oa 58) (nd ob (nd od nl nl) nl) (nd (oc 160) nl nl)) (nd od (nd (oe 134) nl nl) (nd (oa 186) nl nl))))) (nd (sh.o_61 P) (nd od (nd (oc 16) (nd (oa 42) (nd ob (nd od nl nl) nl) (nd (oc 144) nl nl)) (nd od (nd (oe 118) (nd ob nl nl) nl) (nd (oa 170) nl nl))) (nd ob (nd (oe 54) (nd (oa 106) (nd (oc 208) nl nl) nl) (nd ob nl nl)) (nd (oc 80) (nd od nl nl) (nd (oe 182) nl nl)))) (nd (oa 10) (nd (oe 22) (nd (oc 48) (nd od (nd (oa 202) nl nl) nl) (nd (oe 150) nl nl)) (nd (oa 74) (nd ob nl nl) (nd (oc 176) nl nl))) (nd od (nd ob (nd (oc 112) (nd (oe 214) nl nl) nl) (nd od nl nl)) (nd (oe 86) (nd (oa 138) nl nl) (nd ob nl nl)))))))) (nd (boot_o_6 P) (nd (boot_o_10 P) (nd (sh.o_11 P) (nd (sh.o_31 P) (nd (sh.o_67 P) (nd ob (nd (oe 36) (nd (oa 88) (nd (oc 190) nl nl) nl) (nd ob nl nl)) (nd (oc 62) (nd od (nd (oa 216) nl nl) nl) (nd (oe 164) nl nl))) (nd (oa 24) (nd od (nd (oe 100) (nd ob nl nl) nl) (nd (oa 152) nl nl)) (nd ob (nd (oc 126) nl nl) (nd od nl nl)))) (nd (oe 4) (nd od (nd ob (nd (oc 94) (nd (oe 196) nl nl) nl) (nd od nl nl)) (nd (oe 68) (nd (oa 120) (nd (oc 222) nl nl) nl) (nd ob nl nl))) (nd (oc 30) (nd (oa 56) (nd ob (nd od nl nl) nl) (nd (oc 158) nl nl)) (nd od (nd (oe 132) nl nl) (nd (oa 184) nl nl))))) (nd (sh.o_51 P) (nd od (nd (oc 14) (nd (oa 40) (nd ob (nd od nl nl) nl) (nd (oc 142) nl nl)) (nd od (nd (oe 116) (nd ob nl nl) nl) (nd (oa 168) nl nl))) (nd ob (nd (oe 52) (nd (oa 104) (nd (oc 206) nl nl) nl) (nd ob nl nl)) (nd (oc 78) (nd od nl nl) (nd (oe 180) nl nl)))) (nd (oa 8) (nd (oe 20) (nd (oc 46) (nd od (nd (oa 200) nl nl) nl) (nd (oe 148) nl nl)) (nd (oa 72) (nd ob nl nl) (nd (oc 174) nl nl))) (nd od (nd ob (nd (oc 110) (nd (oe 212) nl nl) nl) (nd od nl nl)) (nd (oe 84) (nd (oa 136) nl nl) (nd ob nl nl)))))) (nd (sh.o_19 P) (nd (sh.o_39 P) (nd (oa 0) (nd (oe 12) (nd (oc 38) (nd od (nd (oa 192) nl nl) nl) (nd (oe 140) nl nl)) (nd (oa 64) (nd ob (nd od nl nl) nl) (nd (oc 166) nl nl))) (nd od (nd ob (nd (oc 102) (nd (oe 204) nl nl) nl) (nd od nl nl)) (nd (oe 76) (nd (oa 128) nl nl) (nd ob nl nl)))) (nd (oc 6) (nd ob (nd (oe 44) (nd (oa 96) (nd (oc 198) nl nl) nl) (nd ob nl nl)) (nd (oc 70) (nd od nl nl) (nd (oe 172) nl nl))) (nd (oa 32) (nd od (nd (oe 108) (nd ob nl nl) nl) (nd (oa 160) nl nl)) (nd ob (nd (oc 134) nl nl) (nd od nl nl))))) (nd (sh.o_59 P) (nd ob (nd (oa 16) (nd od (nd (oe 92) (nd ob nl nl) nl) (nd (oa 144) nl nl)) (nd ob (nd (oc 118) (nd (oe 220) nl nl) nl) (nd od nl nl))) (nd (oe 28) (nd (oc 54) (nd od (nd (oa 208) nl nl) nl) (nd (oe 156) nl nl)) (nd (oa 80) (nd ob nl nl) (nd (oc 182) nl nl)))) (nd od (nd (oc 22) (nd (oa 48) (nd ob (nd od nl nl) nl) (nd (oc 150) nl nl)) (nd od (nd (oe 124) nl nl) (nd (oa 176) nl nl))) (nd ob (nd (oe 60) (nd (oa 112) (nd (oc 214) nl nl) nl) (nd ob nl nl)) (nd (oc 86) (nd od nl nl) (nd (oe 188) nl nl))))))) (nd (sh.o_4 P) (nd (sh.o_15 P) (nd (sh.o_35 P) (nd oR (nd (oa 12) (nd od (nd (oe 88) (nd ob nl nl) nl) (nd (oa 140) nl nl)) (nd ob (nd (oc 114) (nd (oe 216) nl nl) nl) (nd od nl nl))) (nd (oe 24) (nd (oc 50) (nd od (nd (oa 204) nl nl) nl) (nd (oe 152) nl nl)) (nd (oa 76) (nd ob nl nl) (nd (oc 178) nl nl)))) (nd od (nd (oc 18) (nd (oa 44) (nd ob (nd od nl nl) nl) (nd (oc 146) nl nl)) (nd od (nd (oe 120) (nd ob nl nl) nl) (nd (oa 172) nl nl))) (nd ob (nd (oe 56) (nd (oa 108) (nd (oc 210) nl nl) nl) (nd ob nl nl)) (nd (oc 82) (nd od nl nl) (nd (oe 184) nl nl))))) (nd (sh.o_55 P) (nd (oc 2) (nd ob (nd (oe 40) (nd (oa 92) (nd (oc 194) nl nl) nl) (nd ob nl nl)) (nd (oc 66) (nd od (nd (oa 220) nl nl) nl) (nd (oe 168) nl nl))) (nd (oa 28) (nd od (nd (oe 104) (nd ob nl nl) nl) (nd (oa 156) nl nl)) (nd ob (nd (oc 130) nl nl) (nd od nl nl)))) (nd (oe 8) (nd od (nd ob (nd (oc 98) (nd (oe 200) nl nl) nl) (nd od nl nl)) (nd (oe 72) (nd (oa 124) nl nl) (nd ob nl nl))) (nd (oc 34) (nd (oa 60) (nd ob (nd od nl nl) nl) (nd (oc 162) nl nl)) (nd od (nd (oe 136) nl nl) (nd (oa 188) nl nl)))))) (nd (sh.o_27 P) (nd (sh.o_43 P) (nd (oe 0) (nd od (nd ob (nd (oc 90) (nd (oe 192) nl nl) nl) (nd od nl nl)) (nd (oe 64) (nd (oa 116) (nd (oc 218) nl nl) nl) (nd ob nl nl))) (nd (oc 26) (nd (oa 52) (nd ob (nd od nl nl) nl) (nd (oc 154) nl nl)) (nd od (nd (oe 128) nl nl) (nd (oa 180) nl nl)))) (nd ob (nd (oa 20) (nd od (nd (oe 96) (nd ob nl nl) nl) (nd (oa 148) nl nl)) (nd ob (nd (oc 122) nl nl) (nd od nl nl))) (nd (oe 32) (nd (oc 58) (nd od (nd (oa 212) nl nl) nl) (nd (oe 160) nl nl)) (nd (oa 84) (nd ob nl nl) (nd (oc 186) nl nl))))) (nd (sh.o_63 P) (nd (oa 4) (nd (oe 16) (nd (oc 42) (nd od (nd (oa 196) nl nl) nl) (nd (oe 144) nl nl)) (nd (oa 68) (nd ob (nd od nl nl) nl) (nd (oc 170) nl nl))) (nd od (nd ob (nd (oc 106) (nd (oe 208) nl nl) nl) (nd od nl nl)) (nd (oe 80) (nd (oa 132) nl nl) (nd ob nl nl)))) (nd (oc 10) (nd ob (nd (oe 48) (nd (oa 100) (nd (oc 202) nl nl) nl) (nd ob nl nl)) (nd (oc 74) (nd od nl nl) (nd (oe 176) nl nl))) (nd (oa 36) (nd od (nd (oe 112) (nd ob nl nl) nl) (nd (oa 164) nl nl)) (nd ob (nd (oc 138) nl nl) (nd od nl nl))))))))))
noncomputable def st224 (w : World) (os : OsState) : SharedT := ⟨tr224 w.params, 1194, {}, ⟨[]⟩, {}, 942, os⟩
noncomputable def tr240 (P : Params) : BT := (nd (boot_o_0 P) (nd (boot_o_1 P) (nd (sh.o_47 P) (nd (boot_o_7 P) (nd (sh.o_8 P) (nd (sh.o_28 P) (nd (sh.o_64 P) (nd od (nd ob (nd (oc 87) (nd (oe 189) nl nl) nl) (nd od nl nl)) (nd (oe 61) (nd (oa 113) (nd (oc 215) nl nl) nl) (nd ob nl nl))) (nd (oc 23) (nd (oa 49) (nd ob (nd od nl nl) nl) (nd (oc 151) nl nl)) (nd od (nd (oe 125) (nd ob nl nl) nl) (nd (oa 177) nl nl)))) (nd ob (nd (oa 17) (nd od (nd (oe 93) (nd ob nl nl) nl) (nd (oa 145) nl nl)) (nd ob (nd (oc 119) (nd (oe 221) nl nl) nl) (nd od nl nl))) (nd (oe 29) (nd (oc 55) (nd od (nd (oa 209) nl nl) nl) (nd (oe 157) nl nl)) (nd (oa 81) (nd ob (nd od nl nl) nl) (nd (oc 183) nl nl))))) (nd (sh.o_44 P) (nd (oa 1) (nd (oe 13) (nd (oc 39) (nd od (nd (oa 193) nl nl) nl) (nd (oe 141) nl nl)) (nd (oa 65) (nd ob (nd od nl nl) nl) (nd (oc 167) nl nl))) (nd od (nd ob (nd (oc 103) (nd (oe 205) nl nl) nl) (nd od nl nl)) (nd (oe 77) (nd (oa 129) (nd (oc 231) nl nl) nl) (nd ob nl nl)))) (nd (oc 7) (nd ob (nd (oe 45) (nd (oa 97) (nd (oc 199) nl nl) nl) (nd ob nl nl)) (nd (oc 71) (nd od (nd (oa 225) nl nl) nl) (nd (oe 173) nl nl))) (nd (oa 33) (nd od (nd (oe 109) (nd ob nl nl) nl) (nd (oa 161) nl nl)) (nd ob (nd (oc 135) (nd (oe 237) nl nl) nl) (nd od nl nl)))))) (nd (sh.o_16 P) (nd (sh.o_36 P) (nd (oIt 240) (nd ob (nd (oe 37) (nd (oa 89) (nd (oc 191) nl nl) nl) (nd ob nl nl)) (nd (oc 63) (nd od (nd (oa 217) nl nl) nl) (nd (oe 165) nl nl))) (nd (oa 25) (nd od (nd (oe 101) (nd ob nl nl) nl) (nd (oa 153) nl nl)) (nd ob (nd (oc 127) (nd (oe 229) nl nl) nl) (nd od nl nl)))) (nd (oe 5) (nd od (nd ob (nd (oc 95) (nd (oe 197) nl nl) nl) (nd od nl nl)) (nd (oe 69) (nd (oa 121) (nd (oc 223) nl nl) nl) (nd ob nl nl))) (nd (oc 31) (nd (oa 57) (nd ob (nd od nl nl) nl) (nd (oc 159) nl nl)) (nd od (nd (oe 133) (nd ob nl nl) nl) (nd (oa 185) nl nl))))) (nd (sh.o_56 P) (nd od (nd (oc 15) (nd (oa 41) (nd ob (nd od nl nl) nl) (nd (oc 143) nl nl)) (nd od (nd (oe 117) (nd ob nl nl) nl) (nd (oa 169) nl nl))) (nd ob (nd (oe 53) (nd (oa 105) (nd (oc 207) nl nl) nl) (nd ob nl nl)) (nd (oc 79) (nd od (nd (oa 233) nl nl) nl) (nd (oe 181) nl nl)))) (nd (oa 9) (nd (oe 21) (nd (oc 47) (nd od (nd (oa 201) nl nl) nl) (nd (oe 149) nl nl)) (nd (oa 73) (nd ob (nd od nl nl) nl) (nd (oc 175) nl nl))) (nd od (nd ob (nd (oc 111) (nd (oe 213) nl nl) nl) (nd od nl nl)) (nd (oe 85) (nd (oa 137) (nd (oc 239) nl nl) nl) (nd ob nl nl))))))) (nd (sh.o_1 P) (nd (sh.o_12 P) (nd (sh.o_32 P) (nd (sh.o_68 P) (nd (oc 11) (nd (oa 37) (nd ob (nd od nl nl) nl) (nd (oc 139) nl nl)) (nd od (nd (oe 113) (nd ob nl nl) nl) (nd (oa 165) nl nl))) (nd ob (nd (oe 49) (nd (oa 101) (nd (oc 203) nl nl) nl) (nd ob nl nl)) (nd (oc 75) (nd od (nd (oa 229) nl nl) nl) (nd (oe 177) nl nl)))) (nd (oa 5) (nd (oe 17) (nd (oc 43) (nd od (nd (oa 197) nl nl) nl) (nd (oe 145) nl nl)) (nd (oa 69) (nd ob (nd od nl nl) nl) (nd (oc 171) nl nl))) (nd od (nd ob (nd (oc 107) (nd (oe 209) nl nl) nl) (nd od nl nl)) (nd (oe 81) (nd (oa 133) (nd (oc 235) nl nl) nl) (nd ob nl nl))))) (nd (sh.o_52 P) (nd (oe 1) (nd od (nd ob (nd (oc 91) (nd (oe 193) nl nl) nl) (nd od nl nl)) (nd (oe 65) (nd (oa 117) (nd (oc 219) nl nl) nl) (nd ob nl nl))) (nd (oc 27) (nd (oa 53) (nd ob (nd od nl nl) nl) (nd (oc 155) nl nl)) (nd od (nd (oe 129) (nd ob nl nl) nl) (nd (oa 181) nl nl)))) (nd ob (nd (oa 21) (nd od (nd (oe 97) (nd ob nl nl) nl) (nd (oa 149) nl nl)) (nd ob (nd (oc 123) (nd (oe 225) nl nl) nl) (nd od nl nl))) (nd (oe 33) (nd (oc 59) (nd od (nd (oa 213) nl nl) nl) (nd (oe 161) nl nl)) (nd (oa 85) (nd ob (nd od nl nl) nl) (nd (oc 187) nl nl)))))) (nd (sh.o_20 P) (nd (sh.o_40 P) (nd ob (nd (oa 13) (nd od (nd (oe 89) (nd ob nl nl) nl) (nd (oa 141) nl nl)) (nd ob (nd (oc 115) (nd (oe 217) nl nl) nl) (nd od nl nl))) (nd (oe 25) (nd (oc 51) (nd od (nd (oa 205) nl nl) nl) (nd (oe 153) nl nl)) (nd (oa 77) (nd ob (nd od nl nl) nl) (nd (oc 179) nl nl)))) (nd od (nd (oc 19) (nd (oa 45) (nd ob (nd od nl nl) nl) (nd (oc 147) nl nl)) (nd od (nd (oe 121) (nd ob nl nl) nl) (nd (oa 173) nl nl))) (nd ob (nd (oe 57) (nd (oa 109) (nd (oc 211) nl nl) nl) (nd ob nl nl)) (nd (oc 83) (nd od (nd (oa 237) nl nl) nl) (nd (oe 185) nl nl))))) (nd (sh.o_60 P) (nd (oc 3) (nd ob (nd (oe 41) (nd (oa 93) (nd (oc 195) nl nl) nl) (nd ob nl nl)) (nd (oc 67) (nd od (nd (oa 221) nl nl) nl) (nd (oe 169) nl nl))) (nd (oa 29) (nd od (nd (oe 105) (nd ob nl nl) nl) (nd (oa 157) nl nl)) (nd ob (nd (oc 131) (nd (oe 233) nl nl) nl) (nd od nl nl)))) (nd (oe 9) (nd od (nd ob (nd (oc 99) (nd (oe 201) nl nl) nl) (nd od nl nl)) (nd (oe 73) (nd (oa 125) (nd (oc 227) nl nl) nl) (nd ob nl nl))) (nd (oc 35) (nd (oa 61) (nd ob (nd od nl nl) nl) (nd (oc 163) nl nl)) (nd od (nd (oe 137) nl nl) (nd (oa 189) nl nl)))))))) (nd (boot_o_5 P) (nd (boot_o_9 P) (nd (sh.o_10 P) (nd (sh.o_30 P) (nd (sh.o_66 P) (nd (oa 11) (nd od (nd (oe 87) (nd ob nl nl) nl) (nd (oa 139) nl nl)) (nd ob (nd (oc 113) (nd (oe 215) nl nl) nl) (nd od nl nl))) (nd (oe 23) (nd (oc 49) (nd od (nd (oa 203) nl nl) nl) (nd (oe 151) nl nl)) (nd (oa 75) (nd ob (nd od nl nl) nl) (nd (oc 177) nl nl)))) (nd od (nd (oc 17) (nd (oa 43) (nd ob (nd od nl nl) nl) (nd (oc 145) nl nl)) (nd od (nd (oe 119) (nd ob nl nl) nl) (nd (oa 171) nl nl))) (nd ob (nd (oe 55) (nd (oa 107) (nd (oc 209) nl nl) nl) (nd ob nl nl)) (nd (oc 81) (nd od (nd (oa 235) nl nl) nl) (nd (oe 183) nl nl))))) (nd (sh.o_50 P) (nd (oc 1) (nd ob (nd (oe 39) (nd (oa 91) (nd (oc 193) nl nl) nl) (nd ob nl nl)) (nd (oc 65) (nd od (nd (oa 219) nl nl) nl) (nd (oe 167) nl nl))) (nd (oa 27) (nd od (nd (oe 103) (nd ob nl nl) nl) (nd (oa 155) nl nl)) (nd ob (nd (oc 129) (nd (oe 231) nl nl) nl) (nd od nl nl)))) (nd (oe 7) (nd od (nd ob (nd (oc 97) (nd (oe 199) nl nl) nl) (nd od nl nl)) (nd (oe 71) (nd (oa 123) (nd (oc 225) nl nl) nl) (nd ob nl nl))) (nd (oc 33) (nd (oa 59) (nd ob (nd od nl nl) nl) (nd (oc 161) nl nl)) (nd od (nd (oe 135) (nd ob nl nl) nl) (nd (oa 187) nl nl)))))) (nd (sh.o_18 P) (nd (sh.o_38 P) (nd (oDc P 240) (nd od (nd ob (nd (oc 89) (nd (oe 191) nl nl) nl) (nd od nl nl)) (nd (oe 63) (nd (oa 115) (nd (oc 217) nl nl) nl) (nd ob nl nl))) (nd (oc 25) (nd (oa 51) (nd ob (nd od nl nl) nl) (nd (oc 153) nl nl)) (nd od (nd (oe 127) (nd ob nl nl) nl) (nd (oa 179) nl nl)))) (nd ob (nd (oa 19) (nd od (nd (oe 95) (nd ob nl nl) nl) (nd (oa 147) nl nl)) (nd ob (nd (oc 121) (nd (oe 223) nl nl) nl) (nd od nl nl))) (nd (oe 31) (nd (oc 57) (nd od (nd (oa 211) nl nl) nl) (nd (oe 159) nl nl)) (nd (oa 83) (nd ob (nd od nl nl) nl) (nd (oc 185) nl nl))))) (nd (sh.o_58 P) (nd (oa 3) (nd (oe 15) (nd (oc 41) (nd od (nd (oa 195) nl nl) nl) (nd (oe 143) nl nl)) (nd (oa 67) (nd ob (nd od nl nl) nl) (nd (oc 169) nl nl))) (nd od (nd ob (nd (oc 105) (nd (oe 207) nl nl) nl) (nd od nl nl)) (nd (oe 79) (nd (oa 131) (nd (oc 233) nl nl) nl) (nd ob nl nl)))) (nd (oc 9) (nd ob (nd (oe 47) (nd (oa 99) (nd (oc 201) nl nl) nl) (nd ob nl nl)) (nd (oc 73) (nd od (nd (oa 227) nl nl) nl) (nd (oe 175) nl nl))) (nd (oa 35) (nd od (nd (oe 111) (nd ob nl nl) nl) (nd (oa 163) nl nl)) (nd ob (nd (oc 137) (nd (oe 239) nl nl) nl) (nd od nl nl))))))) (nd (sh.o_3 P) (nd (sh.o_14 P) (nd (sh.o_34 P) (nd (sh.o_70 P) (nd (oe 11) (nd (oc 37) (nd od (nd (oa 191) nl nl) nl) (nd (oe 139) nl nl)) (nd (oa 63) (nd ob (nd od nl nl) nl) (nd (oc 165) nl nl))) (nd od (nd ob (nd (oc 101) (nd (oe 203) nl nl) nl) (nd od nl nl)) (nd (oe 75) (nd (oa 127) (nd (oc 229) nl nl) nl) (nd ob nl nl)))) (nd (oc 5) (nd ob (nd (oe 43) (nd (oa 95) (nd (oc 197) nl nl) nl) (nd ob nl nl)) (nd (oc 69) (nd od (nd (oa 223) nl nl) nl) (nd (oe 171) nl nl))) (nd (oa 31) (nd od (nd (oe 107) (nd ob nl nl) nl) (nd (oa 159) nl nl)) (nd ob (nd (oc 133) (nd (oe 235) nl nl) nl) (nd od nl nl))))) (nd (sh.o_54 P) (nd ob (nd (oa 15) (nd od (nd (oe 91) (nd ob nl nl) nl) (nd (oa 143) nl nl)) (nd ob (nd (oc 117) (nd (oe 219) nl nl) nl) (nd od nl nl))) (nd (oe 27) (nd (oc 53) (nd od (nd (oa 207) nl nl) nl) (nd (oe 155) nl nl)) (nd (oa 79) (nd ob (nd od nl nl) nl) (nd (oc 181) nl nl)))) (nd od (nd (oc 21) (nd (oa 47) (nd ob (nd od nl nl) nl) (nd (oc 149) nl nl)) (nd od (nd (oe 123) (nd ob nl nl) nl) (nd (oa 175) nl nl))) (nd ob (nd (oe 59) (nd (oa 111) (nd (oc 213) nl nl) nl) (nd ob nl nl)) (nd (oc 85) (nd od (nd (oa 239) nl nl) nl) (nd (oe 187) nl nl)))))) (nd (sh.o_26 P) (nd (sh.o_42 P) (nd od (nd (oc 13) (nd (oa 39) (nd ob (nd od nl nl) nl) (nd (oc 141) nl nl)) (nd od (nd (oe 115) (nd ob nl nl) nl) (nd (oa 167) nl nl))) (nd ob (nd (oe 51) (nd (oa 103) (nd (oc 205) nl nl) nl) (nd ob nl nl)) (nd (oc 77) (nd od (nd (oa 231) nl nl) nl) (nd (oe 179) nl nl)))) (nd (oa 7) (nd (oe 19) (nd (oc 45) (nd od (nd (oa 199) nl nl) nl) (nd (oe 147) nl nl)) (nd (oa 71) (nd ob (nd od nl nl) nl) (nd (oc 173) nl nl))) (nd od (nd ob (nd (oc 109) (nd (oe 211) nl nl) nl) (nd od nl nl)) (nd (oe 83) (nd (oa 135) (nd (oc 237) nl nl) nl) (nd ob nl nl))))) (nd (sh.o_62 P) (nd (oe 3) (nd od (nd ob (nd (oc 93) (nd (oe 195) nl nl) nl) (nd od nl nl)) (nd (oe 67) (nd (oa 119) (nd (oc 221) nl nl) nl) (nd ob nl nl))) (nd (oc 29) (nd (oa 55) (nd ob (nd od nl nl) nl) (nd (oc 157) nl nl)) (nd od (nd (oe 131) (nd ob nl nl) nl) (nd (oa 183) nl nl)))) (nd ob (nd (oa 23) (nd od (nd (oe 99) (nd ob nl nl) nl) (nd (oa 151) nl nl)) (nd ob (nd (oc 125) (nd (oe 227) nl nl) nl) (nd od nl nl))) (nd (oe 35) (nd (oc 61) (nd od (nd (oa 215) nl nl) nl) (nd (oe 163) nl nl)) (nd (oa 87) (nd ob nl nl) (nd (oc 189) nl nl))))))))) (nd (sh.o_5 P) (nd (boot_o_4 P) (nd (boot_o_8 P) (nd (sh.o_9 P) (nd (sh.o_29 P) (nd (sh.o_65 P) (nd (oe 10) (nd (oc 36) (nd od (nd (oa 190) nl nl) nl) (nd (oe 138) nl nl)) (nd (oa 62) (nd ob (nd od nl nl) nl) (nd (oc 164) nl nl))) (nd od (nd ob (nd (oc 100) (nd (oe 202) nl nl) nl) (nd od nl nl)) (nd (oe 74) (nd (oa 126) (nd (oc 228) nl nl) nl) (nd ob nl nl)))) (nd (oc 4) (nd ob (nd (oe 42) (nd (oa 94) (nd (oc 196) nl nl) nl) (nd ob nl nl)) (nd (oc 68) (nd od (nd (oa 222) nl nl) nl) (nd (oe 170) nl nl))) (nd (oa 30) (nd od (nd (oe 106) (nd ob nl nl) nl) (nd (oa 158) nl nl)) (nd ob (nd (oc 132) (nd (oe 234) nl nl) nl) (nd od nl nl))))) (nd (sh.o_45 P) (nd ob (nd (oa 14) (nd od (nd (oe 90) (nd ob nl nl) nl) (nd (oa 142) nl nl)) (nd ob (nd (oc 116) (nd (oe 218) nl nl) nl) (nd od nl nl))) (nd (oe 26) (nd (oc 52) (nd od (nd (oa 206) nl nl) nl) (nd (oe 154) nl nl)) (nd (oa 78) (nd ob (nd od nl nl) nl) (nd (oc 180) nl nl)))) (nd od (nd (oc 20) (nd (oa 46) (nd ob (nd od nl nl) nl) (nd (oc 148) nl nl)) (nd od (nd (oe 122) (nd ob nl nl) nl) (nd (oa 174) nl nl))) (nd ob (nd (oe 58) (nd (oa 110) (nd (oc 212) nl nl) nl) (nd ob nl nl)) (nd (oc 84) (nd od (nd (oa 238) nl nl) nl) (nd (oe 186) nl nl)))))) (nd (sh.o_49 P) (nd (sh.o_37 P) (nd (oLs 240) (nd (oc 12) (nd (oa 38) (nd ob (nd od nl nl) nl) (nd (oc 140) nl nl)) (nd od (nd (oe 114) (nd ob nl nl) nl) (nd (oa 166) nl nl))) (nd ob (nd (oe 50) (nd (oa 102) (nd (oc 204) nl nl) nl) (nd ob nl nl)) (nd (oc 76) (nd od (nd (oa 230) nl nl) nl) (nd (oe 178) nl nl)))) (nd (oa 6) (nd (oe 18) (nd (oc 44) (nd od (nd (oa 198) nl nl) nl) (nd (oe 146) nl nl)) (nd (oa 70) (nd ob (nd od nl nl) nl) (nd (oc 172) nl nl))) (nd od (nd ob (nd (oc 108) (nd (oe 210) nl nl) nl) (nd od nl nl)) (nd (oe 82) (nd (oa 134) (nd (oc 236) nl nl) nl) (nd ob nl nl))))) (nd (sh.o_57 P) (nd (oe 2) (nd od (nd ob (nd (oc 92) (nd (oe 194) nl nl) nl) (nd od nl nl)) (nd (oe 66) (nd (oa 118) (nd (oc 220) nl nl) nl) (nd ob nl nl))) (nd (oc 28) (nd (oa 54) (nd ob (nd od nl nl) nl) (nd (oc 156) nl nl)) (nd od (nd (oe 130) (nd ob nl nl) nl) (nd (oa 182) nl nl)))) (nd ob (nd (oa 22) (nd od (nd (oe 98) (nd ob nl nl) nl) (nd (oa 150) nl nl)) (nd ob (nd (oc 124) (nd (oe 226) nl nl) nl) (nd od nl nl))) (nd (oe 34) (nd (oc 60) (nd od (nd (oa 214) nl nl) nl) (nd (oe 162) nl nl)) (nd (oa 86) (nd ob (nd od nl nl) nl) (nd (oc 188) nl nl))))))) (nd (sh.o_48 P) (nd (sh.o_13 P) (nd (sh.o_33 P) (nd (sh.o_69 P) (nd od (nd ob (nd (oc 88) (nd (oe 190) nl nl) nl) (nd od nl nl)) (nd (oe 62) (nd (oa 114) (nd (oc 216) nl nl) nl) (nd ob nl nl))) (nd (oc 24) (nd (oa 50) (nd ob (nd od nl nl) nl) (nd (oc 152) nl nl)) (nd od (nd (oe 126) (nd ob nl nl) nl) (nd (oa 178) nl nl)))) (nd ob (nd (oa 18) (nd od (nd (oe 94) (nd ob nl nl) nl) (nd (oa 146) nl nl)) (nd ob (nd (oc 120) (nd (oe 222) nl nl) nl) (nd od nl nl))) (nd (oe 30) (nd (oc 56) (nd od (nd (oa 210) nl nl) nl) (nd (oe 158) nl nl)) (nd (oa 82) (nd ob (nd od nl nl) nl) (nd (oc 184) nl nl))))) (nd (sh.o_53 P) (nd (oa 2) (nd (oe 14) (nd (oc 40) (nd od (nd (oa 194) nl nl) nl) (nd (oe 142) nl nl)) (nd (oa 66) (nd ob (nd od nl nl) nl) (nd (oc 168) nl nl))) (nd od (nd ob (nd (oc 104) (nd (oe 206) nl nl) nl) (nd od nl nl)) (nd (oe 78) (nd (oa 130) (nd (oc 232) nl nl) nl) (nd ob nl nl)))) (nd (oc 8) (nd ob (nd (oe 46) (nd (oa 98) (nd (oc 200) nl nl) nl) (nd ob nl nl)) (nd (oc 72) (nd od (nd (oa 226) nl nl) nl) (nd (oe 174) nl nl))) (nd (oa 34) (nd od (nd (oe 110) (nd ob nl nl) nl) (nd (oa 162) nl nl)) (nd ob (nd (oc 136) (nd (oe 238) nl nl) nl) (nd od nl nl)))))) (nd (sh.o_25 P) (nd (sh.o_41 P) (nd (oc 0) (nd ob (nd (oe 38) (nd (oa 90) (nd (oc 192) nl nl) nl) (nd ob nl nl)) (nd (oc 64) (nd od (nd (oa 218) nl nl) nl) (nd (oe 166) nl nl))) (nd (oa 26) (nd od (nd (oe 102) (nd ob nl nl) nl) (nd (oa 154) nl nl)) (nd ob (nd (oc 128) (nd (oe 230) nl nl) nl) (nd od nl nl)))) (nd (oe 6) (nd od (nd ob (nd (oc 96) (nd (oe 198) nl nl) nl) (nd od nl nl)) (nd (oe 70) (nd (oa 122) (nd (oc 224) nl nl) nl) (nd ob nl nl))) (nd (oc 32) (nd (oa 58) (nd ob (nd od nl nl) nl) (nd (oc 160) nl nl)) (nd od (nd (oe 134) (nd ob nl nl) nl) (nd (oa 186) nl nl))))) (nd (sh.o_61 P) (nd od (nd (oc 16) (nd (oa 42) (nd ob (nd od nl nl) nl) (nd (oc 144) nl nl)) (nd od (nd (oe 118) (nd ob nl nl) nl) (nd (oa 170) nl nl))) (nd ob (nd (oe 54) (nd (oa 106) (nd (oc 208) nl nl) nl) (nd ob nl nl)) (nd (oc 80) (nd od (nd (oa 234) nl nl) nl) (nd (oe 182) nl nl)))) (nd (oa 10) (nd (oe 22) (nd (oc 48) (nd od (nd (oa 202) nl nl) nl) (nd (oe 150) nl nl)) (nd (oa 74) (nd ob (nd od nl nl) nl) (nd (oc 176) nl nl))) (nd od (nd ob (nd (oc 112) (nd (oe 214) nl nl) nl) (nd od nl nl)) (nd (oe 86) (nd (oa 138) nl nl) (nd ob nl nl)))))))) (nd (boot_o_6 P) (nd (boot_o_10 P) (nd (sh.o_11 P) (nd (sh.o_31 P) (nd (sh.o_67 P) (nd ob (nd (oe 36) (nd (oa 88) (nd (oc 190) nl nl) nl) (nd ob nl nl)) (nd (oc 62) (nd od (nd (oa 216) nl nl) nl) (nd (oe 164) nl nl))) (nd (oa 24) (nd od (nd (oe 100) (nd ob nl nl) nl) (nd (oa 152) nl nl)) (nd ob (nd (oc 126) (nd (oe 228) nl nl) nl) (nd od nl nl)))) (nd (oe 4) (nd od (nd ob (nd (oc 94) (nd (oe 196) nl nl) nl) (nd od nl nl)) (nd (oe 68) (nd (oa 120) (nd (oc 222) nl nl) nl) (nd ob nl nl))) (nd (oc 30) (nd (oa 56) (nd ob (nd od nl nl) nl) (nd (oc 158) nl nl)) (nd od (nd (oe 132) (nd ob nl nl) nl) (nd (oa 184) nl nl))))) (nd (sh.o_51 P) (nd od (nd (oc 14) (nd (oa 40) (nd ob (nd od nl nl) nl) (nd (oc 142) nl nl)) (nd od (nd (oe 116) (nd ob nl nl) nl) (nd (oa 168) nl nl))) (nd ob (nd (oe 52) (nd (oa 104) (nd (oc 206) nl nl) nl) (nd ob nl nl)) (nd (oc 78) (nd od (nd (oa 232) nl nl) nl) (nd (oe 180) nl nl)))) (nd (oa 8) (nd (oe 20) (nd (oc 46) (nd od (nd (oa 200) nl nl) nl) (nd (oe 148) nl nl)) (nd (oa 72) (nd ob (nd od nl nl) nl) (nd (oc 174) nl nl))) (nd od (nd ob (nd (oc 110) (nd (oe 212) nl nl) nl) (nd od nl nl)) (nd (oe 84) (nd (oa 136) (nd (oc 238) nl nl) nl) (nd ob nl nl)))))) (nd (sh.o_19 P) (nd (sh.o_39 P) (nd (oa 0) (nd (oe 12) (nd (oc 38) (nd od (nd (oa 192) nl nl) nl) (nd (oe 140) nl nl)) (nd (oa 64) (nd ob (nd od nl nl) nl) (nd (oc 166) nl nl))) (nd od (nd ob (nd (oc 102) (nd (oe 204) nl nl) nl) (nd od nl nl)) (nd (oe 76) (nd (oa 128) (nd (oc 230) nl nl) nl) (nd ob nl nl)))) (nd (oc 6) (nd ob (nd (oe 44) (nd (oa 96) (nd (oc 198) nl nl) nl) (nd ob nl nl)) (nd (oc 70) (nd od (nd (oa 224) nl nl) nl) (nd (oe 172) nl nl))) (nd (oa 32) (nd od (nd (oe 108) (nd ob nl nl) nl) (nd (oa 160) nl nl)) (nd ob (nd (oc 134) (nd (oe 236) nl nl) nl) (nd od nl nl))))) (nd (sh.o_59 P) (nd ob (nd (oa 16) (nd od (nd (oe 92) (nd ob nl nl) nl) (nd (oa 144) nl nl)) (nd ob (nd (oc 118) (nd (oe 220) nl nl) nl) (nd od nl nl))) (nd (oe 28) (nd (oc 54) (nd od (nd (oa 208) nl nl) nl) (nd (oe 156) nl nl)) (nd (oa 80) (nd ob (nd od nl nl) nl) (nd (oc 182) nl nl)))) (nd od (nd (oc 22) (nd (oa 48) (nd ob (nd od nl nl) nl) (nd (oc 150) nl nl)) (nd od (nd (oe 124) (nd ob nl nl) nl) (nd (oa 176) nl nl))) (nd ob (nd (oe 60) (nd (oa 112) (nd (oc 214) nl nl) nl) (nd ob nl nl)) (nd (oc 86) (nd od nl nl) (nd (oe 188) nl nl))))))) (nd (sh.o_4 P) (nd (sh.o_15 P) (nd (sh.o_35 P) (nd oR (nd (oa 12) (nd od (nd (oe 88) (nd ob nl nl) nl) (nd (oa 140) nl nl)) (nd ob (nd (oc 114) (nd (oe 216) nl nl) nl) (nd od nl nl))) (nd (oe 24) (nd (oc 50) (nd od (nd (oa 204) nl nl) nl) (nd (oe 152) nl nl)) (nd (oa 76) (nd ob (nd od nl nl) nl) (nd (oc 178) nl nl)))) (nd od (nd (oc 18) (nd (oa 44) (nd ob (nd od nl nl) nl) (nd (oc 146) nl nl)) (nd od (nd (oe 120) (nd ob nl nl) nl) (nd (oa 172) nl nl))) (nd ob (nd (oe 56) (nd (oa 108) (nd (oc 210) nl nl) nl) (nd ob nl nl)) (nd (oc 82) (nd od (nd (oa 236) nl nl) nl) (nd (oe 184) nl nl))))) (nd (sh.o_55 P) (nd (oc 2) (nd ob (nd (oe 40) (nd (oa 92) (nd (oc 194) nl nl) nl) (nd ob nl nl)) (nd (oc 66) (nd od (nd (oa 220) nl nl) nl) (nd (oe 168) nl nl))) (nd (oa 28) (nd od (nd (oe 104) (nd ob nl nl) nl) (nd (oa 156) nl nl)) (nd ob (nd (oc 130) (nd (oe 232) nl nl) nl) (nd od nl nl)))) (nd (oe 8) (nd od (nd ob (nd (oc 98) (nd (oe 200) nl nl) nl) (nd od nl nl)) (nd (oe 72) (nd (oa 124) (nd (oc 226) nl nl) nl) (nd ob nl nl))) (nd (oc 34) (nd (oa 60) (nd ob (nd od nl nl) nl) (nd (oc 162) nl nl)) (nd od (nd (oe 136) (nd ob nl nl) nl) (nd (oa 188) nl nl)))))) (nd (sh.o_27 P) (nd (sh.o_43 P) (nd (oe 0) (nd od (nd ob (nd (oc 90) (nd (oe 192) nl nl) nl) (nd od nl nl)) (nd (oe 64) (nd (oa 116) (nd (oc 218) nl nl) nl) (nd ob nl nl))) (nd (oc 26) (nd (oa 52) (nd ob (nd od nl nl) nl) (nd (oc 154) nl nl)) (nd od (nd (oe 128) (nd ob nl nl) nl) (nd (oa 180) nl nl)))) (nd ob (nd (oa 20) (nd od (nd (oe 96) (nd ob nl nl) nl) (nd (oa 148) nl nl)) (nd ob (nd (oc 122) (nd (oe 224) nl nl) nl) (nd od nl nl))) (nd (oe 32) (nd (oc 58) (nd od (nd (oa 212) nl nl) nl) (nd (oe 160) nl nl)) (nd (oa 84) (nd ob (nd od nl nl) nl) (nd (oc 186) nl nl))))) (nd (sh.o_63 P) (nd (oa 4) (nd (oe 16) (nd (oc 42) (nd od (nd (oa 196) nl nl) nl) (nd (oe 144) nl nl)) (nd (oa 68) (nd ob (nd od nl nl) nl) (nd (oc 170) nl nl))) (nd od (nd ob (nd (oc 106) (nd (oe 208) nl nl) nl) (nd od nl nl)) (nd (oe 80) (nd (oa 132) (nd (oc 234) nl nl) nl) (nd ob nl nl)))) (nd (oc 10) (nd ob (nd (oe 48) (nd (oa 100) (nd (oc 202) nl nl) nl) (nd ob nl nl)) (nd (oc 74) (nd od (nd (oa 228) nl nl) nl) (nd (oe 176) nl nl))) (nd (oa 36) (nd od (nd (oe 112) (nd ob nl nl) nl) (nd (oa 164) nl nl)) (nd ob (nd (oc 138) nl nl) (nd od nl nl))))))))))
noncomputable def st240 (w : World) (os : OsState) : SharedT := ⟨tr240 w.params, 1274, {}, ⟨[]⟩, {}, 990, os⟩
noncomputable def tr256 (P : Params) : BT := (nd (boot_o_0 P) (nd (boot_o_1 P) (nd (sh.o_47 P) (nd (boot_o_7 P) (nd (sh.o_8 P) (nd (sh.o_28 P) (nd (sh.o_64 P) (nd od (nd ob (nd (oc 87) (nd (oe 189) nl nl) nl) (nd od (nd (oa 241) nl nl) nl)) (nd (oe 61) (nd (oa 113) (nd (oc 215) nl nl) nl) (nd ob nl nl))) (nd (oc 23) (nd (oa 49) (nd ob (nd od nl nl) nl) (nd (oc 151) (nd (oe 253) nl nl) nl)) (nd od (nd (oe 125) (nd ob nl nl) nl) (nd (oa 177) nl nl)))) (nd ob (nd (oa 17) (nd od (nd (oe 93) (nd ob nl nl) nl) (nd (oa 145) (nd (oc 247) nl nl) nl)) (nd ob (nd (oc 119) (nd (oe 221) nl nl) nl) (nd od nl nl))) (nd (oe 29) (nd (oc 55) (nd od (nd (oa 209) nl nl) nl) (nd (oe 157) nl nl)) (nd (oa 81) (nd ob (nd od nl nl) nl) (nd (oc 183) nl nl))))) (nd (sh.o_44 P) (nd (oa 1) (nd (oe 13) (nd (oc 39) (nd od (nd (oa 193) nl nl) nl) (nd (oe 141) (nd ob nl nl) nl)) (nd (oa 65) (nd ob (nd od nl nl) nl) (nd (oc 167) nl nl))) (nd od (nd ob (nd (oc 103) (nd (oe 205) nl nl) nl) (nd od nl nl)) (nd (oe 77) (nd (oa 129) (nd (oc 231) nl nl) nl) (nd ob nl nl)))) (nd (oc 7) (nd ob (nd (oe 45) (nd (oa 97) (nd (oc 199) nl nl) nl) (nd ob (nd od nl nl) nl)) (nd (oc 71) (nd od (nd (oa 225) nl nl) nl) (nd (oe 173) nl nl))) (nd (oa 33) (nd od (nd (oe 109) (nd ob nl nl) nl) (nd (oa 161) nl nl)) (nd ob (nd (oc 135) (nd (oe 237) nl nl) nl) (nd od nl nl)))))) (nd (sh.o_16 P) (nd (sh.o_36 P) (nd (oIt 256) (nd ob (nd (oe 37) (nd (oa 89) (nd (oc 191) nl nl) nl) (nd ob (nd od nl nl) nl)) (nd (oc 63) (nd od (nd (oa 217) nl nl) nl) (nd (oe 165) nl nl))) (nd (oa 25) (nd od (nd (oe 101) (nd ob nl nl) nl) (nd (oa 153) (nd (oc 255) nl nl) nl)) (nd ob (nd (oc 127) (nd (oe 229) nl nl) nl) (nd od nl nl)))) (nd (oe 5) (nd od (nd ob (nd (oc 95) (nd (oe 197) nl nl) nl) (nd od (nd (oa 249) nl nl) nl)) (nd (oe 69) (nd (oa 121) (nd (oc 223) nl nl) nl) (nd ob nl nl))) (nd (oc 31) (nd (oa 57) (nd ob (nd od nl nl) nl) (nd (oc 159) nl nl)) (nd od (nd (oe 133) (nd ob nl nl) nl) (nd (oa 185) nl nl))))) (nd (sh.o_56 P) (nd od (nd (oc 15) (nd (oa 41) (nd ob (nd od nl nl) nl) (nd (oc 143) (nd (oe 245) nl nl) nl)) (nd od (nd (oe 117) (nd ob nl nl) nl) (nd (oa 169) nl nl))) (nd ob (nd (oe 53) (nd (oa 105) (nd (oc 207) nl nl) nl) (nd ob nl nl)) (nd (oc 79) (nd od (nd (oa 233) nl nl) nl) (nd (oe 181) nl nl)))) (nd (oa 9) (nd (oe 21) (nd (oc 47) (nd od (nd (oa 201) nl nl) nl) (nd (oe 149) (nd ob nl nl) nl)) (nd (oa 73) (nd ob (nd od nl nl) nl) (nd (oc 175) nl nl))) (nd od (nd ob (nd (oc 111) (nd (oe 213) nl nl) nl) (nd od nl nl)) (nd (oe 85) (nd (oa 137) (nd (oc 239) nl nl) nl) (nd ob nl nl))))))) (nd (sh.o_1 P) (nd (sh.o_12 P) (nd (sh.o_32 P) (nd (sh.o_68 P) (nd (oc 11) (nd (oa 37) (nd ob (nd od nl nl) nl) (nd (oc 139) (nd (oe 241) nl nl) nl)) (nd od (nd (oe 113) (nd ob nl nl) nl) (nd (oa 165) nl nl))) (nd ob (nd (oe 49) (nd (oa 101) (nd (oc 203) nl nl) nl) (nd ob (nd od nl nl) nl)) (nd (oc 75) (nd od (nd (oa 229) nl nl) nl) (nd (oe 177) nl nl)))) (nd (oa 5) (nd (oe 17) (nd (oc 43) (nd od (nd (oa 197) nl nl) nl) (nd (oe 145) (nd ob nl nl) nl)) (nd (oa 69) (nd ob (nd od nl nl) nl) (nd (oc 171) nl nl))) (nd od (nd ob (nd (oc 107) (nd (oe 209) nl nl) nl) (nd od nl nl)) (nd (oe 81) (nd (oa 133) (nd (oc 235) nl nl) nl) (nd ob nl nl))))) (nd (sh.o_52 P) (nd (oe 1) (nd od (nd ob (nd (oc 91) (nd (oe 193) nl nl) nl) (nd od (nd (oa 245) nl nl) nl)) (nd (oe 65) (nd (oa 117) (nd (oc 219) nl nl) nl) (nd ob nl nl))) (nd (oc 27) (nd (oa 53) (nd ob (nd od nl nl) nl) (nd (oc 155) nl nl)) (nd od (nd (oe 129) (nd ob nl nl) nl) (nd (oa 181) nl nl)))) (nd ob (nd (oa 21) (nd od (nd (oe 97) (nd ob nl nl) nl) (nd (oa 149) (nd (oc 251) nl nl) nl)) (nd ob (nd (oc 123) (nd (oe 225) nl nl) nl) (nd od nl nl))) (nd (oe 33) (nd (oc 59) (nd od (nd (oa 213) nl nl) nl) (nd (oe 161) nl nl)) (nd (oa 85) (nd ob (nd od nl nl) nl) (nd (oc 187) nl nl)))))) (nd (sh.o_20 P) (nd (sh.o_40 P) (nd ob (nd (oa 13) (nd od (nd (oe 89) (nd ob nl nl) nl) (nd (oa 141) (nd (oc 243) nl nl) nl)) (nd ob (nd (oc 115) (nd (oe 217) nl nl) nl) (nd od nl nl))) (nd (oe 25) (nd (oc 51) (nd od (nd (oa 205) nl nl) nl) (nd (oe 153) nl nl)) (nd (oa 77) (nd ob (nd od nl nl) nl) (nd (oc 179) nl nl)))) (nd od (nd (oc 19) (nd (oa 45) (nd ob (nd od nl nl) nl) (nd (oc 147) (nd (oe 249) nl nl) nl)) (nd od (nd (oe 121) (nd ob nl nl) nl) (nd (oa 173) nl nl))) (nd ob (nd (oe 57) (nd (oa 109) (nd (oc 211) nl nl) nl) (nd ob nl nl)) (nd (oc 83) (nd od (nd (oa 237) nl nl) nl) (nd (oe 185) nl nl))))) (nd (sh.o_60 P) (nd (oc 3) (nd ob (nd (oe 41) (nd (oa 93) (nd (oc 195) nl nl) nl) (nd ob (nd od nl nl) nl)) (nd (oc 67) (nd od (nd (oa 221) nl nl) nl) (nd (oe 169) nl nl))) (nd (oa 29) (nd od (nd (oe 105) (nd ob nl nl) nl) (nd (oa 157) nl nl)) (nd ob (nd (oc 131) (nd (oe 233) nl nl) nl) (nd od nl nl)))) (nd (oe 9) (nd od (nd ob (nd (oc 99) (nd (oe 201) nl nl) nl) (nd od (nd (oa 253) nl nl) nl)) (nd (oe 73) (nd (oa 125) (nd (oc 227) nl nl) nl) (nd ob nl nl))) (nd (oc 35) (nd (oa 61) (nd ob (nd od nl nl) nl) (nd (oc 163) nl nl)) (nd od (nd (oe 137) (nd ob nl nl) nl) (nd (oa 189) nl nl)))))))) (nd (boot_o_5 P) (nd (boot_o_9 P) (nd (sh.o_10 P) (nd (sh.o_30 P) (nd (sh.o_66 P) (nd (oa 11) (nd od (nd (oe 87) (nd ob nl nl) nl) (nd (oa 139) (nd (oc 241) nl nl) nl)) (nd ob (nd (oc 113) (nd (oe 215) nl nl) nl) (nd od nl nl))) (nd (oe 23) (nd (oc 49) (nd od (nd (oa 203) nl nl) nl) (nd (oe 151) (nd ob nl nl) nl)) (nd (oa 75) (nd ob (nd od nl nl) nl) (nd (oc 177) nl nl)))) (nd od (nd (oc 17) (nd (oa 43) (nd ob (nd od nl nl) nl) (nd (oc 145) (nd (oe 247) nl nl) nl)) (nd od (nd (oe 119) (nd ob nl nl) nl) (nd (oa 171) nl nl))) (nd ob (nd (oe 55) (nd (oa 107) (nd (oc 209) nl nl) nl) (nd ob nl nl)) (nd (oc 81) (nd od (nd (oa 235) nl nl) nl) (nd (oe 183) nl nl))))) (nd (sh.o_50 P) (nd (oc 1) (nd ob (nd (oe 39) (nd (oa 91) (nd (oc 193) nl nl) nl) (nd ob (nd od nl nl) nl)) (nd (oc 65) (nd od (nd (oa 219) nl nl) nl) (nd (oe 167) nl nl))) (nd (oa 27) (nd od (nd (oe 103) (nd ob nl nl) nl) (nd (oa 155) nl nl)) (nd ob (nd (oc 129) (nd (oe 231) nl nl) nl) (nd od nl nl)))) (nd (oe 7) (nd od (nd ob (nd (oc 97) (nd (oe 199) nl nl) nl) (nd od (nd (oa 251) nl nl) nl)) (nd (oe 71) (nd (oa 123) (nd (oc 225) nl nl) nl) (nd ob nl nl))) (nd (oc 33) (nd (oa 59) (nd ob (nd od nl nl) nl) (nd (oc 161) nl nl)) (nd od (nd (oe 135) (nd ob nl nl) nl) (nd (oa 187) nl nl)))))) (nd (sh.o_18 P) (nd (sh.o_38 P) (nd (oDc P 256) (nd od (nd ob (nd (oc 89) (nd (oe 191) nl nl) nl) (nd od (nd (oa 243) nl nl) nl)) (nd (oe 63) (nd (oa 115) (nd (oc 217) nl nl) nl) (nd ob nl nl))) (nd (oc 25) (nd (oa 51) (nd ob (nd od nl nl) nl) (nd (oc 153) (nd (oe 255) nl nl) nl)) (nd od (nd (oe 127) (nd ob nl nl) nl) (nd (oa 179) nl nl)))) (nd ob (nd (oa 19) (nd od (nd (oe 95) (nd ob nl nl) nl) (nd (oa 147) (nd (oc 249) nl nl) nl)) (nd ob (nd (oc 121) (nd (oe 223) nl nl) nl) (nd od nl nl))) (nd (oe 31) (nd (oc 57) (nd od (nd (oa 211) nl nl) nl) (nd (oe 159) nl nl)) (nd (oa 83) (nd ob (nd od nl nl) nl) (nd (oc 185) nl nl))))) (nd (sh.o_58 P) (nd (oa 3) (nd (oe 15) (nd (oc 41) (nd od (nd (oa 195) nl nl) nl) (nd (oe 143) (nd ob nl nl) nl)) (nd (oa 67) (nd ob (nd od nl nl) nl) (nd (oc 169) nl nl))) (nd od (nd ob (nd (oc 105) (nd (oe 207) nl nl) nl) (nd od nl nl)) (nd (oe 79) (nd (oa 131) (nd (oc 233) nl nl) nl) (nd ob nl nl)))) (nd (oc 9) (nd ob (nd (oe 47) (nd (oa 99) (nd (oc 201) nl nl) nl) (nd ob (nd od nl nl) nl)) (nd (oc 73) (nd od (nd (oa 227) nl nl) nl) (nd (oe 175) nl nl))) (nd (oa 35) (nd od (nd (oe 111) (nd ob nl nl) nl) (nd (oa 163) nl nl)) (nd ob (nd (oc 137) (nd (oe 239) nl nl) nl) (nd od nl nl))))))) (nd (sh.o_3 P) (nd (sh.o_14 P) (nd (sh.o_34 P) (nd (sh.o_70 P) (nd (oe 11) (nd (oc 37) (nd od (nd (oa 191) nl nl) nl) (nd (oe 139) (nd ob nl nl) nl)) (nd (oa 63) (nd ob (nd od nl nl) nl) (nd (oc 165) nl nl))) (nd od (nd ob (nd (oc 101) (nd (oe 203) nl nl) nl) (nd od (nd (oa 255) nl nl) nl)) (nd (oe 75) (nd (oa 127) (nd (oc 229) nl nl) nl) (nd ob nl nl)))) (nd (oc 5) (nd ob (nd (oe 43) (nd (oa 95) (nd (oc 197) nl nl) nl) (nd ob (nd od nl nl) nl)) (nd (oc 69) (nd od (nd (oa 223) nl nl) nl) (nd (oe 171) nl nl))) (nd (oa 31) (nd od (nd (oe 107) (nd ob nl nl) nl) (nd (oa 159) nl nl)) (nd ob (nd (oc 133) (nd (oe 235) nl nl) nl) (nd od nl nl))))) (nd (sh.o_54 P) (nd ob (nd (oa 15) (nd od (nd (oe 91) (nd ob nl nl) nl) (nd (oa 143) (nd (oc 245) nl nl) nl)) (nd ob (nd (oc 117) (nd (oe 219) nl nl) nl) (nd od nl nl))) (nd (oe 27) (nd (oc 53) (nd od (nd (oa 207) nl nl) nl) (nd (oe 155) nl nl)) (nd (oa 79) (nd ob (nd od nl nl) nl) (nd (oc 181) nl nl)))) (nd od (nd (oc 21) (nd (oa 47) (nd ob (nd od nl nl) nl) (nd (oc 149) (nd (oe 251) nl nl) nl)) (nd od (nd (oe 123) (nd ob nl nl) nl) (nd (oa 175) nl nl))) (nd ob (nd (oe 59) (nd (oa 111) (nd (oc 213) nl nl) nl) (nd ob nl nl)) (nd (oc 85) (nd od (nd (oa 239) nl nl) nl) (nd (oe 187) nl nl)))))) (nd (sh.o_26 P) (nd (sh.o_42 P) (nd od (nd (oc 13) (nd (oa 39) (nd ob (nd od nl nl) nl) (nd (oc 141) (nd (oe 243) nl nl) nl)) (nd od (nd (oe 115) (nd ob nl nl) nl) (nd (oa 167) nl nl))) (nd ob (nd (oe 51) (nd (oa 103) (nd (oc 205) nl nl) nl) (nd ob nl nl)) (nd (oc 77) (nd od (nd (oa 231) nl nl) nl) (nd (oe 179) nl nl)))) (nd (oa 7) (nd (oe 19) (nd (oc 45) (nd od (nd (oa 199) nl nl) nl) (nd (oe 147) (nd ob nl nl) nl)) (nd (oa 71) (nd ob (nd od nl nl) nl) (nd (oc 173) nl nl))) (nd od (nd ob (nd (oc 109) (nd (oe 211) nl nl) nl) (nd od nl nl)) (nd (oe 83) (nd (oa 135) (nd (oc 237) nl nl) nl) (nd ob nl nl))))) (nd (sh.o_62 P) (nd (oe 3) (nd od (nd ob (nd (oc 93) (nd (oe 195) nl nl) nl) (nd od (nd (oa 247) nl nl) nl)) (nd (oe 67) (nd (oa 119) (nd (oc 221) nl nl) nl) (nd ob nl nl))) (nd (oc 29) (nd (oa 55) (nd ob (nd od nl nl) nl) (nd (oc 157) nl nl)) (nd od (nd (oe 131) (nd ob nl nl) nl) (nd (oa 183) nl nl)))) (nd ob (nd (oa 23) (nd od (nd (oe 99) (nd ob nl nl) nl) (nd (oa 151) (nd (oc 253) nl nl) nl)) (nd ob (nd (oc 125) (nd (oe 227) nl nl) nl) (nd od nl nl))) (nd (oe 35) (nd (oc 61) (nd od (nd (oa 215) nl nl) nl) (nd (oe 163) nl nl)) (nd (oa 87) (nd ob (nd od nl nl) nl) (nd (oc 189) nl nl))))))))) (nd (sh.o_5 P) (nd (boot_o_4 P) (nd (boot_o_8 P) (nd (sh.o_9 P) (nd (sh.o_29 P) (nd (sh.o_65 P) (nd (oe 10) (nd (oc 36) (nd od (nd (oa 190) nl nl) nl) (nd (oe 138) (nd ob nl nl) nl)) (nd (oa 62) (nd ob (nd od nl nl) nl) (nd (oc 164) nl nl))) (nd od (nd ob (nd (oc 100) (nd (oe 202) nl nl) nl) (nd od (nd (oa 254) nl nl) nl)) (nd (oe 74) (nd (oa 126) (nd (oc 228) nl nl) nl) (nd ob nl nl)))) (nd (oc 4) (nd ob (nd (oe 42) (nd (oa 94) (nd (oc 196) nl nl) nl) (nd ob (nd od nl nl) nl)) (nd (oc 68) (nd od (nd (oa 222) nl nl) nl) (nd (oe 170) nl nl))) (nd (oa 30) (nd od (nd (oe 106) (nd ob nl nl) nl) (nd (oa 158) nl nl)) (nd ob (nd (oc 132) (nd (oe 234) nl nl) nl) (nd od nl nl))))) (nd (sh.o_45 P) (nd ob (nd (oa 14) (nd od (nd (oe 90) (nd ob nl nl) nl) (nd (oa 142) (nd (oc 244) nl nl) nl)) (nd ob (nd (oc 116) (nd (oe 218) nl nl) nl) (nd od nl nl))) (nd (oe 26) (nd (oc 52) (nd od (nd (oa 206) nl nl) nl) (nd (oe 154) nl nl)) (nd (oa 78) (nd ob (nd od nl nl) nl) (nd (oc 180) nl nl)))) (nd od (nd (oc 20) (nd (oa 46) (nd ob (nd od nl nl) nl) (nd (oc 148) (nd (oe 250) nl nl) nl)) (nd od (nd (oe 122) (nd ob nl nl) nl) (nd (oa 174) nl nl))) (nd ob (nd (oe 58) (nd (oa 110) (nd (oc 212) nl nl) nl) (nd ob nl nl)) (nd (oc 84) (nd od (nd (oa 238) nl nl) nl) (nd (oe 186) nl nl)))))) (nd (sh.o_49 P) (nd (sh.o_37 P) (nd (oLs 256) (nd (oc 12) (nd (oa 38) (nd ob (nd od nl nl) nl) (nd (oc 140) (nd (oe 242) nl nl) nl)) (nd od (nd (oe 114) (nd ob nl nl) nl) (nd (oa 166) nl nl))) (nd ob (nd (oe 50) (nd (oa 102) (nd (oc 204) nl nl) nl) (nd ob (nd od nl nl) nl)) (nd (oc 76) (nd od (nd (oa 230) nl nl) nl) (nd (oe 178) nl nl)))) (nd (oa 6) (nd (oe 18) (nd (oc 44) (nd od (nd (oa 198) nl nl) nl) (nd (oe 146) (nd ob nl nl) nl)) (nd (oa 70) (nd ob (nd od nl nl) nl) (nd (oc 172) nl nl))) (nd od (nd ob (nd (oc 108) (nd (oe 210) nl nl) nl) (nd od nl nl)) (nd (oe 82) (nd (oa 134) (nd (oc 236) nl nl) nl) (nd ob nl nl))))) (nd (sh.o_57 P) (nd (oe 2) (nd od (nd ob (nd (oc 92) (nd (oe 194) nl nl) nl) (nd od (nd (oa 246) nl nl) nl)) (nd (oe 66) (nd (oa 118) (nd (oc 220) nl nl) nl) (nd ob nl nl))) (nd (oc 28) (nd (oa 54) (nd ob (nd od nl nl) nl) (nd (oc 156) nl nl)) (nd od (nd (oe 130) (nd ob nl nl) nl) (nd (oa 182) nl nl)))) (nd ob (nd (oa 22) (nd od (nd (oe 98) (nd ob nl nl) nl) (nd (oa 150) (nd (oc 252) nl nl) nl)) (nd ob (nd (oc 124) (nd (oe 226) nl nl) nl) (nd od nl nl))) (nd (oe 34) (nd (oc 60) (nd od (nd (oa 214) nl nl) nl) (nd (oe 162) nl nl)) (nd (oa 86) (nd ob (nd od nl nl) nl) (nd (oc 188) nl nl))))))) (nd (sh.o_48 P) (nd (sh.o_13 P) (nd (sh.o_33 P) (nd (sh.o_69 P) (nd od (nd ob (nd (oc 88) (nd (oe 190) nl nl) nl) (nd od (nd (oa 242) nl nl) nl)) (nd (oe 62) (nd (oa 114) (nd (oc 216) nl nl) nl) (nd ob nl nl))) (nd (oc 24) (nd (oa 50) (nd ob (nd od nl nl) nl) (nd (oc 152) (nd (oe 254) nl nl) nl)) (nd od (nd (oe 126) (nd ob nl nl) nl) (nd (oa 178) nl nl)))) (nd ob (nd (oa 18) (nd od (nd (oe 94) (nd ob nl nl) nl) (nd (oa 146) (nd (oc 248) nl nl) nl)) (nd ob (nd (oc 120) (nd (oe 222) nl nl) nl) (nd od nl nl))) (nd (oe 30) (nd (oc 56) (nd od (nd (oa 210) nl nl) nl) (nd (oe 158) nl nl)) (nd (oa 82) (nd ob (nd od nl nl) nl) (nd (oc 184) nl nl))))) (nd (sh.o_53 P) (nd (oa 2) (nd (oe 14) (nd (oc 40) (nd od (nd (oa 194) nl nl) nl) (nd (oe 142) (nd ob nl nl) nl)) (nd (oa 66) (nd ob (nd od nl nl) nl) (nd (oc 168) nl nl))) (nd od (nd ob (nd (oc 104) (nd (oe 206) nl nl) nl) (nd od nl nl)) (nd (oe 78) (nd (oa 130) (nd (oc 232) nl nl) nl) (nd ob nl nl)))) (nd (oc 8) (nd ob (nd (oe 46) (nd (oa 98) (nd (oc 200) nl nl) nl) (nd ob (nd od nl nl) nl)) (nd (oc 72) (nd od (nd (oa 226) nl nl) nl) (nd (oe 174) nl nl))) (nd (oa 34) (nd od (nd (oe 110) (nd ob nl nl) nl) (nd (oa 162) nl nl)) (nd ob (nd (oc 136) (nd (oe 238) nl nl) nl) (nd od nl nl)))))) (nd (sh.o_25 P) (nd (sh.o_41 P) (nd (oc 0) (nd ob (nd (oe 38) (nd (oa 90) (nd (oc 192) nl nl) nl) (nd ob (nd od nl nl) nl)) (nd (oc 64) (nd od (nd (oa 218) nl nl) nl) (nd (oe 166) nl nl))) (nd (oa 26) (nd od (nd (oe 102) (nd ob nl nl) nl) (nd (oa 154) nl nl)) (nd ob (nd (oc 128) (nd (oe 230) nl nl) nl) (nd od nl nl)))) (nd (oe 6) (nd od (nd ob (nd (oc 96) (nd (oe 198) nl nl) nl) (nd od (nd (oa 250) nl nl) nl)) (nd (oe 70) (nd (oa 122) (nd (oc 224) nl nl) nl) (nd ob nl nl))) (nd (oc 32) (nd (oa 58) (nd ob (nd od nl nl) nl) (nd (oc 160) nl nl)) (nd od (nd (oe 134) (nd ob nl nl) nl) (nd (oa 186) nl nl))))) (nd (sh.o_61 P) (nd od (nd (oc 16) (nd (oa 42) (nd ob (nd od nl nl) nl) (nd (oc 144) (nd (oe 246) nl nl) nl)) (nd od (nd (oe 118) (nd ob nl nl) nl) (nd (oa 170) nl nl))) (nd ob (nd (oe 54) (nd (oa 106) (nd (oc 208) nl nl) nl) (nd ob nl nl)) (nd (oc 80) (nd od (nd (oa 234) nl nl) nl) (nd (oe 182) nl nl)))) (nd (oa 10) (nd (oe 22) (nd (oc 48) (nd od (nd (oa 202) nl nl) nl) (nd (oe 150) (nd ob nl nl) nl)) (nd (oa 74) (nd ob (nd od nl nl) nl) (nd (oc 176) nl nl))) (nd od (nd ob (nd (oc 112) (nd (oe 214) nl nl) nl) (nd od nl nl)) (nd (oe 86) (nd (oa 138) (nd (oc 240) nl nl) nl) (nd ob nl nl)))))))) (nd (boot_o_6 P) (nd (boot_o_10 P) (nd (sh.o_11 P) (nd (sh.o_31 P) (nd (sh.o_67 P) (nd ob (nd (oe 36) (nd (oa 88) (nd (oc 190) nl nl) nl) (nd ob (nd od nl nl) nl)) (nd (oc 62) (nd od (nd (oa 216) nl nl) nl) (nd (oe 164) nl nl))) (nd (oa 24) (nd od (nd (oe 100) (nd ob nl nl) nl) (nd (oa 152) (nd (oc 254) nl nl) nl)) (nd ob (nd (oc 126) (nd (oe 228) nl nl) nl) (nd od nl nl)))) (nd (oe 4) (nd od (nd ob (nd (oc 94) (nd (oe 196) nl nl) nl) (nd od (nd (oa 248) nl nl) nl)) (nd (oe 68) (nd (oa 120) (nd (oc 222) nl nl) nl) (nd ob nl nl))) (nd (oc 30) (nd (oa 56) (nd ob (nd od nl nl) nl) (nd (oc 158) nl nl)) (nd od (nd (oe 132) (nd ob nl nl) nl) (nd (oa 184) nl nl))))) (nd (sh.o_51 P) (nd od (nd (oc 14) (nd (oa 40) (nd ob (nd od nl nl) nl) (nd (oc 142) (nd (oe 244) nl nl) nl)) (nd od (nd (oe 116) (nd ob nl nl) nl) (nd (oa 168) nl nl))) (nd ob (nd (oe 52) (nd (oa 104) (nd (oc 206) nl nl) nl) (nd ob nl nl)) (nd (oc 78) (nd od (nd (oa 232) nl nl) nl) (nd (oe 180) nl nl)))) (nd (oa 8) (nd (oe 20) (nd (oc 46) (nd od (nd (oa 200) nl nl) nl) (nd (oe 148) (nd ob nl nl) nl)) (nd (oa 72) (nd ob (nd od nl nl) nl) (nd (oc 174) nl nl))) (nd od (nd ob (nd (oc 110) (nd (oe 212) nl nl) nl) (nd od nl nl)) (nd (oe 84) (nd (oa 136) (nd (oc 238) nl nl) nl) (nd ob nl nl)))))) (nd (sh.o_19 P) (nd (sh.o_39 P) (nd (oa 0) (nd (oe 12) (nd (oc 38) (nd od (nd (oa 192) nl nl) nl) (nd (oe 140) (nd ob nl nl) nl)) (nd (oa 64) (nd ob (nd od nl nl) nl) (nd (oc 166) nl nl))) (nd od (nd ob (nd (oc 102) (nd (oe 204) nl nl) nl) (nd od nl nl)) (nd (oe 76) (nd (oa 128) (nd (oc 230) nl nl) nl) (nd ob nl nl)))) (nd (oc 6) (nd ob (nd (oe 44) (nd (oa 96) (nd (oc 198) nl nl) nl) (nd ob (nd od nl nl) nl)) (nd (oc 70) (nd od (nd (oa 224) nl nl) nl) (nd (oe 172) nl nl))) (nd (oa 32) (nd od (nd (oe 108) (nd ob nl nl) nl) (nd (oa 160) nl nl)) (nd ob (nd (oc 134) (nd (oe 236) nl nl) nl) (nd od nl nl))))) (nd (sh.o_59 P) (nd ob (nd (oa 16) (nd od (nd (oe 92) (nd ob nl nl) nl) (nd (oa 144) (nd (oc 246) nl nl) nl)) (nd ob (nd (oc 118) (nd (oe 220) nl nl) nl) (nd od nl nl))) (nd (oe 28) (nd (oc 54) (nd od (nd (oa 208) nl nl) nl) (nd (oe 156) nl nl)) (nd (oa 80) (nd ob (nd od nl nl) nl) (nd (oc 182) nl nl)))) (nd od (nd (oc 22) (nd (oa 48) (nd ob (nd od nl nl) nl) (nd (oc 150) (nd (oe 252) nl nl) nl)) (nd od (nd (oe 124) (nd ob nl nl) nl) (nd (oa 176) nl nl))) (nd ob (nd (oe 60) (nd (oa 112) (nd (oc 214) nl nl) nl) (nd ob nl nl)) (nd (oc 86) (nd od (nd (oa 240) nl nl) nl) (nd (oe 188) nl nl))))))) (nd (sh.o_4 P) (nd (sh.o_15 P) (nd (sh.o_35 P) (nd oR (nd (oa 12) (nd od (nd (oe 88) (nd ob nl nl) nl) (nd (oa 140) (nd (oc 242) nl nl) nl)) (nd ob (nd (oc 114) (nd (oe 216) nl nl) nl) (nd od nl nl))) (nd (oe 24) (nd (oc 50) (nd od (nd (oa 204) nl nl) nl) (nd (oe 152) (nd ob nl nl) nl)) (nd (oa 76) (nd ob (nd od nl nl) nl) (nd (oc 178) nl nl)))) (nd od (nd (oc 18) (nd (oa 44) (nd ob (nd od nl nl) nl) (nd (oc 146) (nd (oe 248) nl nl) nl)) (nd od (nd (oe 120) (nd ob nl nl) nl) (nd (oa 172) nl nl))) (nd ob (nd (oe 56) (nd (oa 108) (nd (oc 210) nl nl) nl) (nd ob nl nl)) (nd (oc 82) (nd od (nd (oa 236) nl nl) nl) (nd (oe 184) nl nl))))) (nd (sh.o_55 P) (nd (oc 2) (nd ob (nd (oe 40) (nd (oa 92) (nd (oc 194) nl nl) nl) (nd ob (nd od nl nl) nl)) (nd (oc 66) (nd od (nd (oa 220) nl nl) nl) (nd (oe 168) nl nl))) (nd (oa 28) (nd od (nd (oe 104) (nd ob nl nl) nl) (nd (oa 156) nl nl)) (nd ob (nd (oc 130) (nd (oe 232) nl nl) nl) (nd od nl nl)))) (nd (oe 8) (nd od (nd ob (nd (oc 98) (nd (oe 200) nl nl) nl) (nd od (nd (oa 252) nl nl) nl)) (nd (oe 72) (nd (oa 124) (nd (oc 226) nl nl) nl) (nd ob nl nl))) (nd (oc 34) (nd (oa 60) (nd ob (nd od nl nl) nl) (nd (oc 162) nl nl)) (nd od (nd (oe 136) (nd ob nl nl) nl) (nd (oa 188) nl nl)))))) (nd (sh.o_27 P) (nd (sh.o_43 P) (nd (oe 0) (nd od (nd ob (nd (oc 90) (nd (oe 192) nl nl) nl) (nd od (nd (oa 244) nl nl) nl)) (nd (oe 64) (nd (oa 116) (nd (oc 218) nl nl) nl) (nd ob nl nl))) (nd (oc 26) (nd (oa 52) (nd ob (nd od nl nl) nl) (nd (oc 154) nl nl)) (nd od (nd (oe 128) (nd ob nl nl) nl) (nd (oa 180) nl nl)))) (nd ob (nd (oa 20) (nd od (nd (oe 96) (nd ob nl nl) nl) (nd (oa 148) (nd (oc 250) nl nl) nl)) (nd ob (nd (oc 122) (nd (oe 224) nl nl) nl) (nd od nl nl))) (nd (oe 32) (nd (oc 58) (nd od (nd (oa 212) nl nl) nl) (nd (oe 160) nl nl)) (nd (oa 84) (nd ob (nd od nl nl) nl) (nd (oc 186) nl nl))))) (nd (sh.o_63 P) (nd (oa 4) (nd (oe 16) (nd (oc 42) (nd od (nd (oa 196) nl nl) nl) (nd (oe 144) (nd ob nl nl) nl)) (nd (oa 68) (nd ob (nd od nl nl) nl) (nd (oc 170) nl nl))) (nd od (nd ob (nd (oc 106) (nd (oe 208) nl nl) nl) (nd od nl nl)) (nd (oe 80) (nd (oa 132) (nd (oc 234) nl nl) nl) (nd ob nl nl)))) (nd (oc 10) (nd ob (nd (oe 48) (nd (oa 100) (nd (oc 202) nl nl) nl) (nd ob (nd od nl nl) nl)) (nd (oc 74) (nd od (nd (oa 228) nl nl) nl) (nd (oe 176) nl nl))) (nd (oa 36) (nd od (nd (oe 112) (nd ob nl nl) nl) (nd (oa 164) nl nl)) (nd ob (nd (oc 138) (nd (oe 240) nl nl) nl) (nd od nl nl))))))))))
noncomputable def st256 (w : World) (os : OsState) : SharedT := ⟨tr256 w.params, 1354, {}, ⟨[]⟩, {}, 1038, os⟩
noncomputable def trF (P : Params) : BT := (nd (boot_o_0 P) (nd (boot_o_1 P) (nd (oG P) (nd (boot_o_7 P) (nd (sh.o_8 P) (nd (sh.o_28 P) (nd (sh.o_64 P) (nd od (nd ob (nd (oc 87) (nd (oe 189) nl nl) nl) (nd od (nd (oa 241) nl nl) nl)) (nd (oe 61) (nd (oa 113) (nd (oc 215) nl nl) nl) (nd ob nl nl))) (nd (oc 23) (nd (oa 49) (nd ob (nd od nl nl) nl) (nd (oc 151) (nd (oe 253) nl nl) nl)) (nd od (nd (oe 125) (nd ob nl nl) nl) (nd (oa 177) nl nl)))) (nd ob (nd (oa 17) (nd od (nd (oe 93) (nd ob nl nl) nl) (nd (oa 145) (nd (oc 247) nl nl) nl)) (nd ob (nd (oc 119) (nd (oe 221) nl nl) nl) (nd od nl nl))) (nd (oe 29) (nd (oc 55) (nd od (nd (oa 209) nl nl) nl) (nd (oe 157) nl nl)) (nd (oa 81) (nd ob (nd od nl nl) nl) (nd (oc 183) nl nl))))) (nd (sh.o_44 P) (nd (oa 1) (nd (oe 13) (nd (oc 39) (nd od (nd (oa 193) nl nl) nl) (nd (oe 141) (nd ob nl nl) nl)) (nd (oa 65) (nd ob (nd od nl nl) nl) (nd (oc 167) nl nl))) (nd od (nd ob (nd (oc 103) (nd (oe 205) nl nl) nl) (nd od nl nl)) (nd (oe 77) (nd (oa 129) (nd (oc 231) nl nl) nl) (nd ob nl nl)))) (nd (oc 7) (nd ob (nd (oe 45) (nd (oa 97) (nd (oc 199) nl nl) nl) (nd ob (nd od nl nl) nl)) (nd (oc 71) (nd od (nd (oa 225) nl nl) nl) (nd (oe 173) nl nl))) (nd (oa 33) (nd od (nd (oe 109) (nd ob nl nl) nl) (nd (oa 161) nl nl)) (nd ob (nd (oc 135) (nd (oe 237) nl nl) nl) (nd od nl nl)))))) (nd (sh.o_16 P) (nd (sh.o_36 P) (nd (oIt 256) (nd ob (nd (oe 37) (nd (oa 89) (nd (oc 191) nl nl) nl) (nd ob (nd od nl nl) nl)) (nd (oc 63) (nd od (nd (oa 217) nl nl) nl) (nd (oe 165) nl nl))) (nd (oa 25) (nd od (nd (oe 101) (nd ob nl nl) nl) (nd (oa 153) (nd (oc 255) nl nl) nl)) (nd ob (nd (oc 127) (nd (oe 229) nl nl) nl) (nd od nl nl)))) (nd (oe 5) (nd od (nd ob (nd (oc 95) (nd (oe 197) nl nl) nl) (nd od (nd (oa 249) nl nl) nl)) (nd (oe 69) (nd (oa 121) (nd (oc 223) nl nl) nl) (nd ob nl nl))) (nd (oc 31) (nd (oa 57) (nd ob (nd od nl nl) nl) (nd (oc 159) nl nl)) (nd od (nd (oe 133) (nd ob nl nl) nl) (nd (oa 185) nl nl))))) (nd (sh.o_56 P) (nd od (nd (oc 15) (nd (oa 41) (nd ob (nd od nl nl) nl) (nd (oc 143) (nd (oe 245) nl nl) nl)) (nd od (nd (oe 117) (nd ob nl nl) nl) (nd (oa 169) nl nl))) (nd ob (nd (oe 53) (nd (oa 105) (nd (oc 207) nl nl) nl) (nd ob nl nl)) (nd (oc 79) (nd od (nd (oa 233) nl nl) nl) (nd (oe 181) nl nl)))) (nd (oa 9) (nd (oe 21) (nd (oc 47) (nd od (nd (oa 201) nl nl) nl) (nd (oe 149) (nd ob nl nl) nl)) (nd (oa 73) (nd ob (nd od nl nl) nl) (nd (oc 175) nl nl))) (nd od (nd ob (nd (oc 111) (nd (oe 213) nl nl) nl) (nd od nl nl)) (nd (oe 85) (nd (oa 137) (nd (oc 239) nl nl) nl) (nd ob nl nl))))))) (nd (sh.o_1 P) (nd (sh.o_12 P) (nd (sh.o_32 P) (nd (sh.o_68 P) (nd (oc 11) (nd (oa 37) (nd ob (nd od nl nl) nl) (nd (oc 139) (nd (oe 241) nl nl) nl)) (nd od (nd (oe 113) (nd ob nl nl) nl) (nd (oa 165) nl nl))) (nd ob (nd (oe 49) (nd (oa 101) (nd (oc 203) nl nl) nl) (nd ob (nd od nl nl) nl)) (nd (oc 75) (nd od (nd (oa 229) nl nl) nl) (nd (oe 177) nl nl)))) (nd (oa 5) (nd (oe 17) (nd (oc 43) (nd od (nd (oa 197) nl nl) nl) (nd (oe 145) (nd ob nl nl) nl)) (nd (oa 69) (nd ob (nd od nl nl) nl) (nd (oc 171) nl nl))) (nd od (nd ob (nd (oc 107) (nd (oe 209) nl nl) nl) (nd od nl nl)) (nd (oe 81) (nd (oa 133) (nd (oc 235) nl nl) nl) (nd ob nl nl))))) (nd (sh.o_52 P) (nd (oe 1) (nd od (nd ob (nd (oc 91) (nd (oe 193) nl nl) nl) (nd od (nd (oa 245) nl nl) nl)) (nd (oe 65) (nd (oa 117) (nd (oc 219) nl nl) nl) (nd ob nl nl))) (nd (oc 27) (nd (oa 53) (nd ob (nd od nl nl) nl) (nd (oc 155) nl nl)) (nd od (nd (oe 129) (nd ob nl nl) nl) (nd (oa 181) nl nl)))) (nd ob (nd (oa 21) (nd od (nd (oe 97) (nd ob nl nl) nl) (nd (oa 149) (nd (oc 251) nl nl) nl)) (nd ob (nd (oc 123) (nd (oe 225) nl nl) nl) (nd od nl nl))) (nd (oe 33) (nd (oc 59) (nd od (nd (oa 213) nl nl) nl) (nd (oe 161) nl nl)) (nd (oa 85) (nd ob (nd od nl nl) nl) (nd (oc 187) nl nl)))))) (nd (sh.o_20 P) (nd (sh.o_40 P) (nd ob (nd (oa 13) (nd od (nd (oe 89) (nd ob nl nl) nl) (nd (oa 141) (nd (oc 243) nl nl) nl)) (nd ob (nd (oc 115) (nd (oe 217) nl nl) nl) (nd od nl nl))) (nd (oe 25) (nd (oc 51) (nd od (nd (oa 205) nl nl) nl) (nd (oe 153) (nd oez nl nl) nl)) (nd (oa 77) (nd ob (nd od nl nl) nl) (nd (oc 179) nl nl)))) (nd od (nd (oc 19) (nd (oa 45) (nd ob (nd od nl nl) nl) (nd (oc 147) (nd (oe 249) nl nl) nl)) (nd od (nd (oe 121) (nd ob nl nl) nl) (nd (oa 173) nl nl))) (nd ob (nd (oe 57) (nd (oa 109) (nd (oc 211) nl nl) nl) (nd ob nl nl)) (nd (oc 83) (nd od (nd (oa 237) nl nl) nl) (nd (oe 185) nl nl))))) (nd (sh.o_60 P) (nd (oc 3) (nd ob (nd (oe 41) (nd (oa 93) (nd (oc 195) nl nl) nl) (nd ob (nd od nl nl) nl)) (nd (oc 67) (nd od (nd (oa 221) nl nl) nl) (nd (oe 169) nl nl))) (nd (oa 29) (nd od (nd (oe 105) (nd ob nl nl) nl) (nd (oa 157) nl nl)) (nd ob (nd (oc 131) (nd (oe 233) nl nl) nl) (nd od nl nl)))) (nd (oe 9) (nd od (nd ob (nd (oc 99) (nd (oe 201) nl nl) nl) (nd od (nd (oa 253) nl nl) nl)) (nd (oe 73) (nd (oa 125) (nd (oc 227) nl nl) nl) (nd ob nl nl))) (nd (oc 35) (nd (oa 61) (nd ob (nd od nl nl) nl) (nd (oc 163) nl nl)) (nd od (nd (oe 137) (nd ob nl nl) nl) (nd (oa 189) nl nl)))))))) (nd (boot_o_5 P) (nd (boot_o_9 P) (nd (sh.o_10 P) (nd (sh.o_30 P) (nd (sh.o_66 P) (nd (oa 11) (nd od (nd (oe 87) (nd ob nl nl) nl) (nd (oa 139) (nd (oc 241) nl nl) nl)) (nd ob (nd (oc 113) (nd (oe 215) nl nl) nl) (nd od nl nl))) (nd (oe 23) (nd (oc 49) (nd od (nd (oa 203) nl nl) nl) (nd (oe 151) (nd ob nl nl) nl)) (nd (oa 75) (nd ob (nd od nl nl) nl) (nd (oc 177) nl nl)))) (nd od (nd (oc 17) (nd (oa 43) (nd ob (nd od nl nl) nl) (nd (oc 145) (nd (oe 247) nl nl) nl)) (nd od (nd (oe 119) (nd ob nl nl) nl) (nd (oa 171) nl nl))) (nd ob (nd (oe 55) (nd (oa 107) (nd (oc 209) nl nl) nl) (nd ob nl nl)) (nd (oc 81) (nd od (nd (oa 235) nl nl) nl) (nd (oe 183) nl nl))))) (nd (sh.o_50 P) (nd (oc 1) (nd ob (nd (oe 39) (nd (oa 91) (nd (oc 193) nl nl) nl) (nd ob (nd od nl nl) nl)) (nd (oc 65) (nd od (nd (oa 219) nl nl) nl) (nd (oe 167) nl nl))) (nd (oa 27) (nd od (nd (oe 103) (nd ob nl nl) nl) (nd (oa 155) nl nl)) (nd ob (nd (oc 129) (nd (oe 231) nl nl) nl) (nd od nl nl)))) (nd (oe 7) (nd od (nd ob (nd (oc 97) (nd (oe 199) nl nl) nl) (nd od (nd (oa 251) nl nl) nl)) (nd (oe 71) (nd (oa 123) (nd (oc 225) nl nl) nl) (nd ob nl nl))) (nd (oc 33) (nd (oa 59) (nd ob (nd od nl nl) nl) (nd (oc 161) nl nl)) (nd od (nd (oe 135) (nd ob nl nl) nl) (nd (oa 187) nl nl)))))) (nd (sh.o_18 P) (nd (sh.o_38 P) (nd oDz (nd od (nd ob (nd (oc 89) (nd (oe 191) nl nl) nl) (nd od (nd (oa 243) nl nl) nl)) (nd (oe 63) (nd (oa 115) (nd (oc 217) nl nl) nl) (nd ob nl nl))) (nd (oc 25) (nd (oa 51) (nd ob (nd od nl nl) nl) (nd (oc 153) (nd (oe 255) nl nl) nl)) (nd od (nd (oe 127) (nd ob nl nl) nl) (nd (oa 179) nl nl)))) (nd ob (nd (oa 19) (nd od (nd (oe 95) (nd ob nl nl) nl) (nd (oa 147) (nd (oc 249) nl nl) nl)) (nd ob (nd (oc 121) (nd (oe 223) nl nl) nl) (nd od nl nl))) (nd (oe 31) (nd (oc 57) (nd od (nd (oa 211) nl nl) nl) (nd (oe 159) nl nl)) (nd (oa 83) (nd ob (nd od nl nl) nl) (nd (oc 185) nl nl))))) (nd (sh.o_58 P) (nd (oa 3) (nd (oe 15) (nd (oc 41) (nd od (nd (oa 195) nl nl) nl) (nd (oe 143) (nd ob nl nl) nl)) (nd (oa 67) (nd ob (nd od nl nl) nl) (nd (oc 169) nl nl))) (nd od (nd ob (nd (oc 105) (nd (oe 207) nl nl) nl) (nd od nl nl)) (nd (oe 79) (nd (oa 131) (nd (oc 233) nl nl) nl) (nd ob nl nl)))) (nd (oc 9) (nd ob (nd (oe 47) (nd (oa 99) (nd (oc 201) nl nl) nl) (nd ob (nd od nl nl) nl)) (nd (oc 73) (nd od (nd (oa 227) nl nl) nl) (nd (oe 175) nl nl))) (nd (oa 35) (nd od (nd (oe 111) (nd ob nl nl) nl) (nd (oa 163) nl nl)) (nd ob (nd (oc 137) (nd (oe 239) nl nl) nl) (nd od nl nl))))))) (nd (sh.o_3 P) (nd (sh.o_14 P) (nd (sh.o_34 P) (nd (sh.o_70 P) (nd (oe 11) (nd (oc 37) (nd od (nd (oa 191) nl nl) nl) (nd (oe 139) (nd ob nl nl) nl)) (nd (oa 63) (nd ob (nd od nl nl) nl) (nd (oc 165) nl nl))) (nd od (nd ob (nd (oc 101) (nd (oe 203) nl nl) nl) (nd od (nd (oa 255) nl nl) nl)) (nd (oe 75) (nd (oa 127) (nd (oc 229) nl nl) nl) (nd ob nl nl)))) (nd (oc 5) (nd ob (nd (oe 43) (nd (oa 95) (nd (oc 197) nl nl) nl) (nd ob (nd od nl nl) nl)) (nd (oc 69) (nd od (nd (oa 223) nl nl) nl) (nd (oe 171) nl nl))) (nd (oa 31) (nd od (nd (oe 107) (nd ob nl nl) nl) (nd (oa 159) nl nl)) (nd ob (nd (oc 133) (nd (oe 235) nl nl) nl) (nd od nl nl))))) (nd (sh.o_54 P) (nd ob (nd (oa 15) (nd od (nd (oe 91) (nd ob nl nl) nl) (nd (oa 143) (nd (oc 245) nl nl) nl)) (nd ob (nd (oc 117) (nd (oe 219) nl nl) nl) (nd od nl nl))) (nd (oe 27) (nd (oc 53) (nd od (nd (oa 207) nl nl) nl) (nd (oe 155) nl nl)) (nd (oa 79) (nd ob (nd od nl nl) nl) (nd (oc 181) nl nl)))) (nd od (nd (oc 21) (nd (oa 47) (nd ob (nd od nl nl) nl) (nd (oc 149) (nd (oe 251) nl nl) nl)) (nd od (nd (oe 123) (nd ob nl nl) nl) (nd (oa 175) nl nl))) (nd ob (nd (oe 59) (nd (oa 111) (nd (oc 213) nl nl) nl) (nd ob nl nl)) (nd (oc 85) (nd od (nd (oa 239) nl nl) nl) (nd (oe 187) nl nl)))))) (nd (sh.o_26 P) (nd (sh.o_42 P) (nd od (nd (oc 13) (nd (oa 39) (nd ob (nd od nl nl) nl) (nd (oc 141) (nd (oe 243) nl nl) nl)) (nd od (nd (oe 115) (nd ob nl nl) nl) (nd (oa 167) nl nl))) (nd ob (nd (oe 51) (nd (oa 103) (nd (oc 205) nl nl) nl) (nd ob (nd oTu nl nl) nl)) (nd (oc 77) (nd od (nd (oa 231) nl nl) nl) (nd (oe 179) nl nl)))) (nd (oa 7) (nd (oe 19) (nd (oc 45) (nd od (nd (oa 199) nl nl) nl) (nd (oe 147) (nd ob nl nl) nl)) (nd (oa 71) (nd ob (nd od nl nl) nl) (nd (oc 173) nl nl))) (nd od (nd ob (nd (oc 109) (nd (oe 211) nl nl) nl) (nd od nl nl)) (nd (oe 83) (nd (oa 135) (nd (oc 237) nl nl) nl) (nd ob nl nl))))) (nd (sh.o_62 P) (nd (oe 3) (nd od (nd ob (nd (oc 93) (nd (oe 195) nl nl) nl) (nd od (nd (oa 247) nl nl) nl)) (nd (oe 67) (nd (oa 119) (nd (oc 221) nl nl) nl) (nd ob nl nl))) (nd (oc 29) (nd (oa 55) (nd ob (nd od nl nl) nl) (nd (oc 157) nl nl)) (nd od (nd (oe 131) (nd ob nl nl) nl) (nd (oa 183) nl nl)))) (nd ob (nd (oa 23) (nd od (nd (oe 99) (nd ob nl nl) nl) (nd (oa 151) (nd (oc 253) nl nl) nl)) (nd ob (nd (oc 125) (nd (oe 227) nl nl) nl) (nd od nl nl))) (nd (oe 35) (nd (oc 61) (nd od (nd (oa 215) nl nl) nl) (nd (oe 163) nl nl)) (nd (oa 87) (nd ob (nd od nl nl) nl) (nd (oc 189) nl nl))))))))) (nd (sh.o_5 P) (nd (boot_o_4 P) (nd (boot_o_8 P) (nd (sh.o_9 P) (nd (sh.o_29 P) (nd (sh.o_65 P) (nd (oe 10) (nd (oc 36) (nd od (nd (oa 190) nl nl) nl) (nd (oe 138) (nd ob nl nl) nl)) (nd (oa 62) (nd ob (nd od nl nl) nl) (nd (oc 164) nl nl))) (nd od (nd ob (nd (oc 100) (nd (oe 202) nl nl) nl) (nd od (nd (oa 254) nl nl) nl)) (nd (oe 74) (nd (oa 126) (nd (oc 228) nl nl) nl) (nd ob nl nl)))) (nd (oc 4) (nd ob (nd (oe 42) (nd (oa 94) (nd (oc 196) nl nl) nl) (nd ob (nd od nl nl) nl)) (nd (oc 68) (nd od (nd (oa 222) nl nl) nl) (nd (oe 170) nl nl))) (nd (oa 30) (nd od (nd (oe 106) (nd ob nl nl) nl) (nd (oa 158) nl nl)) (nd ob (nd (oc 132) (nd (oe 234) nl nl) nl) (nd od nl nl))))) (nd (sh.o_45 P) (nd ob (nd (oa 14) (nd od (nd (oe 90) (nd ob nl nl) nl) (nd (oa 142) (nd (oc 244) nl nl) nl)) (nd ob (nd (oc 116) (nd (oe 218) nl nl) nl) (nd od nl nl))) (nd (oe 26) (nd (oc 52) (nd od (nd (oa 206) nl nl) nl) (nd (oe 154) nl nl)) (nd (oa 78) (nd ob (nd od nl nl) nl) (nd (oc 180) nl nl)))) (nd od (nd (oc 20) (nd (oa 46) (nd ob (nd od nl nl) nl) (nd (oc 148) (nd (oe 250) nl nl) nl)) (nd od (nd (oe 122) (nd ob nl nl) nl) (nd (oa 174) nl nl))) (nd ob (nd (oe 58) (nd (oa 110) (nd (oc 212) nl nl) nl) (nd ob nl nl)) (nd (oc 84) (nd od (nd (oa 238) nl nl) nl) (nd (oe 186) nl nl)))))) (nd (sh.o_49 P) (nd (sh.o_37 P) (nd (oLs 256) (nd (oc 12) (nd (oa 38) (nd ob (nd od nl nl) nl) (nd (oc 140) (nd (oe 242) nl nl) nl)) (nd od (nd (oe 114) (nd ob nl nl) nl) (nd (oa 166) nl nl))) (nd ob (nd (oe 50) (nd (oa 102) (nd (oc 204) nl nl) nl) (nd ob (nd od nl nl) nl)) (nd (oc 76) (nd od (nd (oa 230) nl nl) nl) (nd (oe 178) nl nl)))) (nd (oa 6) (nd (oe 18) (nd (oc 44) (nd od (nd (oa 198) nl nl) nl) (nd (oe 146) (nd ob nl nl) nl)) (nd (oa 70) (nd ob (nd od nl nl) nl) (nd (oc 172) nl nl))) (nd od (nd ob (nd (oc 108) (nd (oe 210) nl nl) nl) (nd od nl nl)) (nd (oe 82) (nd (oa 134) (nd (oc 236) nl nl) nl) (nd ob nl nl))))) (nd (sh.o_57 P) (nd (oe 2) (nd od (nd ob (nd (oc 92) (nd (oe 194) nl nl) nl) (nd od (nd (oa 246) nl nl) nl)) (nd (oe 66) (nd (oa 118) (nd (oc 220) nl nl) nl) (nd ob nl nl))) (nd (oc 28) (nd (oa 54) (nd ob (nd od nl nl) nl) (nd (oc 156) nl nl)) (nd od (nd (oe 130) (nd ob nl nl) nl) (nd (oa 182) nl nl)))) (nd ob (nd (oa 22) (nd od (nd (oe 98) (nd ob nl nl) nl) (nd (oa 150) (nd (oc 252) nl nl) nl)) (nd ob (nd (oc 124) (nd (oe 226) nl nl) nl) (nd od nl nl))) (nd (oe 34) (nd (oc 60) (nd od (nd (oa 214) nl nl) nl) (nd (oe 162) nl nl)) (nd (oa 86) (nd ob (nd od nl nl) nl) (nd (oc 188) nl nl))))))) (nd (sh.o_48 P) (nd (sh.o_13 P) (nd (sh.o_33 P) (nd (sh.o_69 P) (nd od (nd ob (nd (oc 88) (nd (oe 190) nl nl) nl) (nd od (nd (oa 242) nl nl) nl)) (nd (oe 62) (nd (oa 114) (nd (oc 216) nl nl) nl) (nd ob nl nl))) (nd (oc 24) (nd (oa 50) (nd ob (nd od nl nl) nl) (nd (oc 152) (nd (oe 254) nl nl) nl)) (nd od (nd (oe 126) (nd ob nl nl) nl) (nd (oa 178) nl nl)))) (nd ob (nd (oa 18) (nd od (nd (oe 94) (nd ob nl nl) nl) (nd (oa 146) (nd (oc 248) nl nl) nl)) (nd ob (nd (oc 120) (nd (oe 222) nl nl) nl) (nd od nl nl))) (nd (oe 30) (nd (oc 56) (nd od (nd (oa 210) nl nl) nl) (nd (oe 158) nl nl)) (nd (oa 82) (nd ob (nd od nl nl) nl) (nd (oc 184) nl nl))))) (nd (sh.o_53 P) (nd (oa 2) (nd (oe 14) (nd (oc 40) (nd od (nd (oa 194) nl nl) nl) (nd (oe 142) (nd ob nl nl) nl)) (nd (oa 66) (nd ob (nd od nl nl) nl) (nd (oc 168) nl nl))) (nd od (nd ob (nd (oc 104) (nd (oe 206) nl nl) nl) (nd od nl nl)) (nd (oe 78) (nd (oa 130) (nd (oc 232) nl nl) nl) (nd ob nl nl)))) (nd (oc 8) (nd ob (nd (oe 46) (nd (oa 98) (nd (oc 200) nl nl) nl) (nd ob (nd od nl nl) nl)) (nd (oc 72) (nd od (nd (oa 226) nl nl) nl) (nd (oe 174) nl nl))) (nd (oa 34) (nd od (nd (oe 110) (nd ob nl nl) nl) (nd (oa 162) nl nl)) (nd ob (nd (oc 136) (nd (oe 238) nl nl) nl) (nd od nl nl)))))) (nd (sh.o_25 P) (nd (sh.o_41 P) (nd (oc 0) (nd ob (nd (oe 38) (nd (oa 90) (nd (oc 192) nl nl) nl) (nd ob (nd od nl nl) nl)) (nd (oc 64) (nd od (nd (oa 218) nl nl) nl) (nd (oe 166) nl nl))) (nd (oa 26) (nd od (nd (oe 102) (nd ob nl nl) nl) (nd (oa 154) (nd oLt nl nl) nl)) (nd ob (nd (oc 128) (nd (oe 230) nl nl) nl) (nd od nl nl)))) (nd (oe 6) (nd od (nd ob (nd (oc 96) (nd (oe 198) nl nl) nl) (nd od (nd (oa 250) nl nl) nl)) (nd (oe 70) (nd (oa 122) (nd (oc 224) nl nl) nl) (nd ob nl nl))) (nd (oc 32) (nd (oa 58) (nd ob (nd od nl nl) nl) (nd (oc 160) nl nl)) (nd od (nd (oe 134) (nd ob nl nl) nl) (nd (oa 186) nl nl))))) (nd (sh.o_61 P) (nd od (nd (oc 16) (nd (oa 42) (nd ob (nd od nl nl) nl) (nd (oc 144) (nd (oe 246) nl nl) nl)) (nd od (nd (oe 118) (nd ob nl nl) nl) (nd (oa 170) nl nl))) (nd ob (nd (oe 54) (nd (oa 106) (nd (oc 208) nl nl) nl) (nd ob nl nl)) (nd (oc 80) (nd od (nd (oa 234) nl nl) nl) (nd (oe 182) nl nl)))) (nd (oa 10) (nd (oe 22) (nd (oc 48) (nd od (nd (oa 202) nl nl) nl) (nd (oe 150) (nd ob nl nl) nl)) (nd (oa 74) (nd ob (nd od nl nl) nl) (nd (oc 176) nl nl))) (nd od (nd ob (nd (oc 112) (nd (oe 214) nl nl) nl) (nd od nl nl)) (nd (oe 86) (nd (oa 138) (nd (oc 240) nl nl) nl) (nd ob nl nl)))))))) (nd (boot_o_6 P) (nd (boot_o_10 P) (nd (sh.o_11 P) (nd (sh.o_31 P) (nd (sh.o_67 P) (nd ob (nd (oe 36) (nd (oa 88) (nd (oc 190) nl nl) nl) (nd ob (nd od nl nl) nl)) (nd (oc 62) (nd od (nd (oa 216) nl nl) nl) (nd (oe 164) nl nl))) (nd (oa 24) (nd od (nd (oe 100) (nd ob nl nl) nl) (nd (oa 152) (nd (oc 254) nl nl) nl)) (nd ob (nd (oc 126) (nd (oe 228) nl nl) nl) (nd od nl nl)))) (nd (oe 4) (nd od (nd ob (nd (oc 94) (nd (oe 196) nl nl) nl) (nd od (nd (oa 248) nl nl) nl)) (nd (oe 68) (nd (oa 120) (nd (oc 222) nl nl) nl) (nd ob nl nl))) (nd (oc 30) (nd (oa 56) (nd ob (nd od nl nl) nl) (nd (oc 158) nl nl)) (nd od (nd (oe 132) (nd ob nl nl) nl) (nd (oa 184) nl nl))))) (nd (sh.o_51 P) (nd od (nd (oc 14) (nd (oa 40) (nd ob (nd od nl nl) nl) (nd (oc 142) (nd (oe 244) nl nl) nl)) (nd od (nd (oe 116) (nd ob nl nl) nl) (nd (oa 168) nl nl))) (nd ob (nd (oe 52) (nd (oa 104) (nd (oc 206) nl nl) nl) (nd ob nl nl)) (nd (oc 78) (nd od (nd (oa 232) nl nl) nl) (nd (oe 180) nl nl)))) (nd (oa 8) (nd (oe 20) (nd (oc 46) (nd od (nd (oa 200) nl nl) nl) (nd (oe 148) (nd ob nl nl) nl)) (nd (oa 72) (nd ob (nd od nl nl) nl) (nd (oc 174) nl nl))) (nd od (nd ob (nd (oc 110) (nd (oe 212) nl nl) nl) (nd od nl nl)) (nd (oe 84) (nd (oa 136) (nd (oc 238) nl nl) nl) (nd ob nl nl)))))) (nd (sh.o_19 P) (nd (sh.o_39 P) (nd (oa 0) (nd (oe 12) (nd (oc 38) (nd od (nd (oa 192) nl nl) nl) (nd (oe 140) (nd ob nl nl) nl)) (nd (oa 64) (nd ob (nd od nl nl) nl) (nd (oc 166) nl nl))) (nd od (nd ob (nd (oc 102) (nd (oe 204) nl nl) nl) (nd od (nd od nl nl) nl)) (nd (oe 76) (nd (oa 128) (nd (oc 230) nl nl) nl) (nd ob nl nl)))) (nd (oc 6) (nd ob (nd (oe 44) (nd (oa 96) (nd (oc 198) nl nl) nl) (nd ob (nd od nl nl) nl)) (nd (oc 70) (nd od (nd (oa 224) nl nl) nl) (nd (oe 172) nl nl))) (nd (oa 32) (nd od (nd (oe 108) (nd ob nl nl) nl) (nd (oa 160) nl nl)) (nd ob (nd (oc 134) (nd (oe 236) nl nl) nl) (nd od nl nl))))) (nd (sh.o_59 P) (nd ob (nd (oa 16) (nd od (nd (oe 92) (nd ob nl nl) nl) (nd (oa 144) (nd (oc 246) nl nl) nl)) (nd ob (nd (oc 118) (nd (oe 220) nl nl) nl) (nd od nl nl))) (nd (oe 28) (nd (oc 54) (nd od (nd (oa 208) nl nl) nl) (nd (oe 156) nl nl)) (nd (oa 80) (nd ob (nd od nl nl) nl) (nd (oc 182) nl nl)))) (nd od (nd (oc 22) (nd (oa 48) (nd ob (nd od nl nl) nl) (nd (oc 150) (nd (oe 252) nl nl) nl)) (nd od (nd (oe 124) (nd ob nl nl) nl) (nd (oa 176) nl nl))) (nd ob (nd (oe 60) (nd (oa 112) (nd (oc 214) nl nl) nl) (nd ob nl nl)) (nd (oc 86) (nd od (nd (oa 240) nl nl) nl) (nd (oe 188) nl nl))))))) (nd (sh.o_4 P) (nd (sh.o_15 P) (nd (sh.o_35 P) (nd oR (nd (oa 12) (nd od (nd (oe 88) (nd ob nl nl) nl) (nd (oa 140) (nd (oc 242) nl nl) nl)) (nd ob (nd (oc 114) (nd (oe 216) nl nl) nl) (nd od nl nl))) (nd (oe 24) (nd (oc 50) (nd od (nd (oa 204) nl nl) nl) (nd (oe 152) (nd ob nl nl) nl)) (nd (oa 76) (nd ob (nd od nl nl) nl) (nd (oc 178) nl nl)))) (nd od (nd (oc 18) (nd (oa 44) (nd ob (nd od nl nl) nl) (nd (oc 146) (nd (oe 248) nl nl) nl)) (nd od (nd (oe 120) (nd ob nl nl) nl) (nd (oa 172) nl nl))) (nd ob (nd (oe 56) (nd (oa 108) (nd (oc 210) nl nl) nl) (nd ob nl nl)) (nd (oc 82) (nd od (nd (oa 236) nl nl) nl) (nd (oe 184) nl nl))))) (nd (sh.o_55 P) (nd (oc 2) (nd ob (nd (oe 40) (nd (oa 92) (nd (oc 194) nl nl) nl) (nd ob (nd od nl nl) nl)) (nd (oc 66) (nd od (nd (oa 220) nl nl) nl) (nd (oe 168) nl nl))) (nd (oa 28) (nd od (nd (oe 104) (nd ob nl nl) nl) (nd (oa 156) nl nl)) (nd ob (nd (oc 130) (nd (oe 232) nl nl) nl) (nd od nl nl)))) (nd (oe 8) (nd od (nd ob (nd (oc 98) (nd (oe 200) nl nl) nl) (nd od (nd (oa 252) nl nl) nl)) (nd (oe 72) (nd (oa 124) (nd (oc 226) nl nl) nl) (nd ob nl nl))) (nd (oc 34) (nd (oa 60) (nd ob (nd od nl nl) nl) (nd (oc 162) nl nl)) (nd od (nd (oe 136) (nd ob nl nl) nl) (nd (oa 188) nl nl)))))) (nd (sh.o_27 P) (nd (sh.o_43 P) (nd (oe 0) (nd od (nd ob (nd (oc 90) (nd (oe 192) nl nl) nl) (nd od (nd (oa 244) nl nl) nl)) (nd (oe 64) (nd (oa 116) (nd (oc 218) nl nl) nl) (nd ob nl nl))) (nd (oc 26) (nd (oa 52) (nd ob (nd od nl nl) nl) (nd (oc 154) nl nl)) (nd od (nd (oe 128) (nd ob nl nl) nl) (nd (oa 180) nl nl)))) (nd ob (nd (oa 20) (nd od (nd (oe 96) (nd ob nl nl) nl) (nd (oa 148) (nd (oc 250) nl nl) nl)) (nd ob (nd (oc 122) (nd (oe 224) nl nl) nl) (nd od nl nl))) (nd (oe 32) (nd (oc 58) (nd od (nd (oa 212) nl nl) nl) (nd (oe 160) nl nl)) (nd (oa 84) (nd ob (nd od nl nl) nl) (nd (oc 186) nl nl))))) (nd (sh.o_63 P) (nd (oa 4) (nd (oe 16) (nd (oc 42) (nd od (nd (oa 196) nl nl) nl) (nd (oe 144) (nd ob nl nl) nl)) (nd (oa 68) (nd ob (nd od nl nl) nl) (nd (oc 170) nl nl))) (nd od (nd ob (nd (oc 106) (nd (oe 208) nl nl) nl) (nd od nl nl)) (nd (oe 80) (nd (oa 132) (nd (oc 234) nl nl) nl) (nd ob nl nl)))) (nd (oc 10) (nd ob (nd (oe 48) (nd (oa 100) (nd (oc 202) nl nl) nl) (nd ob (nd od nl nl) nl)) (nd (oc 74) (nd od (nd (oa 228) nl nl) nl) (nd (oe 176) nl nl))) (nd (oa 36) (nd od (nd (oe 112) (nd ob nl nl) nl) (nd (oa 164) nl nl)) (nd ob (nd (oc 138) (nd (oe 240) nl nl) nl) (nd od nl nl))))))))))
noncomputable def stF (w : World) (os : OsState) : SharedT := ⟨trF w.params, 1358, {}, ⟨[]⟩, {}, 1039, os⟩
end MineT
end
section
open PySem PySem.W PyProof.Rows
set_option maxRecDepth 100000
set_option maxHeartbeats 8000000
namespace MineT
/-- a run that both ways of a row end alike -/
theorem by_both {α : Type} {x : α} (F : World → α) (w : World) (r : String) (h : (F (w.withFollow r false), F (w.withFollow r true)) = (x, x)) : F w = x := by
  have a : F (w.withFollow r (w.params.followText r)) = x := by
    cases w.params.followText r
    · exact (Prod.mk.inj h).1
    · exact (Prod.mk.inj h).2
  rwa [World.withFollow_self] at a
theorem both_pt (w : World) (os : OsState) : (segGoT treeTable pw ((w.withFollow "comprehension-iter-twice" true).withFollow "special-get-raises" false) 11 (some (.ref 6)) 1 142 (S70 w os) T70, segGoT treeTable pw ((w.withFollow "comprehension-iter-twice" true).withFollow "special-get-raises" true) 11 (some (.ref 6)) 1 142 (S70 w os) T70) = (some (st1 w os, thk (kk w os)), some (st1 w os, thk (kk w os))) := by rw [goE]; kernel_rfl
theorem pfx_t (w : World) (os : OsState) : segGoT treeTable pw (w.withFollow "comprehension-iter-twice" true) 11 (some (.ref 6)) 1 142 (S70 w os) T70 = some (st1 w os, thk (kk w os)) := by_both (fun v => segGoT treeTable pw v 11 (some (.ref 6)) 1 142 (S70 w os) T70) (w.withFollow "comprehension-iter-twice" true) "special-get-raises" (both_pt w os)
theorem both_pf (w : World) (os : OsState) : (segGoT treeTable pw ((w.withFollow "comprehension-iter-twice" false).withFollow "special-get-raises" false) 11 (some (.ref 6)) 1 152 (S70 w os) T70, segGoT treeTable pw ((w.withFollow "comprehension-iter-twice" false).withFollow "special-get-raises" true) 11 (some (.ref 6)) 1 152 (S70 w os) T70) = (some (st1 w os, thk (kk w os)), some (st1 w os, thk (kk w os))) := by rw [goE]; kernel_rfl
theorem pfx_f (w : World) (os : OsState) : segGoT treeTable pw (w.withFollow "comprehension-iter-twice" false) 11 (some (.ref 6)) 1 152 (S70 w os) T70 = some (st1 w os, thk (kk w os)) := by_both (fun v => segGoT treeTable pw v 11 (some (.ref 6)) 1 152 (S70 w os) T70) (w.withFollow "comprehension-iter-twice" false) "special-get-raises" (both_pf w os)
theorem both16 (w : World) (os : OsState) (k : Result → Sem Fin) : (segGoT treeTable pw (w.withFollow "special-get-raises" false) 11 (some (.ref 6)) 1 1455 (st1 w os) (thk k), segGoT treeTable pw (w.withFollow "special-get-raises" true) 11 (some (.ref 6)) 1 1455 (st1 w os) (thk k)) = (some (st16 w os, thk k), some (st16 w os, thk k)) := by rw [goE]; kernel_rfl
theorem cut16 (w : World) (os : OsState) (k : Result → Sem Fin) : segGoT treeTable pw w 11 (some (.ref 6)) 1 1455 (st1 w os) (thk k) = some (st16 w os, thk k) := by_both (fun v => segGoT treeTable pw v 11 (some (.ref 6)) 1 1455 (st1 w os) (thk k)) w "special-get-raises" (both16 w os k)
theorem both32 (w : World) (os : OsState) (k : Result → Sem Fin) : (segGoT treeTable pw (w.withFollow "special-get-raises" false) 11 (some (.ref 6)) 1 1552 (st16 w os) (thk k), segGoT treeTable pw (w.withFollow "special-get-raises" true) 11 (some (.ref 6)) 1 1552 (st16 w os) (thk k)) = (some (st32 w os, thk k), some (st32 w os, thk k)) := by rw [goE]; kernel_rfl
theorem cut32 (w : World) (os : OsState) (k : Result → Sem Fin) : segGoT treeTable pw w 11 (some (.ref 6)) 1 1552 (st16 w os) (thk k) = some (st32 w os, thk k) := by_both (fun v => segGoT treeTable pw v 11 (some (.ref 6)) 1 1552 (st16 w os) (thk k)) w "special-get-raises" (both32 w os k)
theorem both48 (w : World) (os : OsState) (k : Result → Sem Fin) : (segGoT treeTable pw (w.withFollow "special-get-raises" false) 11 (some (.ref 6)) 1 1552 (st32 w os) (thk k), segGoT treeTable pw (w.withFollow "special-get-raises" true) 11 (some (.ref 6)) 1 1552 (st32 w os) (thk k)) = (some (st48 w os, thk k), some (st48 w os, thk k)) := by rw [goE]; kernel_rfl
theorem cut48 (w : World) (os : OsState) (k : Result → Sem Fin) : segGoT treeTable pw w 11 (some (.ref 6)) 1 1552 (st32 w os) (thk k) = some (st48 w os, thk k) := by_both (fun v => segGoT treeTable pw v 11 (some (.ref 6)) 1 1552 (st32 w os) (thk k)) w "special-get-raises" (both48 w os k)
theorem both64 (w : World) (os : OsState) (k : Result → Sem Fin) : (segGoT treeTable pw (w.withFollow "special-get-raises" false) 11 (some (.ref 6)) 1 1552 (st48 w os) (thk k), segGoT treeTable pw (w.withFollow "special-get-raises" true) 11 (some (.ref 6)) 1 1552 (st48 w os) (thk k)) = (some (st64 w os, thk k), some (st64 w os, thk k)) := by rw [goE]; kernel_rfl
theorem cut64 (w : World) (os : OsState) (k : Result → Sem Fin) : segGoT treeTable pw w 11 (some (.ref 6)) 1 1552 (st48 w os) (thk k) = some (st64 w os, thk k) := by_both (fun v => segGoT treeTable pw v 11 (some (.ref 6)) 1 1552 (st48 w os) (thk k)) w "special-get-raises" (both64 w os k)
theorem both80 (w : World) (os : OsState) (k : Result → Sem Fin) : (segGoT treeTable pw (w.withFollow "special-get-raises" false) 11 (some (.ref 6)) 1 1552 (st64 w os) (thk k), segGoT treeTable pw (w.withFollow "special-get-raises" true) 11 (some (.ref 6)) 1 1552 (st64 w os) (thk k)) = (some (st80 w os, thk k), some (st80 w os, thk k)) := by rw [goE]; kernel_rfl
theorem cut80 (w : World) (os : OsState) (k : Result → Sem Fin) : segGoT treeTable pw w 11 (some (.ref 6)) 1 1552 (st64 w os) (thk k) = some (st80 w os, thk k) := by_both (fun v => segGoT treeTable pw v 11 (some (.ref 6)) 1 1552 (st64 w os) (thk k)) w "special-get-raises" (both80 w os k)
theorem both96 (w : World) (os : OsState) (k : Result → Sem Fin) : (segGoT treeTable pw (w.withFollow "special-get-raises" false) 11 (some (.ref 6)) 1 1552 (st80 w os) (thk k), segGoT treeTable pw (w.withFollow "special-get-raises" true) 11 (some (.ref 6)) 1 1552 (st80 w os) (thk k)) = (some (st96 w os, thk k), some (st96 w os, thk k)) := by rw [goE]; kernel_rfl
theorem cut96 (w : World) (os : OsState) (k : Result → Sem Fin) : segGoT treeTable pw w 11 (some (.ref 6)) 1 1552 (st80 w os) (thk k) = some (st96 w os, thk k) := by_both (fun v => segGoT treeTable pw v 11 (some (.ref 6)) 1 1552 (st80 w os) (thk k)) w "special-get-raises" (both96 w os k)
theorem both112 (w : World) (os : OsState) (k : Result → Sem Fin) : (segGoT treeTable pw (w.withFollow "special-get-raises" false) 11 (some (.ref 6)) 1 1552 (st96 w os) (thk k), segGoT treeTable pw (w.withFollow "special-get-raises" true) 11 (some (.ref 6)) 1 1552 (st96 w os) (thk k)) = (some (st112 w os, thk k), some (st112 w os, thk k)) := by rw [goE]; kernel_rfl
theorem cut112 (w : World) (os : OsState) (k : Result → Sem Fin) : segGoT treeTable pw w 11 (some (.ref 6)) 1 1552 (st96 w os) (thk k) = some (st112 w os, thk k) := by_both (fun v => segGoT treeTable pw v 11 (some (.ref 6)) 1 1552 (st96 w os) (thk k)) w "special-get-raises" (both112 w os k)
theorem both128 (w : World) (os : OsState) (k : Result → Sem Fin) : (segGoT treeTable pw (w.withFollow "special-get-raises" false) 11 (some (.ref 6)) 1 1552 (st112 w os) (thk k), segGoT treeTable pw (w.withFollow "special-get-raises" true) 11 (some (.ref 6)) 1 1552 (st112 w os) (thk k)) = (some (st128 w os, thk k), some (st128 w os, thk k)) := by rw [goE]; kernel_rfl
theorem cut128 (w : World) (os : OsState) (k : Result → Sem Fin) : segGoT treeTable pw w 11 (some (.ref 6)) 1 1552 (st112 w os) (thk k) = some (st128 w os, thk k) := by_both (fun v => segGoT treeTable pw v 11 (some (.ref 6)) 1 1552 (st112 w os) (thk k)) w "special-get-raises" (both128 w os k)
theorem both144 (w : World) (os : OsState) (k : Result → Sem Fin) : (segGoT treeTable pw (w.withFollow "special-get-raises" false) 11 (some (.ref 6)) 1 1552 (st128 w os) (thk k), segGoT treeTable pw (w.withFollow "special-get-raises" true) 11 (some (.ref 6)) 1 1552 (st128 w os) (thk k)) = (some (st144 w os, thk k), some (st144 w os, thk k)) := by rw [goE]; kernel_rfl
theorem cut144 (w : World) (os : OsState) (k : Result → Sem Fin) : segGoT treeTable pw w 11 (some (.ref 6)) 1 1552 (st128 w os) (thk k) = some (st144 w os, thk k) := by_both (fun v => segGoT treeTable pw v 11 (some (.ref 6)) 1 1552 (st128 w os) (thk k)) w "special-get-raises" (both144 w os k)
theorem both160 (w : World) (os : OsState) (k : Result → Sem Fin) : (segGoT treeTable pw (w.withFollow "special-get-raises" false) 11 (some (.ref 6)) 1 1552 (st144 w os) (thk k), segGoT treeTable pw (w.withFollow "special-get-raises" true) 11 (some (.ref 6)) 1 1552 (st144 w os) (thk k)) = (some (st160 w os, thk k), some (st160 w os, thk k)) := by rw [goE]; kernel_rfl
theorem cut160 (w : World) (os : OsState) (k : Result → Sem Fin) : segGoT treeTable pw w 11 (some (.ref 6)) 1 1552 (st144 w os) (thk k) = some (st160 w os, thk k) := by_both (fun v => segGoT treeTable pw v 11 (some (.ref 6)) 1 1552 (st144 w os) (thk k)) w "special-get-raises" (both160 w os k)
theorem both176 (w : World) (os : OsState) (k : Result → Sem Fin) : (segGoT treeTable pw (w.withFollow "special-get-raises" false) 11 (some (.ref 6)) 1 1552 (st160 w os) (thk k), segGoT treeTable pw (w.withFollow "special-get-raises" true) 11 (some (.ref 6)) 1 1552 (st160 w os) (thk k)) = (some (st176 w os, thk k), some (st176 w os, thk k)) := by rw [goE]; kernel_rfl
theorem cut176 (w : World) (os : OsState) (k : Result → Sem Fin) : segGoT treeTable pw w 11 (some (.ref 6)) 1 1552 (st160 w os) (thk k) = some (st176 w os, thk k) := by_both (fun v => segGoT treeTable pw v 11 (some (.ref 6)) 1 1552 (st160 w os) (thk k)) w "special-get-raises" (both176 w os k)
theorem both192 (w : World) (os : OsState) (k : Result → Sem Fin) : (segGoT treeTable pw (w.withFollow "special-get-raises" false) 11 (some (.ref 6)) 1 1552 (st176 w os) (thk k), segGoT treeTable pw (w.withFollow "special-get-raises" true) 11 (some (.ref 6)) 1 1552 (st176 w os) (thk k)) = (some (st192 w os, thk k), some (st192 w os, thk k)) := by rw [goE]; kernel_rfl
theorem cut192 (w : World) (os : OsState) (k : Result → Sem Fin) : segGoT treeTable pw w 11 (some (.ref 6)) 1 1552 (st176 w os) (thk k) = some (st192 w os, thk k) := by_both (fun v => segGoT treeTable pw v 11 (some (.ref 6)) 1 1552 (st176 w os) (thk k)) w "special-get-raises" (both192 w os k)
theorem both208 (w : World) (os : OsState) (k : Result → Sem Fin) : (segGoT treeTable pw (w.withFollow "special-get-raises" false) 11 (some (.ref 6)) 1 1552 (st192 w os) (thk k), segGoT treeTable pw (w.withFollow "special-get-raises" true) 11 (some (.ref 6)) 1 1552 (st192 w os) (thk k)) = (some (st208 w os, thk k), some (st208 w os, thk k)) := by rw [goE]; kernel_rfl
theorem cut208 (w : World) (os : OsState) (k : Result → Sem Fin) : segGoT treeTable pw w 11 (some (.ref 6)) 1 1552 (st192 w os) (thk k) = some (st208 w os, thk k) := by_both (fun v => segGoT treeTable pw v 11 (some (.ref 6)) 1 1552 (st192 w os) (thk k)) w "special-get-raises" (both208 w os k)
theorem both224 (w : World) (os : OsState) (k : Result → Sem Fin) : (segGoT treeTable pw (w.withFollow "special-get-raises" false) 11 (some (.ref 6)) 1 1552 (st208 w os) (thk k), segGoT treeTable pw (w.withFollow "special-get-raises" true) 11 (some (.ref 6)) 1 1552 (st208 w os) (thk k)) = (some (st224 w os, thk k), some (st224 w os, thk k)) := by rw [goE]; kernel_rfl
theorem cut224 (w : World) (os : OsState) (k : Result → Sem Fin) : segGoT treeTable pw w 11 (some (.ref 6)) 1 1552 (st208 w os) (thk k) = some (st224 w os, thk k) := by_both (fun v => segGoT treeTable pw v 11 (some (.ref 6)) 1 1552 (st208 w os) (thk k)) w "special-get-raises" (both224 w os k)
theorem both240 (w : World) (os : OsState) (k : Result → Sem Fin) : (segGoT treeTable pw (w.withFollow "special-get-raises" false) 11 (some (.ref 6)) 1 1552 (st224 w os) (thk k), segGoT treeTable pw (w.withFollow "special-get-raises" true) 11 (some (.ref 6)) 1 1552 (st224 w os) (thk k)) = (some (st240 w os, thk k), some (st240 w os, thk k)) := by rw [goE]; kernel_rfl
theorem cut240 (w : World) (os : OsState) (k : Result → Sem Fin) : segGoT treeTable pw w 11 (some (.ref 6)) 1 1552 (st224 w os) (thk k) = some (st240 w os, thk k) := by_both (fun v => segGoT treeTable pw v 11 (some (.ref 6)) 1 1552 (st224 w os) (thk k)) w "special-get-raises" (both240 w os k)
theorem both256 (w : World) (os : OsState) (k : Result → Sem Fin) : (segGoT treeTable pw (w.withFollow "special-get-raises" false) 11 (some (.ref 6)) 1 1552 (st240 w os) (thk k), segGoT treeTable pw (w.withFollow "special-get-raises" true) 11 (some (.ref 6)) 1 1552 (st240 w os) (thk k)) = (some (st256 w os, thk k), some (st256 w os, thk k)) := by rw [goE]; kernel_rfl
theorem cut256 (w : World) (os : OsState) (k : Result → Sem Fin) : segGoT treeTable pw w 11 (some (.ref 6)) 1 1552 (st240 w os) (thk k) = some (st256 w os, thk k) := by_both (fun v => segGoT treeTable pw v 11 (some (.ref 6)) 1 1552 (st240 w os) (thk k)) w "special-get-raises" (both256 w os k)
end MineT
end
section
open PySem PySem.W PyProof.Rows
set_option maxRecDepth 100000
set_option maxHeartbeats 8000000
namespace MineT
theorem both_e (w : World) (os : OsState) : (segRunT treeTable pw (w.withFollow "special-get-raises" false) 11 (some (.ref 6)) 1 60 (st256 w os) (thk (kk w os)), segRunT treeTable pw (w.withFollow "special-get-raises" true) 11 (some (.ref 6)) 1 60 (st256 w os) (thk (kk w os))) = (some (.next, stF w os, cE, { line := 15, col := 0, endLine := 15, endCol := 9 }), some (.next, stF w os, cE, { line := 15, col := 0, endLine := 15, endCol := 9 })) := by rw [runE]; kernel_rfl
theorem end5 (w : World) (os : OsState) : segRunT treeTable pw w 11 (some (.ref 6)) 1 60 (st256 w os) (thk (kk w os)) = some (.next, stF w os, cE, { line := 15, col := 0, endLine := 15, endCol := 9 }) := by_both (fun v => segRunT treeTable pw v 11 (some (.ref 6)) 1 60 (st256 w os) (thk (kk w os))) w "special-get-raises" (both_e w os)
noncomputable def posF : Pos := { line := 153, col := 0, endLine := 177, endCol := 123 }
noncomputable def T6 : Thread := piecesOf (tops.drop 6) sh.env_1 cE { line := 15, col := 0, endLine := 15, endCol := 9 } frB
noncomputable def foE : Obj := { cls := .none, data := .fields #[] }
noncomputable def fdT (i : Nat) : FuncData := match tops[i]? with
  | some (.FunctionDef name a b _ _ _ sc _ _ _) => { name := name, qualname := name, params := a, body := .stmts b, scope := sc, globals := 0, closure := [], defaults := .none, kwdefaults := .none }
  | _ => default
noncomputable def foT (i : Nat) : Obj := { cls := .none, data := .func (fdT i) }
noncomputable def foF (i : Nat) (m : String) (t c : Nat) : Obj := { cls := .type "function", data := .func { fdT i with globals := 3, pyModule := .str (Str.ofString m) t, code := .ref c } }
noncomputable def fo3 (P : Params) : Obj := { cls := Value.type "dict", data := Data.dict #[{ hash := PyData.keyHash P (Str.ofString "__name__"), key := Value.str (Str.ofString "__name__") 165, val := Value.str (Str.ofString "law_fb0045_01") 1129 }, { hash := PyData.keyHash P (Str.ofString "__doc__"), key := Value.str (Str.ofString "__doc__") 166, val := Value.none }, { hash := PyData.keyHash P (Str.ofString "__package__"), key := Value.str (Str.ofString "__package__") 167, val := Value.none }, { hash := PyData.keyHash P (Str.ofString "__loader__"), key := Value.str (Str.ofString "__loader__") 168, val := Value.builtin "__main__.__loader__#opaque" }, { hash := PyData.keyHash P (Str.ofString "__spec__"), key := Value.str (Str.ofString "__spec__") 169, val := Value.none }, { hash := PyData.keyHash P (Str.ofString "__annotations__"), key := Value.str (Str.ofString "__annotations__") 170, val := Value.ref 6 }, { hash := PyData.keyHash P (Str.ofString "__builtins__"), key := Value.str (Str.ofString "__builtins__") 171, val := Value.ref 4 }, { hash := PyData.keyHash P (Str.ofString "__file__"), key := Value.str (Str.ofString "__file__") 173, val := Value.str (Str.ofString "/claim/cut.py") 172 }, { hash := PyData.keyHash P (Str.ofString "__cached__"), key := Value.str (Str.ofString "__cached__") 174, val := Value.none }, { hash := PyData.keyHash P (Str.ofString "RLPException"), key := Value.str (Str.ofString "RLPException") 208, val := Value.ref 24 }, { hash := PyData.keyHash P (Str.ofString "EncodingError"), key := Value.str (Str.ofString "EncodingError") 236, val := Value.ref 46 }, { hash := PyData.keyHash P (Str.ofString "DecodingError"), key := Value.str (Str.ofString "DecodingError") 264, val := Value.ref 67 }, { hash := PyData.keyHash P (Str.ofString "ALL_BYTES"), key := Value.str (Str.ofString "ALL_BYTES") 1038, val := Value.ref 1357 }, { hash := PyData.keyHash P (Str.ofString "big_endian_to_int"), key := Value.str (Str.ofString "big_endian_to_int") 1045, val := Value.ref 1364 }, { hash := PyData.keyHash P (Str.ofString "int_to_big_endian"), key := Value.str (Str.ofString "int_to_big_endian") 1052, val := Value.ref 1371 }, { hash := PyData.keyHash P (Str.ofString "encode_raw"), key := Value.str (Str.ofString "encode_raw") 1065, val := Value.ref 1378 }, { hash := PyData.keyHash P (Str.ofString "LONG_LENGTH"), key := Value.str (Str.ofString "LONG_LENGTH") 1069, val := Value.int 18446744073709551616 1068 }, { hash := PyData.keyHash P (Str.ofString "length_prefix"), key := Value.str (Str.ofString "length_prefix") 1078, val := Value.ref 1385 }, { hash := PyData.keyHash P (Str.ofString "SHORT_STRING"), key := Value.str (Str.ofString "SHORT_STRING") 1082, val := Value.int 184 1081 }, { hash := PyData.keyHash P (Str.ofString "consume_length_prefix"), key := Value.str (Str.ofString "consume_length_prefix") 1094, val := Value.ref 1392 }, { hash := PyData.keyHash P (Str.ofString "consume_payload"), key := Value.str (Str.ofString "consume_payload") 1116, val := Value.ref 1399 }, { hash := PyData.keyHash P (Str.ofString "consume_item"), key := Value.str (Str.ofString "consume_item") 1128, val := Value.ref 1406 }, { hash := PyData.keyHash P (Str.ofString "_law_next"), key := Value.str (Str.ofString "_law_next") 1138, val := Value.ref 1413 }, { hash := PyData.keyHash P (Str.ofString "_law_tree"), key := Value.str (Str.ofString "_law_tree") 1144, val := Value.ref 1418 }, { hash := PyData.keyHash P (Str.ofString "_law_ways"), key := Value.str (Str.ofString "_law_ways") 1150, val := Value.ref 1423 }, { hash := PyData.keyHash P (Str.ofString "_law_edited"), key := Value.str (Str.ofString "_law_edited") 1161, val := Value.ref 1430 }, { hash := PyData.keyHash P (Str.ofString "_law_head"), key := Value.str (Str.ofString "_law_head") 1169, val := Value.ref 1437 }, { hash := PyData.keyHash P (Str.ofString "_law_spliced"), key := Value.str (Str.ofString "_law_spliced") 1189, val := Value.ref 1444 }, { hash := PyData.keyHash P (Str.ofString "_law_pieces"), key := Value.str (Str.ofString "_law_pieces") 1195, val := Value.ref 1449 }, { hash := PyData.keyHash P (Str.ofString "law"), key := Value.str (Str.ofString "law") 1201, val := Value.ref 1454 }] 30 }
noncomputable def fo12 : Obj := { cls := Value.none, data := Data.fields #[Value.int 2 0, Value.int 0 0, Value.ref 20, Value.int 4 0, Value.int 0 0, Value.ref 34, Value.int 9 0, Value.int 0 0, Value.ref 55, Value.int 16 0, Value.int 0 0, Value.ref 1363, Value.int 18 0, Value.int 0 0, Value.ref 1370, Value.int 21 0, Value.int 0 0, Value.ref 1377, Value.int 39 0, Value.int 0 0, Value.ref 1384, Value.int 48 0, Value.int 0 0, Value.ref 1391, Value.int 76 0, Value.int 0 0, Value.ref 1398, Value.int 98 0, Value.int 0 0, Value.ref 1405, Value.int 102 0, Value.int 0 0, Value.ref 1412, Value.int 107 0, Value.int 0 0, Value.ref 1417, Value.int 115 0, Value.int 0 0, Value.ref 1422, Value.int 119 0, Value.int 0 0, Value.ref 1429, Value.int 126 0, Value.int 0 0, Value.ref 1436, Value.int 134 0, Value.int 0 0, Value.ref 1443, Value.int 149 0, Value.int 0 0, Value.ref 1448, Value.int 153 0, Value.int 0 0, Value.ref 1453] }
noncomputable def fo1360 : Obj := { cls := Value.type "tuple", data := Data.seq #[Value.str (Str.ofString "value") 1042] }
noncomputable def fo1363 : Obj := { cls := Value.type "code", data := Data.fields #[Value.str (Str.ofString "big_endian_to_int") 1039, Value.str (Str.ofString "big_endian_to_int") 1040, Value.str (Str.ofString "/claim/cut.py") 1041, Value.int 16 0, Value.int 1 0, Value.int 0 0, Value.int 0 0, Value.int 3 0, Value.ref 1358, Value.bool true, Value.int 181 0, Value.ref 1359, Value.none, Value.ref 1360, Value.ref 1361, Value.ref 1362, Value.int 1043 0, Value.int 16 0, Value.str (Str.ofString "/claim/cut.py") 1044] }
noncomputable def fo1367 : Obj := { cls := Value.type "tuple", data := Data.seq #[Value.str (Str.ofString "value") 1049] }
noncomputable def fo1370 : Obj := { cls := Value.type "code", data := Data.fields #[Value.str (Str.ofString "int_to_big_endian") 1046, Value.str (Str.ofString "int_to_big_endian") 1047, Value.str (Str.ofString "/claim/cut.py") 1048, Value.int 18 0, Value.int 1 0, Value.int 0 0, Value.int 0 0, Value.int 3 0, Value.ref 1365, Value.bool true, Value.int 181 0, Value.ref 1366, Value.none, Value.ref 1367, Value.ref 1368, Value.ref 1369, Value.int 1050 0, Value.int 18 0, Value.str (Str.ofString "/claim/cut.py") 1051] }
noncomputable def fo1374 : Obj := { cls := Value.type "tuple", data := Data.seq #[Value.str (Str.ofString "item") 1058, Value.str (Str.ofString "payload") 1059, Value.str (Str.ofString "prefix_offset") 1060, Value.str (Str.ofString "msg") 1061, Value.str (Str.ofString "prefix") 1062] }
noncomputable def fo1377 : Obj := { cls := Value.type "code", data := Data.fields #[Value.str (Str.ofString "encode_raw") 1055, Value.str (Str.ofString "encode_raw") 1056, Value.str (Str.ofString "/claim/cut.py") 1057, Value.int 21 0, Value.int 1 0, Value.int 0 0, Value.int 0 0, Value.int 3 0, Value.ref 1372, Value.bool true, Value.int 181 0, Value.ref 1373, Value.none, Value.ref 1374, Value.ref 1375, Value.ref 1376, Value.int 1063 0, Value.int 21 0, Value.str (Str.ofString "/claim/cut.py") 1064] }
noncomputable def fo1381 : Obj := { cls := Value.type "tuple", data := Data.seq #[Value.str (Str.ofString "length") 1073, Value.str (Str.ofString "offset") 1074, Value.str (Str.ofString "length_string") 1075] }
noncomputable def fo1384 : Obj := { cls := Value.type "code", data := Data.fields #[Value.str (Str.ofString "length_prefix") 1070, Value.str (Str.ofString "length_prefix") 1071, Value.str (Str.ofString "/claim/cut.py") 1072, Value.int 39 0, Value.int 2 0, Value.int 0 0, Value.int 0 0, Value.int 3 0, Value.ref 1379, Value.bool true, Value.int 181 0, Value.ref 1380, Value.none, Value.ref 1381, Value.ref 1382, Value.ref 1383, Value.int 1076 0, Value.int 39 0, Value.str (Str.ofString "/claim/cut.py") 1077] }
noncomputable def fo1388 : Obj := { cls := Value.type "tuple", data := Data.seq #[Value.str (Str.ofString "rlp") 1086, Value.str (Str.ofString "start") 1087, Value.str (Str.ofString "b0") 1088, Value.str (Str.ofString "ll") 1089, Value.str (Str.ofString "len_prefix") 1090, Value.str (Str.ofString "l") 1091] }
noncomputable def fo1391 : Obj := { cls := Value.type "code", data := Data.fields #[Value.str (Str.ofString "consume_length_prefix") 1083, Value.str (Str.ofString "consume_length_prefix") 1084, Value.str (Str.ofString "/claim/cut.py") 1085, Value.int 48 0, Value.int 2 0, Value.int 0 0, Value.int 0 0, Value.int 3 0, Value.ref 1386, Value.bool true, Value.int 181 0, Value.ref 1387, Value.none, Value.ref 1388, Value.ref 1389, Value.ref 1390, Value.int 1092 0, Value.int 48 0, Value.str (Str.ofString "/claim/cut.py") 1093] }
noncomputable def fo1395 : Obj := { cls := Value.type "tuple", data := Data.seq #[Value.str (Str.ofString "rlp") 1098, Value.str (Str.ofString "prefix") 1099, Value.str (Str.ofString "start") 1100, Value.str (Str.ofString "type_") 1101, Value.str (Str.ofString "length") 1102, Value.str (Str.ofString "item") 1103, Value.str (Str.ofString "items") 1104, Value.str (Str.ofString "per_item_rlp") 1105, Value.str (Str.ofString "list_rlp") 1106, Value.str (Str.ofString "next_item_start") 1107, Value.str (Str.ofString "end") 1108, Value.str (Str.ofString "p") 1109, Value.str (Str.ofString "t") 1110, Value.str (Str.ofString "l") 1111, Value.str (Str.ofString "s") 1112, Value.str (Str.ofString "item_rlp") 1113] }
noncomputable def fo1398 : Obj := { cls := Value.type "code", data := Data.fields #[Value.str (Str.ofString "consume_payload") 1095, Value.str (Str.ofString "consume_payload") 1096, Value.str (Str.ofString "/claim/cut.py") 1097, Value.int 76 0, Value.int 5 0, Value.int 0 0, Value.int 0 0, Value.int 3 0, Value.ref 1393, Value.bool true, Value.int 181 0, Value.ref 1394, Value.none, Value.ref 1395, Value.ref 1396, Value.ref 1397, Value.int 1114 0, Value.int 76 0, Value.str (Str.ofString "/claim/cut.py") 1115] }
noncomputable def fo1402 : Obj := { cls := Value.type "tuple", data := Data.seq #[Value.str (Str.ofString "rlp") 1120, Value.str (Str.ofString "start") 1121, Value.str (Str.ofString "p") 1122, Value.str (Str.ofString "t") 1123, Value.str (Str.ofString "l") 1124, Value.str (Str.ofString "s") 1125] }
noncomputable def fo1405 : Obj := { cls := Value.type "code", data := Data.fields #[Value.str (Str.ofString "consume_item") 1117, Value.str (Str.ofString "consume_item") 1118, Value.str (Str.ofString "/claim/cut.py") 1119, Value.int 98 0, Value.int 2 0, Value.int 0 0, Value.int 0 0, Value.int 3 0, Value.ref 1400, Value.bool true, Value.int 181 0, Value.ref 1401, Value.none, Value.ref 1402, Value.ref 1403, Value.ref 1404, Value.int 1126 0, Value.int 98 0, Value.str (Str.ofString "/claim/cut.py") 1127] }
noncomputable def fo1409 : Obj := { cls := Value.type "tuple", data := Data.seq #[Value.str (Str.ofString "state") 1134, Value.str (Str.ofString "limit") 1135] }
noncomputable def fo1412 : Obj := { cls := Value.type "code", data := Data.fields #[Value.str (Str.ofString "_law_next") 1131, Value.str (Str.ofString "_law_next") 1132, Value.str (Str.ofString "/claim/cut.py") 1133, Value.int 102 0, Value.int 2 0, Value.int 0 0, Value.int 0 0, Value.int 3 0, Value.ref 1407, Value.bool true, Value.int 181 0, Value.ref 1408, Value.none, Value.ref 1409, Value.ref 1410, Value.ref 1411, Value.int 1136 0, Value.int 102 0, Value.str (Str.ofString "/claim/cut.py") 1137] }
noncomputable def fo1417 : Obj := { cls := Value.type "code", data := Data.fields #[Value.str (Str.ofString "_law_tree") 1139, Value.str (Str.ofString "_law_tree") 1140, Value.str (Str.ofString "/claim/cut.py") 1141, Value.int 107 0, Value.int 2 0, Value.int 0 0, Value.int 0 0, Value.int 3 0, Value.ref 1414, Value.bool true, Value.int 181 0, Value.ref 1415, Value.none, Value.none, Value.none, Value.ref 1416, Value.int 1142 0, Value.int 107 0, Value.str (Str.ofString "/claim/cut.py") 1143] }
noncomputable def fo1422 : Obj := { cls := Value.type "code", data := Data.fields #[Value.str (Str.ofString "_law_ways") 1145, Value.str (Str.ofString "_law_ways") 1146, Value.str (Str.ofString "/claim/cut.py") 1147, Value.int 115 0, Value.int 2 0, Value.int 0 0, Value.int 0 0, Value.int 3 0, Value.ref 1419, Value.bool true, Value.int 181 0, Value.ref 1420, Value.none, Value.none, Value.none, Value.ref 1421, Value.int 1148 0, Value.int 115 0, Value.str (Str.ofString "/claim/cut.py") 1149] }
noncomputable def fo1426 : Obj := { cls := Value.type "tuple", data := Data.seq #[Value.str (Str.ofString "tree") 1154, Value.str (Str.ofString "way") 1155, Value.str (Str.ofString "part") 1156, Value.str (Str.ofString "how") 1157, Value.str (Str.ofString "k") 1158] }
noncomputable def fo1429 : Obj := { cls := Value.type "code", data := Data.fields #[Value.str (Str.ofString "_law_edited") 1151, Value.str (Str.ofString "_law_edited") 1152, Value.str (Str.ofString "/claim/cut.py") 1153, Value.int 119 0, Value.int 4 0, Value.int 0 0, Value.int 0 0, Value.int 3 0, Value.ref 1424, Value.bool true, Value.int 181 0, Value.ref 1425, Value.none, Value.ref 1426, Value.ref 1427, Value.ref 1428, Value.int 1159 0, Value.int 119 0, Value.str (Str.ofString "/claim/cut.py") 1160] }
noncomputable def fo1433 : Obj := { cls := Value.type "tuple", data := Data.seq #[Value.str (Str.ofString "size") 1165, Value.str (Str.ofString "digits") 1166] }
noncomputable def fo1436 : Obj := { cls := Value.type "code", data := Data.fields #[Value.str (Str.ofString "_law_head") 1162, Value.str (Str.ofString "_law_head") 1163, Value.str (Str.ofString "/claim/cut.py") 1164, Value.int 126 0, Value.int 1 0, Value.int 0 0, Value.int 0 0, Value.int 3 0, Value.ref 1431, Value.bool true, Value.int 181 0, Value.ref 1432, Value.none, Value.ref 1433, Value.ref 1434, Value.ref 1435, Value.int 1167 0, Value.int 126 0, Value.str (Str.ofString "/claim/cut.py") 1168] }
noncomputable def fo1440 : Obj := { cls := Value.type "tuple", data := Data.seq #[Value.str (Str.ofString "octets") 1173, Value.str (Str.ofString "way") 1174, Value.str (Str.ofString "part") 1175, Value.str (Str.ofString "how") 1176, Value.str (Str.ofString "head") 1177, Value.str (Str.ofString "kind") 1178, Value.str (Str.ofString "size") 1179, Value.str (Str.ofString "begin") 1180, Value.str (Str.ofString "place") 1181, Value.str (Str.ofString "k") 1182, Value.str (Str.ofString "end") 1183, Value.str (Str.ofString "old") 1184, Value.str (Str.ofString "fresh") 1185, Value.str (Str.ofString "inner") 1186] }
noncomputable def fo1443 : Obj := { cls := Value.type "code", data := Data.fields #[Value.str (Str.ofString "_law_spliced") 1170, Value.str (Str.ofString "_law_spliced") 1171, Value.str (Str.ofString "/claim/cut.py") 1172, Value.int 134 0, Value.int 4 0, Value.int 0 0, Value.int 0 0, Value.int 3 0, Value.ref 1438, Value.bool true, Value.int 181 0, Value.ref 1439, Value.none, Value.ref 1440, Value.ref 1441, Value.ref 1442, Value.int 1187 0, Value.int 134 0, Value.str (Str.ofString "/claim/cut.py") 1188] }
noncomputable def fo1448 : Obj := { cls := Value.type "code", data := Data.fields #[Value.str (Str.ofString "_law_pieces") 1190, Value.str (Str.ofString "_law_pieces") 1191, Value.str (Str.ofString "/claim/cut.py") 1192, Value.int 149 0, Value.int 1 0, Value.int 0 0, Value.int 0 0, Value.int 3 0, Value.ref 1445, Value.bool true, Value.int 181 0, Value.ref 1446, Value.none, Value.none, Value.none, Value.ref 1447, Value.int 1193 0, Value.int 149 0, Value.str (Str.ofString "/claim/cut.py") 1194] }
noncomputable def fo1453 : Obj := { cls := Value.type "code", data := Data.fields #[Value.str (Str.ofString "law") 1196, Value.str (Str.ofString "law") 1197, Value.str (Str.ofString "/claim/cut.py") 1198, Value.int 153 0, Value.int 1 0, Value.int 0 0, Value.int 0 0, Value.int 3 0, Value.ref 1450, Value.bool true, Value.int 181 0, Value.ref 1451, Value.none, Value.none, Value.none, Value.ref 1452, Value.int 1199 0, Value.int 153 0, Value.str (Str.ofString "/claim/cut.py") 1200] }
noncomputable def trG (P : Params) : BT := (nd (boot_o_0 P) (nd (boot_o_1 P) (nd (fo3 P) (nd (boot_o_7 P) (nd (sh.o_8 P) (nd (sh.o_28 P) (nd (sh.o_64 P) (nd od (nd ob (nd (oc 87) (nd (oe 189) nl nl) nl) (nd od (nd (oa 241) nl nl) nl)) (nd (oe 61) (nd (oa 113) (nd (oc 215) nl nl) nl) (nd ob (nd od nl nl) nl))) (nd (oc 23) (nd (oa 49) (nd ob (nd od nl nl) nl) (nd (oc 151) (nd (oe 253) nl nl) nl)) (nd od (nd (oe 125) (nd ob nl nl) nl) (nd (oa 177) nl nl)))) (nd ob (nd (oa 17) (nd od (nd (oe 93) (nd ob nl nl) nl) (nd (oa 145) (nd (oc 247) nl nl) nl)) (nd ob (nd (oc 119) (nd (oe 221) nl nl) nl) (nd od (nd foE nl nl) nl))) (nd (oe 29) (nd (oc 55) (nd od (nd (oa 209) nl nl) nl) (nd (oe 157) (nd od nl nl) nl)) (nd (oa 81) (nd ob (nd od nl nl) nl) (nd (oc 183) nl nl))))) (nd (sh.o_44 P) (nd (oa 1) (nd (oe 13) (nd (oc 39) (nd od (nd (oa 193) nl nl) nl) (nd (oe 141) (nd ob nl nl) nl)) (nd (oa 65) (nd ob (nd od nl nl) nl) (nd (oc 167) (nd (foF 19 "law_fb0045_01" 1129 1422) nl nl) nl))) (nd od (nd ob (nd (oc 103) (nd (oe 205) nl nl) nl) (nd od (nd foE nl nl) nl)) (nd (oe 77) (nd (oa 129) (nd (oc 231) nl nl) nl) (nd ob nl nl)))) (nd (oc 7) (nd ob (nd (oe 45) (nd (oa 97) (nd (oc 199) nl nl) nl) (nd ob (nd od nl nl) nl)) (nd (oc 71) (nd od (nd (oa 225) nl nl) nl) (nd (oe 173) nl nl))) (nd (oa 33) (nd od (nd (oe 109) (nd ob nl nl) nl) (nd (oa 161) (nd fo1391 nl nl) nl)) (nd ob (nd (oc 135) (nd (oe 237) nl nl) nl) (nd od nl nl)))))) (nd (sh.o_16 P) (nd (sh.o_36 P) (nd (oIt 256) (nd ob (nd (oe 37) (nd (oa 89) (nd (oc 191) nl nl) nl) (nd ob (nd od nl nl) nl)) (nd (oc 63) (nd od (nd (oa 217) nl nl) nl) (nd (oe 165) (nd foE nl nl) nl))) (nd (oa 25) (nd od (nd (oe 101) (nd ob nl nl) nl) (nd (oa 153) (nd (oc 255) nl nl) nl)) (nd ob (nd (oc 127) (nd (oe 229) nl nl) nl) (nd od nl nl)))) (nd (oe 5) (nd od (nd ob (nd (oc 95) (nd (oe 197) nl nl) nl) (nd od (nd (oa 249) nl nl) nl)) (nd (oe 69) (nd (oa 121) (nd (oc 223) nl nl) nl) (nd ob (nd (foT 23) nl nl) nl))) (nd (oc 31) (nd (oa 57) (nd ob (nd od nl nl) nl) (nd (oc 159) (nd (foT 11) nl nl) nl)) (nd od (nd (oe 133) (nd ob nl nl) nl) (nd (oa 185) nl nl))))) (nd (sh.o_56 P) (nd od (nd (oc 15) (nd (oa 41) (nd ob (nd od nl nl) nl) (nd (oc 143) (nd (oe 245) nl nl) nl)) (nd od (nd (oe 117) (nd ob nl nl) nl) (nd (oa 169) (nd od nl nl) nl))) (nd ob (nd (oe 53) (nd (oa 105) (nd (oc 207) nl nl) nl) (nd ob (nd fo1367 nl nl) nl)) (nd (oc 79) (nd od (nd (oa 233) nl nl) nl) (nd (oe 181) nl nl)))) (nd (oa 9) (nd (oe 21) (nd (oc 47) (nd od (nd (oa 201) nl nl) nl) (nd (oe 149) (nd ob nl nl) nl)) (nd (oa 73) (nd ob (nd od nl nl) nl) (nd (oc 175) nl nl))) (nd od (nd ob (nd (oc 111) (nd (oe 213) nl nl) nl) (nd od (nd (foF 14 "rlp.codec" 1053 1398) nl nl) nl)) (nd (oe 85) (nd (oa 137) (nd (oc 239) nl nl) nl) (nd ob nl nl))))))) (nd (sh.o_1 P) (nd (sh.o_12 P) (nd (sh.o_32 P) (nd (sh.o_68 P) (nd (oc 11) (nd (oa 37) (nd ob (nd od nl nl) nl) (nd (oc 139) (nd (oe 241) nl nl) nl)) (nd od (nd (oe 113) (nd ob nl nl) nl) (nd (oa 165) (nd (foT 17) nl nl) nl))) (nd ob (nd (oe 49) (nd (oa 101) (nd (oc 203) nl nl) nl) (nd ob (nd od nl nl) nl)) (nd (oc 75) (nd od (nd (oa 229) nl nl) nl) (nd (oe 177) nl nl)))) (nd (oa 5) (nd (oe 17) (nd (oc 43) (nd od (nd (oa 197) nl nl) nl) (nd (oe 145) (nd ob nl nl) nl)) (nd (oa 69) (nd ob (nd od nl nl) nl) (nd (oc 171) (nd fo1443 nl nl) nl))) (nd od (nd ob (nd (oc 107) (nd (oe 209) nl nl) nl) (nd od (nd od nl nl) nl)) (nd (oe 81) (nd (oa 133) (nd (oc 235) nl nl) nl) (nd ob nl nl))))) (nd (sh.o_52 P) (nd (oe 1) (nd od (nd ob (nd (oc 91) (nd (oe 193) nl nl) nl) (nd od (nd (oa 245) nl nl) nl)) (nd (oe 65) (nd (oa 117) (nd (oc 219) nl nl) nl) (nd ob (nd od nl nl) nl))) (nd (oc 27) (nd (oa 53) (nd ob (nd od nl nl) nl) (nd (oc 155) (nd fo1363 nl nl) nl)) (nd od (nd (oe 129) (nd ob nl nl) nl) (nd (oa 181) nl nl)))) (nd ob (nd (oa 21) (nd od (nd (oe 97) (nd ob nl nl) nl) (nd (oa 149) (nd (oc 251) nl nl) nl)) (nd ob (nd (oc 123) (nd (oe 225) nl nl) nl) (nd od nl nl))) (nd (oe 33) (nd (oc 59) (nd od (nd (oa 213) nl nl) nl) (nd (oe 161) (nd fo1395 nl nl) nl)) (nd (oa 85) (nd ob (nd od nl nl) nl) (nd (oc 187) nl nl)))))) (nd (sh.o_20 P) (nd (sh.o_40 P) (nd ob (nd (oa 13) (nd od (nd (oe 89) (nd ob nl nl) nl) (nd (oa 141) (nd (oc 243) nl nl) nl)) (nd ob (nd (oc 115) (nd (oe 217) nl nl) nl) (nd od (nd od nl nl) nl))) (nd (oe 25) (nd (oc 51) (nd od (nd (oa 205) nl nl) nl) (nd (oe 153) (nd oez nl nl) nl)) (nd (oa 77) (nd ob (nd od nl nl) nl) (nd (oc 179) nl nl)))) (nd od (nd (oc 19) (nd (oa 45) (nd ob (nd od nl nl) nl) (nd (oc 147) (nd (oe 249) nl nl) nl)) (nd od (nd (oe 121) (nd ob nl nl) nl) (nd (oa 173) (nd foE nl nl) nl))) (nd ob (nd (oe 57) (nd (oa 109) (nd (oc 211) nl nl) nl) (nd ob (nd foE nl nl) nl)) (nd (oc 83) (nd od (nd (oa 237) nl nl) nl) (nd (oe 185) nl nl))))) (nd (sh.o_60 P) (nd (oc 3) (nd ob (nd (oe 41) (nd (oa 93) (nd (oc 195) nl nl) nl) (nd ob (nd od nl nl) nl)) (nd (oc 67) (nd od (nd (oa 221) nl nl) nl) (nd (oe 169) (nd (foT 21) nl nl) nl))) (nd (oa 29) (nd od (nd (oe 105) (nd ob nl nl) nl) (nd (oa 157) (nd (foF 7 "rlp.utils" 265 1370) nl nl) nl)) (nd ob (nd (oc 131) (nd (oe 233) nl nl) nl) (nd od nl nl)))) (nd (oe 9) (nd od (nd ob (nd (oc 99) (nd (oe 201) nl nl) nl) (nd od (nd (oa 253) nl nl) nl)) (nd (oe 73) (nd (oa 125) (nd (oc 227) nl nl) nl) (nd ob nl nl))) (nd (oc 35) (nd (oa 61) (nd ob (nd od nl nl) nl) (nd (oc 163) (nd od nl nl) nl)) (nd od (nd (oe 137) (nd ob nl nl) nl) (nd (oa 189) nl nl)))))))) (nd (boot_o_5 P) (nd (boot_o_9 P) (nd (sh.o_10 P) (nd (sh.o_30 P) (nd (sh.o_66 P) (nd (oa 11) (nd od (nd (oe 87) (nd ob nl nl) nl) (nd (oa 139) (nd (oc 241) nl nl) nl)) (nd ob (nd (oc 113) (nd (oe 215) nl nl) nl) (nd od (nd fo1409 nl nl) nl))) (nd (oe 23) (nd (oc 49) (nd od (nd (oa 203) nl nl) nl) (nd (oe 151) (nd ob nl nl) nl)) (nd (oa 75) (nd ob (nd od nl nl) nl) (nd (oc 177) nl nl)))) (nd od (nd (oc 17) (nd (oa 43) (nd ob (nd od nl nl) nl) (nd (oc 145) (nd (oe 247) nl nl) nl)) (nd od (nd (oe 119) (nd ob nl nl) nl) (nd (oa 171) (nd od nl nl) nl))) (nd ob (nd (oe 55) (nd (oa 107) (nd (oc 209) nl nl) nl) (nd ob (nd fo1377 nl nl) nl)) (nd (oc 81) (nd od (nd (oa 235) nl nl) nl) (nd (oe 183) nl nl))))) (nd (sh.o_50 P) (nd (oc 1) (nd ob (nd (oe 39) (nd (oa 91) (nd (oc 193) nl nl) nl) (nd ob (nd od nl nl) nl)) (nd (oc 65) (nd od (nd (oa 219) nl nl) nl) (nd (oe 167) (nd foE nl nl) nl))) (nd (oa 27) (nd od (nd (oe 103) (nd ob nl nl) nl) (nd (oa 155) (nd od nl nl) nl)) (nd ob (nd (oc 129) (nd (oe 231) nl nl) nl) (nd od nl nl)))) (nd (oe 7) (nd od (nd ob (nd (oc 97) (nd (oe 199) nl nl) nl) (nd od (nd (oa 251) nl nl) nl)) (nd (oe 71) (nd (oa 123) (nd (oc 225) nl nl) nl) (nd ob nl nl))) (nd (oc 33) (nd (oa 59) (nd ob (nd od nl nl) nl) (nd (oc 161) (nd od nl nl) nl)) (nd od (nd (oe 135) (nd ob nl nl) nl) (nd (oa 187) nl nl)))))) (nd (sh.o_18 P) (nd (sh.o_38 P) (nd oDz (nd od (nd ob (nd (oc 89) (nd (oe 191) nl nl) nl) (nd od (nd (oa 243) nl nl) nl)) (nd (oe 63) (nd (oa 115) (nd (oc 217) nl nl) nl) (nd ob (nd fo1417 nl nl) nl))) (nd (oc 25) (nd (oa 51) (nd ob (nd od nl nl) nl) (nd (oc 153) (nd (oe 255) nl nl) nl)) (nd od (nd (oe 127) (nd ob nl nl) nl) (nd (oa 179) nl nl)))) (nd ob (nd (oa 19) (nd od (nd (oe 95) (nd ob nl nl) nl) (nd (oa 147) (nd (oc 249) nl nl) nl)) (nd ob (nd (oc 121) (nd (oe 223) nl nl) nl) (nd od (nd (foF 23 "law_fb0045_01" 1129 1448) nl nl) nl))) (nd (oe 31) (nd (oc 57) (nd od (nd (oa 211) nl nl) nl) (nd (oe 159) (nd (foF 11 "rlp.codec" 1053 1384) nl nl) nl)) (nd (oa 83) (nd ob (nd od nl nl) nl) (nd (oc 185) nl nl))))) (nd (sh.o_58 P) (nd (oa 3) (nd (oe 15) (nd (oc 41) (nd od (nd (oa 195) nl nl) nl) (nd (oe 143) (nd ob nl nl) nl)) (nd (oa 67) (nd ob (nd od nl nl) nl) (nd (oc 169) (nd fo1433 nl nl) nl))) (nd od (nd ob (nd (oc 105) (nd (oe 207) nl nl) nl) (nd od (nd (foT 7) nl nl) nl)) (nd (oe 79) (nd (oa 131) (nd (oc 233) nl nl) nl) (nd ob nl nl)))) (nd (oc 9) (nd ob (nd (oe 47) (nd (oa 99) (nd (oc 201) nl nl) nl) (nd ob (nd od nl nl) nl)) (nd (oc 73) (nd od (nd (oa 227) nl nl) nl) (nd (oe 175) nl nl))) (nd (oa 35) (nd od (nd (oe 111) (nd ob nl nl) nl) (nd (oa 163) (nd foE nl nl) nl)) (nd ob (nd (oc 137) (nd (oe 239) nl nl) nl) (nd od nl nl))))))) (nd (sh.o_3 P) (nd (sh.o_14 P) (nd (sh.o_34 P) (nd (sh.o_70 P) (nd (oe 11) (nd (oc 37) (nd od (nd (oa 191) nl nl) nl) (nd (oe 139) (nd ob nl nl) nl)) (nd (oa 63) (nd ob (nd od nl nl) nl) (nd (oc 165) (nd (foF 17 "law_fb0045_01" 1129 1412) nl nl) nl))) (nd od (nd ob (nd (oc 101) (nd (oe 203) nl nl) nl) (nd od (nd (oa 255) nl nl) nl)) (nd (oe 75) (nd (oa 127) (nd (oc 229) nl nl) nl) (nd ob nl nl)))) (nd (oc 5) (nd ob (nd (oe 43) (nd (oa 95) (nd (oc 197) nl nl) nl) (nd ob (nd od nl nl) nl)) (nd (oc 69) (nd od (nd (oa 223) nl nl) nl) (nd (oe 171) (nd od nl nl) nl))) (nd (oa 31) (nd od (nd (oe 107) (nd ob nl nl) nl) (nd (oa 159) (nd fo1381 nl nl) nl)) (nd ob (nd (oc 133) (nd (oe 235) nl nl) nl) (nd od nl nl))))) (nd (sh.o_54 P) (nd ob (nd (oa 15) (nd od (nd (oe 91) (nd ob nl nl) nl) (nd (oa 143) (nd (oc 245) nl nl) nl)) (nd ob (nd (oc 117) (nd (oe 219) nl nl) nl) (nd od (nd fo1429 nl nl) nl))) (nd (oe 27) (nd (oc 53) (nd od (nd (oa 207) nl nl) nl) (nd (oe 155) (nd od nl nl) nl)) (nd (oa 79) (nd ob (nd od nl nl) nl) (nd (oc 181) nl nl)))) (nd od (nd (oc 21) (nd (oa 47) (nd ob (nd od nl nl) nl) (nd (oc 149) (nd (oe 251) nl nl) nl)) (nd od (nd (oe 123) (nd ob nl nl) nl) (nd (oa 175) nl nl))) (nd ob (nd (oe 59) (nd (oa 111) (nd (oc 213) nl nl) nl) (nd ob (nd (foT 14) nl nl) nl)) (nd (oc 85) (nd od (nd (oa 239) nl nl) nl) (nd (oe 187) nl nl)))))) (nd (sh.o_26 P) (nd (sh.o_42 P) (nd od (nd (oc 13) (nd (oa 39) (nd ob (nd od nl nl) nl) (nd (oc 141) (nd (oe 243) nl nl) nl)) (nd od (nd (oe 115) (nd ob nl nl) nl) (nd (oa 167) (nd (foT 19) nl nl) nl))) (nd ob (nd (oe 51) (nd (oa 103) (nd (oc 205) nl nl) nl) (nd ob (nd oTu nl nl) nl)) (nd (oc 77) (nd od (nd (oa 231) nl nl) nl) (nd (oe 179) nl nl)))) (nd (oa 7) (nd (oe 19) (nd (oc 45) (nd od (nd (oa 199) nl nl) nl) (nd (oe 147) (nd ob nl nl) nl)) (nd (oa 71) (nd ob (nd od nl nl) nl) (nd (oc 173) (nd fo1453 nl nl) nl))) (nd od (nd ob (nd (oc 109) (nd (oe 211) nl nl) nl) (nd od (nd od nl nl) nl)) (nd (oe 83) (nd (oa 135) (nd (oc 237) nl nl) nl) (nd ob nl nl))))) (nd (sh.o_62 P) (nd (oe 3) (nd od (nd ob (nd (oc 93) (nd (oe 195) nl nl) nl) (nd od (nd (oa 247) nl nl) nl)) (nd (oe 67) (nd (oa 119) (nd (oc 221) nl nl) nl) (nd ob (nd (foF 21 "law_fb0045_01" 1129 1436) nl nl) nl))) (nd (oc 29) (nd (oa 55) (nd ob (nd od nl nl) nl) (nd (oc 157) (nd foE nl nl) nl)) (nd od (nd (oe 131) (nd ob nl nl) nl) (nd (oa 183) nl nl)))) (nd ob (nd (oa 23) (nd od (nd (oe 99) (nd ob nl nl) nl) (nd (oa 151) (nd (oc 253) nl nl) nl)) (nd ob (nd (oc 125) (nd (oe 227) nl nl) nl) (nd od nl nl))) (nd (oe 35) (nd (oc 61) (nd od (nd (oa 215) nl nl) nl) (nd (oe 163) (nd fo1405 nl nl) nl)) (nd (oa 87) (nd ob (nd od nl nl) nl) (nd (oc 189) nl nl))))))))) (nd (sh.o_5 P) (nd (boot_o_4 P) (nd (boot_o_8 P) (nd (sh.o_9 P) (nd (sh.o_29 P) (nd (sh.o_65 P) (nd (oe 10) (nd (oc 36) (nd od (nd (oa 190) nl nl) nl) (nd (oe 138) (nd ob nl nl) nl)) (nd (oa 62) (nd ob (nd od nl nl) nl) (nd (oc 164) (nd foE nl nl) nl))) (nd od (nd ob (nd (oc 100) (nd (oe 202) nl nl) nl) (nd od (nd (oa 254) nl nl) nl)) (nd (oe 74) (nd (oa 126) (nd (oc 228) nl nl) nl) (nd ob nl nl)))) (nd (oc 4) (nd ob (nd (oe 42) (nd (oa 94) (nd (oc 196) nl nl) nl) (nd ob (nd od nl nl) nl)) (nd (oc 68) (nd od (nd (oa 222) nl nl) nl) (nd (oe 170) (nd fo1440 nl nl) nl))) (nd (oa 30) (nd od (nd (oe 106) (nd ob nl nl) nl) (nd (oa 158) (nd (foT 9) nl nl) nl)) (nd ob (nd (oc 132) (nd (oe 234) nl nl) nl) (nd od nl nl))))) (nd (sh.o_45 P) (nd ob (nd (oa 14) (nd od (nd (oe 90) (nd ob nl nl) nl) (nd (oa 142) (nd (oc 244) nl nl) nl)) (nd ob (nd (oc 116) (nd (oe 218) nl nl) nl) (nd od (nd od nl nl) nl))) (nd (oe 26) (nd (oc 52) (nd od (nd (oa 206) nl nl) nl) (nd (oe 154) (nd fo1360 nl nl) nl)) (nd (oa 78) (nd ob (nd od nl nl) nl) (nd (oc 180) nl nl)))) (nd od (nd (oc 20) (nd (oa 46) (nd ob (nd od nl nl) nl) (nd (oc 148) (nd (oe 250) nl nl) nl)) (nd od (nd (oe 122) (nd ob nl nl) nl) (nd (oa 174) nl nl))) (nd ob (nd (oe 58) (nd (oa 110) (nd (oc 212) nl nl) nl) (nd ob (nd (foF 13 "rlp.codec" 1053 1391) nl nl) nl)) (nd (oc 84) (nd od (nd (oa 238) nl nl) nl) (nd (oe 186) nl nl)))))) (nd (sh.o_49 P) (nd (sh.o_37 P) (nd (oLs 256) (nd (oc 12) (nd (oa 38) (nd ob (nd od nl nl) nl) (nd (oc 140) (nd (oe 242) nl nl) nl)) (nd od (nd (oe 114) (nd ob nl nl) nl) (nd (oa 166) (nd (foT 18) nl nl) nl))) (nd ob (nd (oe 50) (nd (oa 102) (nd (oc 204) nl nl) nl) (nd ob (nd od nl nl) nl)) (nd (oc 76) (nd od (nd (oa 230) nl nl) nl) (nd (oe 178) nl nl)))) (nd (oa 6) (nd (oe 18) (nd (oc 44) (nd od (nd (oa 198) nl nl) nl) (nd (oe 146) (nd ob nl nl) nl)) (nd (oa 70) (nd ob (nd od nl nl) nl) (nd (oc 172) (nd fo1448 nl nl) nl))) (nd od (nd ob (nd (oc 108) (nd (oe 210) nl nl) nl) (nd od (nd fo1384 nl nl) nl)) (nd (oe 82) (nd (oa 134) (nd (oc 236) nl nl) nl) (nd ob nl nl))))) (nd (sh.o_57 P) (nd (oe 2) (nd od (nd ob (nd (oc 92) (nd (oe 194) nl nl) nl) (nd od (nd (oa 246) nl nl) nl)) (nd (oe 66) (nd (oa 118) (nd (oc 220) nl nl) nl) (nd ob (nd foE nl nl) nl))) (nd (oc 28) (nd (oa 54) (nd ob (nd od nl nl) nl) (nd (oc 156) (nd od nl nl) nl)) (nd od (nd (oe 130) (nd ob nl nl) nl) (nd (oa 182) nl nl)))) (nd ob (nd (oa 22) (nd od (nd (oe 98) (nd ob nl nl) nl) (nd (oa 150) (nd (oc 252) nl nl) nl)) (nd ob (nd (oc 124) (nd (oe 226) nl nl) nl) (nd od nl nl))) (nd (oe 34) (nd (oc 60) (nd od (nd (oa 214) nl nl) nl) (nd (oe 162) (nd od nl nl) nl)) (nd (oa 86) (nd ob (nd od nl nl) nl) (nd (oc 188) nl nl))))))) (nd fo12 (nd (sh.o_13 P) (nd (sh.o_33 P) (nd (sh.o_69 P) (nd od (nd ob (nd (oc 88) (nd (oe 190) nl nl) nl) (nd od (nd (oa 242) nl nl) nl)) (nd (oe 62) (nd (oa 114) (nd (oc 216) nl nl) nl) (nd ob (nd fo1412 nl nl) nl))) (nd (oc 24) (nd (oa 50) (nd ob (nd od nl nl) nl) (nd (oc 152) (nd (oe 254) nl nl) nl)) (nd od (nd (oe 126) (nd ob nl nl) nl) (nd (oa 178) nl nl)))) (nd ob (nd (oa 18) (nd od (nd (oe 94) (nd ob nl nl) nl) (nd (oa 146) (nd (oc 248) nl nl) nl)) (nd ob (nd (oc 120) (nd (oe 222) nl nl) nl) (nd od (nd (foF 22 "law_fb0045_01" 1129 1443) nl nl) nl))) (nd (oe 30) (nd (oc 56) (nd od (nd (oa 210) nl nl) nl) (nd (oe 158) (nd foE nl nl) nl)) (nd (oa 82) (nd ob (nd od nl nl) nl) (nd (oc 184) nl nl))))) (nd (sh.o_53 P) (nd (oa 2) (nd (oe 14) (nd (oc 40) (nd od (nd (oa 194) nl nl) nl) (nd (oe 142) (nd ob nl nl) nl)) (nd (oa 66) (nd ob (nd od nl nl) nl) (nd (oc 168) (nd (foT 20) nl nl) nl))) (nd od (nd ob (nd (oc 104) (nd (oe 206) nl nl) nl) (nd od (nd (foF 6 "rlp.utils" 265 1363) nl nl) nl)) (nd (oe 78) (nd (oa 130) (nd (oc 232) nl nl) nl) (nd ob nl nl)))) (nd (oc 8) (nd ob (nd (oe 46) (nd (oa 98) (nd (oc 200) nl nl) nl) (nd ob (nd od nl nl) nl)) (nd (oc 72) (nd od (nd (oa 226) nl nl) nl) (nd (oe 174) nl nl))) (nd (oa 34) (nd od (nd (oe 110) (nd ob nl nl) nl) (nd (oa 162) (nd od nl nl) nl)) (nd ob (nd (oc 136) (nd (oe 238) nl nl) nl) (nd od nl nl)))))) (nd (sh.o_25 P) (nd (sh.o_41 P) (nd (oc 0) (nd ob (nd (oe 38) (nd (oa 90) (nd (oc 192) nl nl) nl) (nd ob (nd od nl nl) nl)) (nd (oc 64) (nd od (nd (oa 218) nl nl) nl) (nd (oe 166) (nd foE nl nl) nl))) (nd (oa 26) (nd od (nd (oe 102) (nd ob nl nl) nl) (nd (oa 154) (nd oLt nl nl) nl)) (nd ob (nd (oc 128) (nd (oe 230) nl nl) nl) (nd od nl nl)))) (nd (oe 6) (nd od (nd ob (nd (oc 96) (nd (oe 198) nl nl) nl) (nd od (nd (oa 250) nl nl) nl)) (nd (oe 70) (nd (oa 122) (nd (oc 224) nl nl) nl) (nd ob (nd (foT 24) nl nl) nl))) (nd (oc 32) (nd (oa 58) (nd ob (nd od nl nl) nl) (nd (oc 160) (nd fo1388 nl nl) nl)) (nd od (nd (oe 134) (nd ob nl nl) nl) (nd (oa 186) nl nl))))) (nd (sh.o_61 P) (nd od (nd (oc 16) (nd (oa 42) (nd ob (nd od nl nl) nl) (nd (oc 144) (nd (oe 246) nl nl) nl)) (nd od (nd (oe 118) (nd ob nl nl) nl) (nd (oa 170) (nd fo1436 nl nl) nl))) (nd ob (nd (oe 54) (nd (oa 106) (nd (oc 208) nl nl) nl) (nd ob (nd od nl nl) nl)) (nd (oc 80) (nd od (nd (oa 234) nl nl) nl) (nd (oe 182) nl nl)))) (nd (oa 10) (nd (oe 22) (nd (oc 48) (nd od (nd (oa 202) nl nl) nl) (nd (oe 150) (nd ob nl nl) nl)) (nd (oa 74) (nd ob (nd od nl nl) nl) (nd (oc 176) nl nl))) (nd od (nd ob (nd (oc 112) (nd (oe 214) nl nl) nl) (nd od (nd (foT 15) nl nl) nl)) (nd (oe 86) (nd (oa 138) (nd (oc 240) nl nl) nl) (nd ob nl nl)))))))) (nd (boot_o_6 P) (nd (boot_o_10 P) (nd (sh.o_11 P) (nd (sh.o_31 P) (nd (sh.o_67 P) (nd ob (nd (oe 36) (nd (oa 88) (nd (oc 190) nl nl) nl) (nd ob (nd od nl nl) nl)) (nd (oc 62) (nd od (nd (oa 216) nl nl) nl) (nd (oe 164) (nd od nl nl) nl))) (nd (oa 24) (nd od (nd (oe 100) (nd ob nl nl) nl) (nd (oa 152) (nd (oc 254) nl nl) nl)) (nd ob (nd (oc 126) (nd (oe 228) nl nl) nl) (nd od nl nl)))) (nd (oe 4) (nd od (nd ob (nd (oc 94) (nd (oe 196) nl nl) nl) (nd od (nd (oa 248) nl nl) nl)) (nd (oe 68) (nd (oa 120) (nd (oc 222) nl nl) nl) (nd ob (nd (foT 22) nl nl) nl))) (nd (oc 30) (nd (oa 56) (nd ob (nd od nl nl) nl) (nd (oc 158) (nd (foF 9 "rlp.codec" 1053 1377) nl nl) nl)) (nd od (nd (oe 132) (nd ob nl nl) nl) (nd (oa 184) nl nl))))) (nd (sh.o_51 P) (nd od (nd (oc 14) (nd (oa 40) (nd ob (nd od nl nl) nl) (nd (oc 142) (nd (oe 244) nl nl) nl)) (nd od (nd (oe 116) (nd ob nl nl) nl) (nd (oa 168) (nd fo1426 nl nl) nl))) (nd ob (nd (oe 52) (nd (oa 104) (nd (oc 206) nl nl) nl) (nd ob (nd (foT 6) nl nl) nl)) (nd (oc 78) (nd od (nd (oa 232) nl nl) nl) (nd (oe 180) nl nl)))) (nd (oa 8) (nd (oe 20) (nd (oc 46) (nd od (nd (oa 200) nl nl) nl) (nd (oe 148) (nd ob nl nl) nl)) (nd (oa 72) (nd ob (nd od nl nl) nl) (nd (oc 174) nl nl))) (nd od (nd ob (nd (oc 110) (nd (oe 212) nl nl) nl) (nd od (nd foE nl nl) nl)) (nd (oe 84) (nd (oa 136) (nd (oc 238) nl nl) nl) (nd ob nl nl)))))) (nd (sh.o_19 P) (nd (sh.o_39 P) (nd (oa 0) (nd (oe 12) (nd (oc 38) (nd od (nd (oa 192) nl nl) nl) (nd (oe 140) (nd ob nl nl) nl)) (nd (oa 64) (nd ob (nd od nl nl) nl) (nd (oc 166) (nd (foF 18 "law_fb0045_01" 1129 1417) nl nl) nl))) (nd od (nd ob (nd (oc 102) (nd (oe 204) nl nl) nl) (nd od (nd od nl nl) nl)) (nd (oe 76) (nd (oa 128) (nd (oc 230) nl nl) nl) (nd ob nl nl)))) (nd (oc 6) (nd ob (nd (oe 44) (nd (oa 96) (nd (oc 198) nl nl) nl) (nd ob (nd od nl nl) nl)) (nd (oc 70) (nd od (nd (oa 224) nl nl) nl) (nd (oe 172) (nd od nl nl) nl))) (nd (oa 32) (nd od (nd (oe 108) (nd ob nl nl) nl) (nd (oa 160) (nd od nl nl) nl)) (nd ob (nd (oc 134) (nd (oe 236) nl nl) nl) (nd od nl nl))))) (nd (sh.o_59 P) (nd ob (nd (oa 16) (nd od (nd (oe 92) (nd ob nl nl) nl) (nd (oa 144) (nd (oc 246) nl nl) nl)) (nd ob (nd (oc 118) (nd (oe 220) nl nl) nl) (nd od (nd od nl nl) nl))) (nd (oe 28) (nd (oc 54) (nd od (nd (oa 208) nl nl) nl) (nd (oe 156) (nd fo1370 nl nl) nl)) (nd (oa 80) (nd ob (nd od nl nl) nl) (nd (oc 182) nl nl)))) (nd od (nd (oc 22) (nd (oa 48) (nd ob (nd od nl nl) nl) (nd (oc 150) (nd (oe 252) nl nl) nl)) (nd od (nd (oe 124) (nd ob nl nl) nl) (nd (oa 176) nl nl))) (nd ob (nd (oe 60) (nd (oa 112) (nd (oc 214) nl nl) nl) (nd ob (nd fo1402 nl nl) nl)) (nd (oc 86) (nd od (nd (oa 240) nl nl) nl) (nd (oe 188) nl nl))))))) (nd (sh.o_4 P) (nd (sh.o_15 P) (nd (sh.o_35 P) (nd oR (nd (oa 12) (nd od (nd (oe 88) (nd ob nl nl) nl) (nd (oa 140) (nd (oc 242) nl nl) nl)) (nd ob (nd (oc 114) (nd (oe 216) nl nl) nl) (nd od (nd od nl nl) nl))) (nd (oe 24) (nd (oc 50) (nd od (nd (oa 204) nl nl) nl) (nd (oe 152) (nd ob nl nl) nl)) (nd (oa 76) (nd ob (nd od nl nl) nl) (nd (oc 178) nl nl)))) (nd od (nd (oc 18) (nd (oa 44) (nd ob (nd od nl nl) nl) (nd (oc 146) (nd (oe 248) nl nl) nl)) (nd od (nd (oe 120) (nd ob nl nl) nl) (nd (oa 172) (nd foE nl nl) nl))) (nd ob (nd (oe 56) (nd (oa 108) (nd (oc 210) nl nl) nl) (nd ob (nd od nl nl) nl)) (nd (oc 82) (nd od (nd (oa 236) nl nl) nl) (nd (oe 184) nl nl))))) (nd (sh.o_55 P) (nd (oc 2) (nd ob (nd (oe 40) (nd (oa 92) (nd (oc 194) nl nl) nl) (nd ob (nd od nl nl) nl)) (nd (oc 66) (nd od (nd (oa 220) nl nl) nl) (nd (oe 168) (nd (foF 20 "law_fb0045_01" 1129 1429) nl nl) nl))) (nd (oa 28) (nd od (nd (oe 104) (nd ob nl nl) nl) (nd (oa 156) (nd foE nl nl) nl)) (nd ob (nd (oc 130) (nd (oe 232) nl nl) nl) (nd od nl nl)))) (nd (oe 8) (nd od (nd ob (nd (oc 98) (nd (oe 200) nl nl) nl) (nd od (nd (oa 252) nl nl) nl)) (nd (oe 72) (nd (oa 124) (nd (oc 226) nl nl) nl) (nd ob nl nl))) (nd (oc 34) (nd (oa 60) (nd ob (nd od nl nl) nl) (nd (oc 162) (nd fo1398 nl nl) nl)) (nd od (nd (oe 136) (nd ob nl nl) nl) (nd (oa 188) nl nl)))))) (nd (sh.o_27 P) (nd (sh.o_43 P) (nd (oe 0) (nd od (nd ob (nd (oc 90) (nd (oe 192) nl nl) nl) (nd od (nd (oa 244) nl nl) nl)) (nd (oe 64) (nd (oa 116) (nd (oc 218) nl nl) nl) (nd ob (nd fo1422 nl nl) nl))) (nd (oc 26) (nd (oa 52) (nd ob (nd od nl nl) nl) (nd (oc 154) (nd od nl nl) nl)) (nd od (nd (oe 128) (nd ob nl nl) nl) (nd (oa 180) nl nl)))) (nd ob (nd (oa 20) (nd od (nd (oe 96) (nd ob nl nl) nl) (nd (oa 148) (nd (oc 250) nl nl) nl)) (nd ob (nd (oc 122) (nd (oe 224) nl nl) nl) (nd od (nd (foF 24 "law_fb0045_01" 1129 1453) nl nl) nl))) (nd (oe 32) (nd (oc 58) (nd od (nd (oa 212) nl nl) nl) (nd (oe 160) (nd (foT 13) nl nl) nl)) (nd (oa 84) (nd ob (nd od nl nl) nl) (nd (oc 186) nl nl))))) (nd (sh.o_63 P) (nd (oa 4) (nd (oe 16) (nd (oc 42) (nd od (nd (oa 196) nl nl) nl) (nd (oe 144) (nd ob nl nl) nl)) (nd (oa 68) (nd ob (nd od nl nl) nl) (nd (oc 170) (nd od nl nl) nl))) (nd od (nd ob (nd (oc 106) (nd (oe 208) nl nl) nl) (nd od (nd fo1374 nl nl) nl)) (nd (oe 80) (nd (oa 132) (nd (oc 234) nl nl) nl) (nd ob nl nl)))) (nd (oc 10) (nd ob (nd (oe 48) (nd (oa 100) (nd (oc 202) nl nl) nl) (nd ob (nd od nl nl) nl)) (nd (oc 74) (nd od (nd (oa 228) nl nl) nl) (nd (oe 176) nl nl))) (nd (oa 36) (nd od (nd (oe 112) (nd ob nl nl) nl) (nd (oa 164) (nd (foF 15 "rlp.codec" 1053 1405) nl nl) nl)) (nd ob (nd (oc 138) (nd (oe 240) nl nl) nl) (nd od nl nl))))))))))
noncomputable def hl0 (P : Params) (r : List Obj) : List Obj := .cons (boot_o_0 P) <| .cons (boot_o_1 P) <| .cons (sh.o_5 P) <| .cons (fo3 P) <| .cons (boot_o_4 P) <| .cons (boot_o_5 P) <| .cons (boot_o_6 P) <| .cons (boot_o_7 P) <| .cons (boot_o_8 P) <| .cons (boot_o_9 P) <| .cons (boot_o_10 P) <| .cons (sh.o_1 P) <| .cons fo12 <| .cons (sh.o_3 P) <| .cons (sh.o_4 P) <| .cons (sh.o_8 P) <| .cons (sh.o_9 P) <| .cons (sh.o_10 P) <| .cons (sh.o_11 P) <| .cons (sh.o_12 P) <| .cons (sh.o_13 P) <| .cons (sh.o_14 P) <| .cons (sh.o_15 P) <| .cons (sh.o_16 P) <| .cons (sh.o_49 P) <| .cons (sh.o_18 P) <| .cons (sh.o_19 P) <| .cons (sh.o_20 P) <| .cons (sh.o_25 P) <| .cons (sh.o_26 P) <| .cons (sh.o_27 P) <| .cons (sh.o_28 P) <| .cons (sh.o_29 P) <| .cons (sh.o_30 P) <| .cons (sh.o_31 P) <| .cons (sh.o_32 P) <| .cons (sh.o_33 P) <| .cons (sh.o_34 P) <| .cons (sh.o_35 P) <| .cons (sh.o_36 P) <| .cons (sh.o_37 P) <| .cons (sh.o_38 P) <| .cons (sh.o_39 P) <| .cons (sh.o_40 P) <| .cons (sh.o_41 P) <| .cons (sh.o_42 P) <| .cons (sh.o_43 P) <| .cons (sh.o_44 P) <| .cons (sh.o_45 P) <| .cons (sh.o_50 P) <| .cons (sh.o_51 P) <| .cons (sh.o_52 P) <| .cons (sh.o_53 P) <| .cons (sh.o_54 P) <| .cons (sh.o_55 P) <| .cons (sh.o_56 P) <| .cons (sh.o_57 P) <| .cons (sh.o_58 P) <| .cons (sh.o_59 P) <| .cons (sh.o_60 P) <| .cons (sh.o_61 P) <| .cons (sh.o_62 P) <| .cons (sh.o_63 P) <| .cons (sh.o_64 P) r
noncomputable def hl64 (P : Params) (r : List Obj) : List Obj := .cons (sh.o_65 P) <| .cons (sh.o_66 P) <| .cons (sh.o_67 P) <| .cons (sh.o_68 P) <| .cons (sh.o_69 P) <| .cons (sh.o_70 P) <| .cons oR <| .cons (oIt 256) <| .cons (oLs 256) <| .cons oDz <| .cons (oa 0) <| .cons ob <| .cons (oc 0) <| .cons od <| .cons (oe 0) <| .cons (oa 1) <| .cons ob <| .cons (oc 1) <| .cons od <| .cons (oe 1) <| .cons (oa 2) <| .cons ob <| .cons (oc 2) <| .cons od <| .cons (oe 2) <| .cons (oa 3) <| .cons ob <| .cons (oc 3) <| .cons od <| .cons (oe 3) <| .cons (oa 4) <| .cons ob <| .cons (oc 4) <| .cons od <| .cons (oe 4) <| .cons (oa 5) <| .cons ob <| .cons (oc 5) <| .cons od <| .cons (oe 5) <| .cons (oa 6) <| .cons ob <| .cons (oc 6) <| .cons od <| .cons (oe 6) <| .cons (oa 7) <| .cons ob <| .cons (oc 7) <| .cons od <| .cons (oe 7) <| .cons (oa 8) <| .cons ob <| .cons (oc 8) <| .cons od <| .cons (oe 8) <| .cons (oa 9) <| .cons ob <| .cons (oc 9) <| .cons od <| .cons (oe 9) <| .cons (oa 10) <| .cons ob <| .cons (oc 10) <| .cons od r
noncomputable def hl128 (P : Params) (r : List Obj) : List Obj := .cons (oe 10) <| .cons (oa 11) <| .cons ob <| .cons (oc 11) <| .cons od <| .cons (oe 11) <| .cons (oa 12) <| .cons ob <| .cons (oc 12) <| .cons od <| .cons (oe 12) <| .cons (oa 13) <| .cons ob <| .cons (oc 13) <| .cons od <| .cons (oe 13) <| .cons (oa 14) <| .cons ob <| .cons (oc 14) <| .cons od <| .cons (oe 14) <| .cons (oa 15) <| .cons ob <| .cons (oc 15) <| .cons od <| .cons (oe 15) <| .cons (oa 16) <| .cons ob <| .cons (oc 16) <| .cons od <| .cons (oe 16) <| .cons (oa 17) <| .cons ob <| .cons (oc 17) <| .cons od <| .cons (oe 17) <| .cons (oa 18) <| .cons ob <| .cons (oc 18) <| .cons od <| .cons (oe 18) <| .cons (oa 19) <| .cons ob <| .cons (oc 19) <| .cons od <| .cons (oe 19) <| .cons (oa 20) <| .cons ob <| .cons (oc 20) <| .cons od <| .cons (oe 20) <| .cons (oa 21) <| .cons ob <| .cons (oc 21) <| .cons od <| .cons (oe 21) <| .cons (oa 22) <| .cons ob <| .cons (oc 22) <| .cons od <| .cons (oe 22) <| .cons (oa 23) <| .cons ob <| .cons (oc 23) r
noncomputable def hl192 (P : Params) (r : List Obj) : List Obj := .cons od <| .cons (oe 23) <| .cons (oa 24) <| .cons ob <| .cons (oc 24) <| .cons od <| .cons (oe 24) <| .cons (oa 25) <| .cons ob <| .cons (oc 25) <| .cons od <| .cons (oe 25) <| .cons (oa 26) <| .cons ob <| .cons (oc 26) <| .cons od <| .cons (oe 26) <| .cons (oa 27) <| .cons ob <| .cons (oc 27) <| .cons od <| .cons (oe 27) <| .cons (oa 28) <| .cons ob <| .cons (oc 28) <| .cons od <| .cons (oe 28) <| .cons (oa 29) <| .cons ob <| .cons (oc 29) <| .cons od <| .cons (oe 29) <| .cons (oa 30) <| .cons ob <| .cons (oc 30) <| .cons od <| .cons (oe 30) <| .cons (oa 31) <| .cons ob <| .cons (oc 31) <| .cons od <| .cons (oe 31) <| .cons (oa 32) <| .cons ob <| .cons (oc 32) <| .cons od <| .cons (oe 32) <| .cons (oa 33) <| .cons ob <| .cons (oc 33) <| .cons od <| .cons (oe 33) <| .cons (oa 34) <| .cons ob <| .cons (oc 34) <| .cons od <| .cons (oe 34) <| .cons (oa 35) <| .cons ob <| .cons (oc 35) <| .cons od <| .cons (oe 35) <| .cons (oa 36) <| .cons ob r
noncomputable def hl256 (P : Params) (r : List Obj) : List Obj := .cons (oc 36) <| .cons od <| .cons (oe 36) <| .cons (oa 37) <| .cons ob <| .cons (oc 37) <| .cons od <| .cons (oe 37) <| .cons (oa 38) <| .cons ob <| .cons (oc 38) <| .cons od <| .cons (oe 38) <| .cons (oa 39) <| .cons ob <| .cons (oc 39) <| .cons od <| .cons (oe 39) <| .cons (oa 40) <| .cons ob <| .cons (oc 40) <| .cons od <| .cons (oe 40) <| .cons (oa 41) <| .cons ob <| .cons (oc 41) <| .cons od <| .cons (oe 41) <| .cons (oa 42) <| .cons ob <| .cons (oc 42) <| .cons od <| .cons (oe 42) <| .cons (oa 43) <| .cons ob <| .cons (oc 43) <| .cons od <| .cons (oe 43) <| .cons (oa 44) <| .cons ob <| .cons (oc 44) <| .cons od <| .cons (oe 44) <| .cons (oa 45) <| .cons ob <| .cons (oc 45) <| .cons od <| .cons (oe 45) <| .cons (oa 46) <| .cons ob <| .cons (oc 46) <| .cons od <| .cons (oe 46) <| .cons (oa 47) <| .cons ob <| .cons (oc 47) <| .cons od <| .cons (oe 47) <| .cons (oa 48) <| .cons ob <| .cons (oc 48) <| .cons od <| .cons (oe 48) <| .cons (oa 49) r
noncomputable def hl320 (P : Params) (r : List Obj) : List Obj := .cons ob <| .cons (oc 49) <| .cons od <| .cons (oe 49) <| .cons (oa 50) <| .cons ob <| .cons (oc 50) <| .cons od <| .cons (oe 50) <| .cons (oa 51) <| .cons ob <| .cons (oc 51) <| .cons od <| .cons (oe 51) <| .cons (oa 52) <| .cons ob <| .cons (oc 52) <| .cons od <| .cons (oe 52) <| .cons (oa 53) <| .cons ob <| .cons (oc 53) <| .cons od <| .cons (oe 53) <| .cons (oa 54) <| .cons ob <| .cons (oc 54) <| .cons od <| .cons (oe 54) <| .cons (oa 55) <| .cons ob <| .cons (oc 55) <| .cons od <| .cons (oe 55) <| .cons (oa 56) <| .cons ob <| .cons (oc 56) <| .cons od <| .cons (oe 56) <| .cons (oa 57) <| .cons ob <| .cons (oc 57) <| .cons od <| .cons (oe 57) <| .cons (oa 58) <| .cons ob <| .cons (oc 58) <| .cons od <| .cons (oe 58) <| .cons (oa 59) <| .cons ob <| .cons (oc 59) <| .cons od <| .cons (oe 59) <| .cons (oa 60) <| .cons ob <| .cons (oc 60) <| .cons od <| .cons (oe 60) <| .cons (oa 61) <| .cons ob <| .cons (oc 61) <| .cons od <| .cons (oe 61) r
noncomputable def hl384 (P : Params) (r : List Obj) : List Obj := .cons (oa 62) <| .cons ob <| .cons (oc 62) <| .cons od <| .cons (oe 62) <| .cons (oa 63) <| .cons ob <| .cons (oc 63) <| .cons od <| .cons (oe 63) <| .cons (oa 64) <| .cons ob <| .cons (oc 64) <| .cons od <| .cons (oe 64) <| .cons (oa 65) <| .cons ob <| .cons (oc 65) <| .cons od <| .cons (oe 65) <| .cons (oa 66) <| .cons ob <| .cons (oc 66) <| .cons od <| .cons (oe 66) <| .cons (oa 67) <| .cons ob <| .cons (oc 67) <| .cons od <| .cons (oe 67) <| .cons (oa 68) <| .cons ob <| .cons (oc 68) <| .cons od <| .cons (oe 68) <| .cons (oa 69) <| .cons ob <| .cons (oc 69) <| .cons od <| .cons (oe 69) <| .cons (oa 70) <| .cons ob <| .cons (oc 70) <| .cons od <| .cons (oe 70) <| .cons (oa 71) <| .cons ob <| .cons (oc 71) <| .cons od <| .cons (oe 71) <| .cons (oa 72) <| .cons ob <| .cons (oc 72) <| .cons od <| .cons (oe 72) <| .cons (oa 73) <| .cons ob <| .cons (oc 73) <| .cons od <| .cons (oe 73) <| .cons (oa 74) <| .cons ob <| .cons (oc 74) <| .cons od r
noncomputable def hl448 (P : Params) (r : List Obj) : List Obj := .cons (oe 74) <| .cons (oa 75) <| .cons ob <| .cons (oc 75) <| .cons od <| .cons (oe 75) <| .cons (oa 76) <| .cons ob <| .cons (oc 76) <| .cons od <| .cons (oe 76) <| .cons (oa 77) <| .cons ob <| .cons (oc 77) <| .cons od <| .cons (oe 77) <| .cons (oa 78) <| .cons ob <| .cons (oc 78) <| .cons od <| .cons (oe 78) <| .cons (oa 79) <| .cons ob <| .cons (oc 79) <| .cons od <| .cons (oe 79) <| .cons (oa 80) <| .cons ob <| .cons (oc 80) <| .cons od <| .cons (oe 80) <| .cons (oa 81) <| .cons ob <| .cons (oc 81) <| .cons od <| .cons (oe 81) <| .cons (oa 82) <| .cons ob <| .cons (oc 82) <| .cons od <| .cons (oe 82) <| .cons (oa 83) <| .cons ob <| .cons (oc 83) <| .cons od <| .cons (oe 83) <| .cons (oa 84) <| .cons ob <| .cons (oc 84) <| .cons od <| .cons (oe 84) <| .cons (oa 85) <| .cons ob <| .cons (oc 85) <| .cons od <| .cons (oe 85) <| .cons (oa 86) <| .cons ob <| .cons (oc 86) <| .cons od <| .cons (oe 86) <| .cons (oa 87) <| .cons ob <| .cons (oc 87) r
noncomputable def hl512 (P : Params) (r : List Obj) : List Obj := .cons od <| .cons (oe 87) <| .cons (oa 88) <| .cons ob <| .cons (oc 88) <| .cons od <| .cons (oe 88) <| .cons (oa 89) <| .cons ob <| .cons (oc 89) <| .cons od <| .cons (oe 89) <| .cons (oa 90) <| .cons ob <| .cons (oc 90) <| .cons od <| .cons (oe 90) <| .cons (oa 91) <| .cons ob <| .cons (oc 91) <| .cons od <| .cons (oe 91) <| .cons (oa 92) <| .cons ob <| .cons (oc 92) <| .cons od <| .cons (oe 92) <| .cons (oa 93) <| .cons ob <| .cons (oc 93) <| .cons od <| .cons (oe 93) <| .cons (oa 94) <| .cons ob <| .cons (oc 94) <| .cons od <| .cons (oe 94) <| .cons (oa 95) <| .cons ob <| .cons (oc 95) <| .cons od <| .cons (oe 95) <| .cons (oa 96) <| .cons ob <| .cons (oc 96) <| .cons od <| .cons (oe 96) <| .cons (oa 97) <| .cons ob <| .cons (oc 97) <| .cons od <| .cons (oe 97) <| .cons (oa 98) <| .cons ob <| .cons (oc 98) <| .cons od <| .cons (oe 98) <| .cons (oa 99) <| .cons ob <| .cons (oc 99) <| .cons od <| .cons (oe 99) <| .cons (oa 100) <| .cons ob r
noncomputable def hl576 (P : Params) (r : List Obj) : List Obj := .cons (oc 100) <| .cons od <| .cons (oe 100) <| .cons (oa 101) <| .cons ob <| .cons (oc 101) <| .cons od <| .cons (oe 101) <| .cons (oa 102) <| .cons ob <| .cons (oc 102) <| .cons od <| .cons (oe 102) <| .cons (oa 103) <| .cons ob <| .cons (oc 103) <| .cons od <| .cons (oe 103) <| .cons (oa 104) <| .cons ob <| .cons (oc 104) <| .cons od <| .cons (oe 104) <| .cons (oa 105) <| .cons ob <| .cons (oc 105) <| .cons od <| .cons (oe 105) <| .cons (oa 106) <| .cons ob <| .cons (oc 106) <| .cons od <| .cons (oe 106) <| .cons (oa 107) <| .cons ob <| .cons (oc 107) <| .cons od <| .cons (oe 107) <| .cons (oa 108) <| .cons ob <| .cons (oc 108) <| .cons od <| .cons (oe 108) <| .cons (oa 109) <| .cons ob <| .cons (oc 109) <| .cons od <| .cons (oe 109) <| .cons (oa 110) <| .cons ob <| .cons (oc 110) <| .cons od <| .cons (oe 110) <| .cons (oa 111) <| .cons ob <| .cons (oc 111) <| .cons od <| .cons (oe 111) <| .cons (oa 112) <| .cons ob <| .cons (oc 112) <| .cons od <| .cons (oe 112) <| .cons (oa 113) r
noncomputable def hl640 (P : Params) (r : List Obj) : List Obj := .cons ob <| .cons (oc 113) <| .cons od <| .cons (oe 113) <| .cons (oa 114) <| .cons ob <| .cons (oc 114) <| .cons od <| .cons (oe 114) <| .cons (oa 115) <| .cons ob <| .cons (oc 115) <| .cons od <| .cons (oe 115) <| .cons (oa 116) <| .cons ob <| .cons (oc 116) <| .cons od <| .cons (oe 116) <| .cons (oa 117) <| .cons ob <| .cons (oc 117) <| .cons od <| .cons (oe 117) <| .cons (oa 118) <| .cons ob <| .cons (oc 118) <| .cons od <| .cons (oe 118) <| .cons (oa 119) <| .cons ob <| .cons (oc 119) <| .cons od <| .cons (oe 119) <| .cons (oa 120) <| .cons ob <| .cons (oc 120) <| .cons od <| .cons (oe 120) <| .cons (oa 121) <| .cons ob <| .cons (oc 121) <| .cons od <| .cons (oe 121) <| .cons (oa 122) <| .cons ob <| .cons (oc 122) <| .cons od <| .cons (oe 122) <| .cons (oa 123) <| .cons ob <| .cons (oc 123) <| .cons od <| .cons (oe 123) <| .cons (oa 124) <| .cons ob <| .cons (oc 124) <| .cons od <| .cons (oe 124) <| .cons (oa 125) <| .cons ob <| .cons (oc 125) <| .cons od <| .cons (oe 125) r
noncomputable def hl704 (P : Params) (r : List Obj) : List Obj := .cons (oa 126) <| .cons ob <| .cons (oc 126) <| .cons od <| .cons (oe 126) <| .cons (oa 127) <| .cons ob <| .cons (oc 127) <| .cons od <| .cons (oe 127) <| .cons (oa 128) <| .cons ob <| .cons (oc 128) <| .cons od <| .cons (oe 128) <| .cons (oa 129) <| .cons ob <| .cons (oc 129) <| .cons od <| .cons (oe 129) <| .cons (oa 130) <| .cons ob <| .cons (oc 130) <| .cons od <| .cons (oe 130) <| .cons (oa 131) <| .cons ob <| .cons (oc 131) <| .cons od <| .cons (oe 131) <| .cons (oa 132) <| .cons ob <| .cons (oc 132) <| .cons od <| .cons (oe 132) <| .cons (oa 133) <| .cons ob <| .cons (oc 133) <| .cons od <| .cons (oe 133) <| .cons (oa 134) <| .cons ob <| .cons (oc 134) <| .cons od <| .cons (oe 134) <| .cons (oa 135) <| .cons ob <| .cons (oc 135) <| .cons od <| .cons (oe 135) <| .cons (oa 136) <| .cons ob <| .cons (oc 136) <| .cons od <| .cons (oe 136) <| .cons (oa 137) <| .cons ob <| .cons (oc 137) <| .cons od <| .cons (oe 137) <| .cons (oa 138) <| .cons ob <| .cons (oc 138) <| .cons od r
noncomputable def hl768 (P : Params) (r : List Obj) : List Obj := .cons (oe 138) <| .cons (oa 139) <| .cons ob <| .cons (oc 139) <| .cons od <| .cons (oe 139) <| .cons (oa 140) <| .cons ob <| .cons (oc 140) <| .cons od <| .cons (oe 140) <| .cons (oa 141) <| .cons ob <| .cons (oc 141) <| .cons od <| .cons (oe 141) <| .cons (oa 142) <| .cons ob <| .cons (oc 142) <| .cons od <| .cons (oe 142) <| .cons (oa 143) <| .cons ob <| .cons (oc 143) <| .cons od <| .cons (oe 143) <| .cons (oa 144) <| .cons ob <| .cons (oc 144) <| .cons od <| .cons (oe 144) <| .cons (oa 145) <| .cons ob <| .cons (oc 145) <| .cons od <| .cons (oe 145) <| .cons (oa 146) <| .cons ob <| .cons (oc 146) <| .cons od <| .cons (oe 146) <| .cons (oa 147) <| .cons ob <| .cons (oc 147) <| .cons od <| .cons (oe 147) <| .cons (oa 148) <| .cons ob <| .cons (oc 148) <| .cons od <| .cons (oe 148) <| .cons (oa 149) <| .cons ob <| .cons (oc 149) <| .cons od <| .cons (oe 149) <| .cons (oa 150) <| .cons ob <| .cons (oc 150) <| .cons od <| .cons (oe 150) <| .cons (oa 151) <| .cons ob <| .cons (oc 151) r
noncomputable def hl832 (P : Params) (r : List Obj) : List Obj := .cons od <| .cons (oe 151) <| .cons (oa 152) <| .cons ob <| .cons (oc 152) <| .cons od <| .cons (oe 152) <| .cons (oa 153) <| .cons ob <| .cons (oc 153) <| .cons od <| .cons (oe 153) <| .cons (oa 154) <| .cons ob <| .cons (oc 154) <| .cons od <| .cons (oe 154) <| .cons (oa 155) <| .cons ob <| .cons (oc 155) <| .cons od <| .cons (oe 155) <| .cons (oa 156) <| .cons ob <| .cons (oc 156) <| .cons od <| .cons (oe 156) <| .cons (oa 157) <| .cons ob <| .cons (oc 157) <| .cons od <| .cons (oe 157) <| .cons (oa 158) <| .cons ob <| .cons (oc 158) <| .cons od <| .cons (oe 158) <| .cons (oa 159) <| .cons ob <| .cons (oc 159) <| .cons od <| .cons (oe 159) <| .cons (oa 160) <| .cons ob <| .cons (oc 160) <| .cons od <| .cons (oe 160) <| .cons (oa 161) <| .cons ob <| .cons (oc 161) <| .cons od <| .cons (oe 161) <| .cons (oa 162) <| .cons ob <| .cons (oc 162) <| .cons od <| .cons (oe 162) <| .cons (oa 163) <| .cons ob <| .cons (oc 163) <| .cons od <| .cons (oe 163) <| .cons (oa 164) <| .cons ob r
noncomputable def hl896 (P : Params) (r : List Obj) : List Obj := .cons (oc 164) <| .cons od <| .cons (oe 164) <| .cons (oa 165) <| .cons ob <| .cons (oc 165) <| .cons od <| .cons (oe 165) <| .cons (oa 166) <| .cons ob <| .cons (oc 166) <| .cons od <| .cons (oe 166) <| .cons (oa 167) <| .cons ob <| .cons (oc 167) <| .cons od <| .cons (oe 167) <| .cons (oa 168) <| .cons ob <| .cons (oc 168) <| .cons od <| .cons (oe 168) <| .cons (oa 169) <| .cons ob <| .cons (oc 169) <| .cons od <| .cons (oe 169) <| .cons (oa 170) <| .cons ob <| .cons (oc 170) <| .cons od <| .cons (oe 170) <| .cons (oa 171) <| .cons ob <| .cons (oc 171) <| .cons od <| .cons (oe 171) <| .cons (oa 172) <| .cons ob <| .cons (oc 172) <| .cons od <| .cons (oe 172) <| .cons (oa 173) <| .cons ob <| .cons (oc 173) <| .cons od <| .cons (oe 173) <| .cons (oa 174) <| .cons ob <| .cons (oc 174) <| .cons od <| .cons (oe 174) <| .cons (oa 175) <| .cons ob <| .cons (oc 175) <| .cons od <| .cons (oe 175) <| .cons (oa 176) <| .cons ob <| .cons (oc 176) <| .cons od <| .cons (oe 176) <| .cons (oa 177) r
noncomputable def hl960 (P : Params) (r : List Obj) : List Obj := .cons ob <| .cons (oc 177) <| .cons od <| .cons (oe 177) <| .cons (oa 178) <| .cons ob <| .cons (oc 178) <| .cons od <| .cons (oe 178) <| .cons (oa 179) <| .cons ob <| .cons (oc 179) <| .cons od <| .cons (oe 179) <| .cons (oa 180) <| .cons ob <| .cons (oc 180) <| .cons od <| .cons (oe 180) <| .cons (oa 181) <| .cons ob <| .cons (oc 181) <| .cons od <| .cons (oe 181) <| .cons (oa 182) <| .cons ob <| .cons (oc 182) <| .cons od <| .cons (oe 182) <| .cons (oa 183) <| .cons ob <| .cons (oc 183) <| .cons od <| .cons (oe 183) <| .cons (oa 184) <| .cons ob <| .cons (oc 184) <| .cons od <| .cons (oe 184) <| .cons (oa 185) <| .cons ob <| .cons (oc 185) <| .cons od <| .cons (oe 185) <| .cons (oa 186) <| .cons ob <| .cons (oc 186) <| .cons od <| .cons (oe 186) <| .cons (oa 187) <| .cons ob <| .cons (oc 187) <| .cons od <| .cons (oe 187) <| .cons (oa 188) <| .cons ob <| .cons (oc 188) <| .cons od <| .cons (oe 188) <| .cons (oa 189) <| .cons ob <| .cons (oc 189) <| .cons od <| .cons (oe 189) r
noncomputable def hl1024 (P : Params) (r : List Obj) : List Obj := .cons (oa 190) <| .cons ob <| .cons (oc 190) <| .cons od <| .cons (oe 190) <| .cons (oa 191) <| .cons ob <| .cons (oc 191) <| .cons od <| .cons (oe 191) <| .cons (oa 192) <| .cons ob <| .cons (oc 192) <| .cons od <| .cons (oe 192) <| .cons (oa 193) <| .cons ob <| .cons (oc 193) <| .cons od <| .cons (oe 193) <| .cons (oa 194) <| .cons ob <| .cons (oc 194) <| .cons od <| .cons (oe 194) <| .cons (oa 195) <| .cons ob <| .cons (oc 195) <| .cons od <| .cons (oe 195) <| .cons (oa 196) <| .cons ob <| .cons (oc 196) <| .cons od <| .cons (oe 196) <| .cons (oa 197) <| .cons ob <| .cons (oc 197) <| .cons od <| .cons (oe 197) <| .cons (oa 198) <| .cons ob <| .cons (oc 198) <| .cons od <| .cons (oe 198) <| .cons (oa 199) <| .cons ob <| .cons (oc 199) <| .cons od <| .cons (oe 199) <| .cons (oa 200) <| .cons ob <| .cons (oc 200) <| .cons od <| .cons (oe 200) <| .cons (oa 201) <| .cons ob <| .cons (oc 201) <| .cons od <| .cons (oe 201) <| .cons (oa 202) <| .cons ob <| .cons (oc 202) <| .cons od r
noncomputable def hl1088 (P : Params) (r : List Obj) : List Obj := .cons (oe 202) <| .cons (oa 203) <| .cons ob <| .cons (oc 203) <| .cons od <| .cons (oe 203) <| .cons (oa 204) <| .cons ob <| .cons (oc 204) <| .cons od <| .cons (oe 204) <| .cons (oa 205) <| .cons ob <| .cons (oc 205) <| .cons od <| .cons (oe 205) <| .cons (oa 206) <| .cons ob <| .cons (oc 206) <| .cons od <| .cons (oe 206) <| .cons (oa 207) <| .cons ob <| .cons (oc 207) <| .cons od <| .cons (oe 207) <| .cons (oa 208) <| .cons ob <| .cons (oc 208) <| .cons od <| .cons (oe 208) <| .cons (oa 209) <| .cons ob <| .cons (oc 209) <| .cons od <| .cons (oe 209) <| .cons (oa 210) <| .cons ob <| .cons (oc 210) <| .cons od <| .cons (oe 210) <| .cons (oa 211) <| .cons ob <| .cons (oc 211) <| .cons od <| .cons (oe 211) <| .cons (oa 212) <| .cons ob <| .cons (oc 212) <| .cons od <| .cons (oe 212) <| .cons (oa 213) <| .cons ob <| .cons (oc 213) <| .cons od <| .cons (oe 213) <| .cons (oa 214) <| .cons ob <| .cons (oc 214) <| .cons od <| .cons (oe 214) <| .cons (oa 215) <| .cons ob <| .cons (oc 215) r
noncomputable def hl1152 (P : Params) (r : List Obj) : List Obj := .cons od <| .cons (oe 215) <| .cons (oa 216) <| .cons ob <| .cons (oc 216) <| .cons od <| .cons (oe 216) <| .cons (oa 217) <| .cons ob <| .cons (oc 217) <| .cons od <| .cons (oe 217) <| .cons (oa 218) <| .cons ob <| .cons (oc 218) <| .cons od <| .cons (oe 218) <| .cons (oa 219) <| .cons ob <| .cons (oc 219) <| .cons od <| .cons (oe 219) <| .cons (oa 220) <| .cons ob <| .cons (oc 220) <| .cons od <| .cons (oe 220) <| .cons (oa 221) <| .cons ob <| .cons (oc 221) <| .cons od <| .cons (oe 221) <| .cons (oa 222) <| .cons ob <| .cons (oc 222) <| .cons od <| .cons (oe 222) <| .cons (oa 223) <| .cons ob <| .cons (oc 223) <| .cons od <| .cons (oe 223) <| .cons (oa 224) <| .cons ob <| .cons (oc 224) <| .cons od <| .cons (oe 224) <| .cons (oa 225) <| .cons ob <| .cons (oc 225) <| .cons od <| .cons (oe 225) <| .cons (oa 226) <| .cons ob <| .cons (oc 226) <| .cons od <| .cons (oe 226) <| .cons (oa 227) <| .cons ob <| .cons (oc 227) <| .cons od <| .cons (oe 227) <| .cons (oa 228) <| .cons ob r
noncomputable def hl1216 (P : Params) (r : List Obj) : List Obj := .cons (oc 228) <| .cons od <| .cons (oe 228) <| .cons (oa 229) <| .cons ob <| .cons (oc 229) <| .cons od <| .cons (oe 229) <| .cons (oa 230) <| .cons ob <| .cons (oc 230) <| .cons od <| .cons (oe 230) <| .cons (oa 231) <| .cons ob <| .cons (oc 231) <| .cons od <| .cons (oe 231) <| .cons (oa 232) <| .cons ob <| .cons (oc 232) <| .cons od <| .cons (oe 232) <| .cons (oa 233) <| .cons ob <| .cons (oc 233) <| .cons od <| .cons (oe 233) <| .cons (oa 234) <| .cons ob <| .cons (oc 234) <| .cons od <| .cons (oe 234) <| .cons (oa 235) <| .cons ob <| .cons (oc 235) <| .cons od <| .cons (oe 235) <| .cons (oa 236) <| .cons ob <| .cons (oc 236) <| .cons od <| .cons (oe 236) <| .cons (oa 237) <| .cons ob <| .cons (oc 237) <| .cons od <| .cons (oe 237) <| .cons (oa 238) <| .cons ob <| .cons (oc 238) <| .cons od <| .cons (oe 238) <| .cons (oa 239) <| .cons ob <| .cons (oc 239) <| .cons od <| .cons (oe 239) <| .cons (oa 240) <| .cons ob <| .cons (oc 240) <| .cons od <| .cons (oe 240) <| .cons (oa 241) r
noncomputable def hl1280 (P : Params) (r : List Obj) : List Obj := .cons ob <| .cons (oc 241) <| .cons od <| .cons (oe 241) <| .cons (oa 242) <| .cons ob <| .cons (oc 242) <| .cons od <| .cons (oe 242) <| .cons (oa 243) <| .cons ob <| .cons (oc 243) <| .cons od <| .cons (oe 243) <| .cons (oa 244) <| .cons ob <| .cons (oc 244) <| .cons od <| .cons (oe 244) <| .cons (oa 245) <| .cons ob <| .cons (oc 245) <| .cons od <| .cons (oe 245) <| .cons (oa 246) <| .cons ob <| .cons (oc 246) <| .cons od <| .cons (oe 246) <| .cons (oa 247) <| .cons ob <| .cons (oc 247) <| .cons od <| .cons (oe 247) <| .cons (oa 248) <| .cons ob <| .cons (oc 248) <| .cons od <| .cons (oe 248) <| .cons (oa 249) <| .cons ob <| .cons (oc 249) <| .cons od <| .cons (oe 249) <| .cons (oa 250) <| .cons ob <| .cons (oc 250) <| .cons od <| .cons (oe 250) <| .cons (oa 251) <| .cons ob <| .cons (oc 251) <| .cons od <| .cons (oe 251) <| .cons (oa 252) <| .cons ob <| .cons (oc 252) <| .cons od <| .cons (oe 252) <| .cons (oa 253) <| .cons ob <| .cons (oc 253) <| .cons od <| .cons (oe 253) r
noncomputable def hl1344 (P : Params) (r : List Obj) : List Obj := .cons (oa 254) <| .cons ob <| .cons (oc 254) <| .cons od <| .cons (oe 254) <| .cons (oa 255) <| .cons ob <| .cons (oc 255) <| .cons od <| .cons (oe 255) <| .cons od <| .cons oez <| .cons oLt <| .cons oTu <| .cons od <| .cons foE <| .cons fo1360 <| .cons od <| .cons (foT 6) <| .cons fo1363 <| .cons (foF 6 "rlp.utils" 265 1363) <| .cons od <| .cons foE <| .cons fo1367 <| .cons od <| .cons (foT 7) <| .cons fo1370 <| .cons (foF 7 "rlp.utils" 265 1370) <| .cons od <| .cons foE <| .cons fo1374 <| .cons od <| .cons (foT 9) <| .cons fo1377 <| .cons (foF 9 "rlp.codec" 1053 1377) <| .cons od <| .cons foE <| .cons fo1381 <| .cons od <| .cons (foT 11) <| .cons fo1384 <| .cons (foF 11 "rlp.codec" 1053 1384) <| .cons od <| .cons foE <| .cons fo1388 <| .cons od <| .cons (foT 13) <| .cons fo1391 <| .cons (foF 13 "rlp.codec" 1053 1391) <| .cons od <| .cons foE <| .cons fo1395 <| .cons od <| .cons (foT 14) <| .cons fo1398 <| .cons (foF 14 "rlp.codec" 1053 1398) <| .cons od <| .cons foE <| .cons fo1402 <| .cons od <| .cons (foT 15) <| .cons fo1405 <| .cons (foF 15 "rlp.codec" 1053 1405) <| .cons od r
noncomputable def hl1408 (P : Params) (r : List Obj) : List Obj := .cons foE <| .cons fo1409 <| .cons od <| .cons (foT 17) <| .cons fo1412 <| .cons (foF 17 "law_fb0045_01" 1129 1412) <| .cons od <| .cons foE <| .cons (foT 18) <| .cons fo1417 <| .cons (foF 18 "law_fb0045_01" 1129 1417) <| .cons od <| .cons foE <| .cons (foT 19) <| .cons fo1422 <| .cons (foF 19 "law_fb0045_01" 1129 1422) <| .cons od <| .cons foE <| .cons fo1426 <| .cons od <| .cons (foT 20) <| .cons fo1429 <| .cons (foF 20 "law_fb0045_01" 1129 1429) <| .cons od <| .cons foE <| .cons fo1433 <| .cons od <| .cons (foT 21) <| .cons fo1436 <| .cons (foF 21 "law_fb0045_01" 1129 1436) <| .cons od <| .cons foE <| .cons fo1440 <| .cons od <| .cons (foT 22) <| .cons fo1443 <| .cons (foF 22 "law_fb0045_01" 1129 1443) <| .cons od <| .cons foE <| .cons (foT 23) <| .cons fo1448 <| .cons (foF 23 "law_fb0045_01" 1129 1448) <| .cons od <| .cons foE <| .cons (foT 24) <| .cons fo1453 <| .cons (foF 24 "law_fb0045_01" 1129 1453) r
noncomputable def hpG (P : Params) : Heap := ⟨⟨hl0 P (hl64 P (hl128 P (hl192 P (hl256 P (hl320 P (hl384 P (hl448 P (hl512 P (hl576 P (hl640 P (hl704 P (hl768 P (hl832 P (hl896 P (hl960 P (hl1024 P (hl1088 P (hl1152 P (hl1216 P (hl1280 P (hl1344 P (hl1408 P ([])))))))))))))))))))))))⟩, {}⟩
noncomputable def stG (w : World) (os : OsState) : SharedT := ⟨trG w.params, 1455, {}, ⟨[]⟩, {}, 1202, os⟩
theorem rest6 (w : World) (os : OsState) : segRunT treeTable pw w 11 (some (.ref 6)) 1 530 (stF w os) T6 = some (.next, stG w os, cE, posF) := by rw [runE]; kernel_rfl
end MineT
end
section
open PySem PySem.W PyProof.Rows
set_option maxRecDepth 100000
set_option maxHeartbeats 8000000
namespace MineT
theorem tops_eq : tops = sh.sts_4 ++ (sh.sts_22 ++ (sh.sts_47 ++ (st5 ++ (tops.drop 6 ++ [])))) := by kernel_rfl
noncomputable abbrev p0 : Pos := { line := 0, col := 0, endLine := 0, endCol := 0 }
noncomputable def S15 (w : World) (os : OsState) : SharedT := ⟨sh.tree_4 w.params, 15, {}, ⟨[]⟩, {}, 187, os⟩
noncomputable def S0 (w : World) (os : OsState) : Shared := ⟨boot_heap w.params, ⟨[]⟩, boot_drawn, boot_toks, os⟩
noncomputable abbrev sG (w : World) (os : OsState) : Shared := ⟨hpG w.params, ⟨[]⟩, {}, 1202, os⟩
theorem fin_run (w : World) (os : OsState) : topRun treeTable pw w 11 (some (.ref 6)) 2 (stG w os).abs ⟨doneF .next, cE, posF, frB⟩ = some (sG w os) := by kernel_rfl
theorem block_run (w : World) (os : OsState) : segRun treeTable pw w 11 (some (.ref 6)) 1 1 (S15 w os).abs (blockOf tops sh.env_1 cE p0 frB) = some (.next, (S15 w os).abs, cE, p0) := by kernel_rfl
theorem pre_run (w : World) (os : OsState) : topGo treeTable pw w 11 (some (.ref 6)) 12 (S0 w os) (topStub pw) = some ((S15 w os).abs, ⟨denote treeTable cE, cE, p0, frB⟩) := by kernel_rfl
theorem seg_mono {tb : String → Option Builtin} {p : Program} {w : World} {n₀ : Nat} {ann : Option Value} {b : Nat} (k : Nat) : ∀ (n : Nat) (s : Shared) (t : Thread) (r : Flow × Shared × Code × Pos), segRun tb p w n₀ ann b n s t = some r → segRun tb p w n₀ ann b (n + k) s t = some r
  | 0, _, _, _, h => by simp [segRun] at h
  | n + 1, s, t, r, h => by
    rw [show n + 1 + k = n + k + 1 by omega]
    unfold segRun at h ⊢
    cases he : endAt b t with
    | some f => rw [he] at h; exact h
    | none =>
      rw [he] at h
      cases hk : stepOk n₀ ann t with
      | false => rw [hk] at h; cases h
      | true =>
        rw [hk] at h
        cases hs : step (denote tb) p w s t with
        | halt _ _ => rw [hs] at h; cases h
        | go s' t' => rw [hs] at h; exact seg_mono k n s' t' r h
end MineT
end
section
open PySem PySem.W PyProof.Rows
set_option maxRecDepth 100000
set_option maxHeartbeats 8000000
namespace MineT
theorem turns5 (w : World) (os : OsState) : segRun treeTable pw w 11 (some (.ref 6)) 1 24795 (st1 w os).abs (thk (kk w os)) = some (.next, (stF w os).abs, cE, { line := 15, col := 0, endLine := 15, endCol := 9 }) :=
  seg_go (n := 1455) (N := 23340) (segGo_of (cut16 w os _)) <| seg_go (n := 1552) (N := 21788) (segGo_of (cut32 w os _)) <| seg_go (n := 1552) (N := 20236) (segGo_of (cut48 w os _)) <| seg_go (n := 1552) (N := 18684) (segGo_of (cut64 w os _)) <| seg_go (n := 1552) (N := 17132) (segGo_of (cut80 w os _)) <| seg_go (n := 1552) (N := 15580) (segGo_of (cut96 w os _)) <| seg_go (n := 1552) (N := 14028) (segGo_of (cut112 w os _)) <| seg_go (n := 1552) (N := 12476) (segGo_of (cut128 w os _)) <| seg_go (n := 1552) (N := 10924) (segGo_of (cut144 w os _)) <| seg_go (n := 1552) (N := 9372) (segGo_of (cut160 w os _)) <| seg_go (n := 1552) (N := 7820) (segGo_of (cut176 w os _)) <| seg_go (n := 1552) (N := 6268) (segGo_of (cut192 w os _)) <| seg_go (n := 1552) (N := 4716) (segGo_of (cut208 w os _)) <| seg_go (n := 1552) (N := 3164) (segGo_of (cut224 w os _)) <| seg_go (n := 1552) (N := 1612) (segGo_of (cut240 w os _)) <| seg_go (n := 1552) (N := 60) (segGo_of (cut256 w os _)) <| segRun_of (end5 w os)
theorem run5 (w : World) (os : OsState) : segRun treeTable pw w 11 (some (.ref 6)) 1 24947 (S70 w os).abs T70 = some (.next, (stF w os).abs, cE, { line := 15, col := 0, endLine := 15, endCol := 9 }) := by
  have e := World.withFollow_self w "comprehension-iter-twice"
  cases q : w.params.followText "comprehension-iter-twice" <;> rw [q] at e
  · have h := pfx_f w os
    rw [e] at h
    exact seg_go (n := 152) (N := 24795) (segGo_of h) (turns5 w os)
  · have h := pfx_t w os
    rw [e] at h
    exact seg_mono 10 24937 _ _ _ (seg_go (n := 142) (N := 24795) (segGo_of h) (turns5 w os))
theorem run6 (w : World) (os : OsState) : topRun treeTable pw w 11 (some (.ref 6)) 532 (stF w os).abs (restOf (tops.drop 6 ++ []) sh.env_1 cE { line := 15, col := 0, endLine := 15, endCol := 9 } frB) = some (sG w os) :=
  piece_app (n := 530) (N := 2) (segRun_of (rest6 w os)) (piece_nil (fin_run w os))
theorem run56 (w : World) (os : OsState) : topRun treeTable pw w 11 (some (.ref 6)) (24947 + 532) (S70 w os).abs (restOf (st5 ++ (tops.drop 6 ++ [])) sh.env_1 cE { line := 14, col := 0, endLine := 14, endCol := 8 } frB) = some (sG w os) :=
  piece_app (n := 24947) (N := 532) (run5 w os) (run6 w os)
theorem run_b (w : World) (os : OsState) : topRun treeTable pw w 11 (some (.ref 6)) (Nat.add 206 (Nat.add 263 (Nat.add 272 (24947 + 532)))) (S15 w os).abs (restOf tops sh.env_1 cE p0 frB) = some (sG w os) := by
  have h := sh.chain pw tops w os (st5 ++ (tops.drop 6 ++ [])) (24947 + 532) (sG w os) (run56 w os)
  rw [← tops_eq] at h
  exact h
theorem run_all (w : World) (os : OsState) : topRun treeTable pw w 11 (some (.ref 6)) (12 + (1 + (Nat.add 206 (Nat.add 263 (Nat.add 272 (24947 + 532)))))) (S0 w os) (topStub pw) = some (sG w os) :=
  go_top (n := 12) (pre_run w os) (piece_block (n := 1) (block_run w os) (run_b w os))
end MineT
end
section
open PySem PySem.W PyProof.Rows
set_option maxRecDepth 100000
set_option maxHeartbeats 8000000
namespace MineT
noncomputable def qv : Program := view pw [1, 2, 3, 5, 6, 7, 9, 10, 11, 12, 13, 14, 15, 17, 18, 19, 20, 21, 22, 23, 24]
noncomputable abbrev loo : List PySem.Str := [Str.ofString "ALL_BYTES", Str.ofString "LONG_LENGTH", Str.ofString "SHORT_STRING"]
noncomputable def byts : List (List UInt8) := (List.range 256).map fun i => [UInt8.ofNat i]
noncomputable def lvs : List (PySem.Str × WData) := [(Str.ofString "ALL_BYTES", .tuple (byts.map .bytes)), (Str.ofString "LONG_LENGTH", .int 18446744073709551616), (Str.ofString "SHORT_STRING", .int 184)]
noncomputable def mods : List PySem.Str := importedModules pw.main.body
noncomputable def xt : Shared → Bool := fun s => xlAt qv lvs s && recOk (RowW.records PySem.Challenge.rw_fb0045_01.row.toRowW) s
theorem o_fen (s : Shared) : fenceModules? pw s = some s := by kernel_rfl
theorem o_imp (w : World) : importEnds treeTable (opening pw) w 600 (start (opening pw)).1 (start (opening pw)).2 = some ⟨boot_heap w.params, ⟨[]⟩, boot_drawn, boot_toks, (start (opening pw)).1.os⟩ := by kernel_rfl
theorem o_open (w : World) : (fencedOpening treeTable pw w 52528).map (fun s => (s.heap, s.gens, s.drawn, s.toks)) = some (boot_heap w.params, ⟨[]⟩, boot_drawn, boot_toks) :=
  open_cut (p := pw) (N := 52528) (M := 600) (He := boot_heap) (H₀ := boot_heap) (ge := ⟨[]⟩) (g₀ := ⟨[]⟩) (de := boot_drawn) (d₀ := boot_drawn) (ke := boot_toks) (k₀ := boot_toks) o_imp (by decide +kernel) (fun w => funext fun os => by rw [o_fen]; rfl) w
theorem o_size (w : World) : ((boot_heap w.params).isNs mainGlobals && (Array.mk ([] : List GenState)).size == 0, (boot_heap w.params).objs.size, (boot_heap w.params).nsMap mainGlobals "__annotations__") = (true, 11, some (.ref 6)) := by kernel_rfl
theorem l_top (w : World) (os : OsState) : (staticsOk mods (boot_heap w.params) (hpG w.params) && namesBound pw (hpG w.params) && gensDone (sG w os) && laidKept (boot_heap w.params) (hpG w.params)) = true := by kernel_rfl
theorem z1 (w : World) (os : OsState) : seen ((recsOf qv).map (·.name)) (ownsOf qv) [] { sG w os with gens := #[] } = expectedOf qv := by rw [PySem.W.Fast.te5160383126252970620]; kernel_rfl
theorem z2 (w : World) : (hpG w.params).bltView = bltViewBooted := by kernel_rfl
theorem z3a (w : World) : (hpG w.params).keysOk (looseW qv loo) ((recsOf qv).map (·.name)) ((litsOf qv).map (·.1)) ((clssOf qv (looseW qv loo)).map (·.name)) = true := by kernel_rfl
theorem z3b (w : World) : (hpG w.params).accountedOkI mods = true := by kernel_rfl
theorem z3c (w : World) : ((hpG w.params).isNs mainGlobals && (hpG w.params).isNs builtinsNs) = true := by kernel_rfl
theorem z3d (w : World) : tablesOk qv (hpG w.params) = true := by kernel_rfl
theorem z3e (w : World) (os : OsState) : xt (sG w os) = true := by kernel_rfl
theorem z4 (w : World) (os : OsState) : tabsOk qv (sG w os) = true := by rw [PySem.W.Fast.te479339242167458305]; kernel_rfl
theorem z5 (w : World) (os : OsState) : pinSeenD qv (drecsOf qv) (sG w os) = pinGoodD (drecsOf qv) := by kernel_rfl
theorem z6 (w : World) (os : OsState) : plainSeenE qv (looseW qv loo) (sG w os) = plainGoodE qv (looseW qv loo) := by kernel_rfl
theorem z7 (w : World) (os : OsState) : plainSeenD qv loo (sG w os) = plainGoodD qv loo := by kernel_rfl
theorem z8 (w : World) (os : OsState) : wideSeen qv (sG w os) = wideGood qv := by kernel_rfl
theorem z9 (w : World) (os : OsState) : clsSeenW qv loo (sG w os) = clsGoodW qv loo := by kernel_rfl
theorem l_all (w : World) (os : OsState) : openSeen qv loo mods xt true (sG w os) = openGood qv loo := by
  unfold openSeen openGood
  rw [z1 w os, z4 w os, z5 w os, z6 w os, z7 w os, z8 w os, z9 w os]
  have z3 := z3c w
  rw [Bool.and_eq_true_iff] at z3
  rw [show (sG w os).heap = hpG w.params from rfl, z2 w, z3a w, z3b w, z3.1, z3.2, z3d w, z3e w os]
  rfl
theorem left : LeftO pw qv loo xt (fun _ => ()) (fun _ => ()) 52528 :=
  LeftO.of_pieces (H₀ := boot_heap) (H₁ := hpG) (gs₀ := ⟨[]⟩) (gs₁ := ⟨[]⟩) (d₀ := boot_drawn) (d₁ := {}) (k₀ := boot_toks) (k₁ := 1202) (m₀ := 11) (ann := some (.ref 6)) (M := 12 + (1 + (Nat.add 206 (Nat.add 263 (Nat.add 272 (24947 + 532))))))
    o_open o_size (fun w os => run_all w os) (by decide +kernel)
    (fun w => funext fun os => by rw [show importedModules pw.main.body = mods from rfl, l_top w os, l_all w os])
end MineT
end
section
open PySem PySem.Calls PySem.Spec PyProof.Rows PySem.W
set_option maxRecDepth 100000
namespace Mine

/-! ## heaps: a frozen part -/
abbrev Le (g h : Heap) : Prop := ∀ b o, g.get? b = some o → h.get? b = some o

def cut (f : Addr → Bool) (h : Heap) : Heap := ⟨h.objs.mapIdx fun b o => if f b then o else { cls := .none, data := .freed }, h.life⟩
theorem cut_get (f : Addr → Bool) (h : Heap) (b : Addr) : (cut f h).get? b = if f b then h.get? b else none := by
  unfold cut Heap.get?
  simp only [Array.getElem?_mapIdx]
  cases hb : h.objs[b]? with
  | none => simp
  | some o =>
    cases hf : f b with
    | true => simp [hf]
    | false => simp [hf]

def grow (g : Heap) (n : Nat) (h : Heap) : Heap := cut (fun b => (g.get? b).isSome || decide (n ≤ b)) h
theorem grow_get (g : Heap) (n : Nat) (h : Heap) (b : Addr) : (grow g n h).get? b = if ((g.get? b).isSome || decide (n ≤ b)) = true then h.get? b else none := cut_get _ _ _
theorem grow_new {g : Heap} {n : Nat} {h : Heap} {b : Addr} (hb : n ≤ b) : (grow g n h).get? b = h.get? b := by
  rw [grow_get]; simp [hb]
theorem le_grow {g : Heap} {n : Nat} {h : Heap} (hl : Le g h) : Le g (grow g n h) := fun b o e => by
  rw [grow_get]; simp [e, hl b o e]
theorem grow_le {g : Heap} {n : Nat} {h : Heap} : Le (grow g n h) h := fun b o e => by
  rw [grow_get] at e; split at e
  · exact e
  · cases e
theorem grow_none {g : Heap} {n : Nat} {h : Heap} {b : Addr} (h1 : g.get? b = none) (h2 : b < n) : (grow g n h).get? b = none := by
  rw [grow_get, if_neg (by simp [h1, Nat.not_le.mpr h2])]
theorem grow_sub {g : Heap} {n : Nat} {h : Heap} {b : Addr} {o : Obj} (e : (grow g n h).get? b = some o) : (g.get? b).isSome = true ∨ n ≤ b := by
  rw [grow_get] at e; split at e
  · rename_i hc; simpa using hc
  · cases e

/-! ## the constants of a walk -/
structure Cfg where
  w : World
  G : Heap
  mg : Str → Option Value
  mb : Str → Option Value
  eC : Addr
  eP : Addr
  gp : Pos

abbrev pw : Program := PySem.Challenge.pw_fb0045_01
abbrev Cfg.M (c : Cfg) : Model := model pw c.w

/-- the code object of encode_raw and its table -/
def Tab (c : Cfg) (h : Heap) (ps : Array Value) : Prop := h.IsCode c.eC c.eP ps ∧ h.TableAt c.eC c.eP ps

theorem Tab.step {c : Cfg} {h h' : Heap} {ps : Array Value} (x : Tab c h ps) (hk : ∀ b o, (b = c.eC ∨ b = c.eP) → h.get? b = some o → h'.get? b = some o) : Tab c h' ps := by
  obtain ⟨⟨o, vs, file, tf, flags, tg, inF, text, tt, op, a, r1, r2, r3, r4, r5, r6, b, r⟩, ⟨⟨o', vs', e, r'⟩, t⟩⟩ := x
  exact ⟨⟨o, vs, file, tf, flags, tg, inF, text, tt, op, hk _ _ (.inl rfl) a, r1, r2, r3, r4, r5, r6, hk _ _ (.inr rfl) b, r⟩, ⟨⟨o', vs', hk _ _ (.inl rfl) e, r'⟩, hk _ _ (.inr rfl) t⟩⟩
theorem Tab.lt {c : Cfg} {h : Heap} {ps : Array Value} (x : Tab c h ps) : c.eC < h.objs.size ∧ c.eP < h.objs.size := x.1.lt
/-- neither is a namespace or a sequence -/
theorem Tab.ne {c : Cfg} {h : Heap} {ps : Array Value} (x : Tab c h ps) {b : Addr} {o : Obj} (e : h.get? b = some o) (hd : ∀ vs, o.data ≠ .fields vs) : b ≠ c.eC ∧ b ≠ c.eP := by
  obtain ⟨⟨o', vs, _, _, _, _, _, _, _, op, a, r1, _, _, _, _, _, b', r2, _⟩, _⟩ := x
  constructor
  · rintro rfl; rw [a] at e; cases e; exact hd _ r1
  · rintro rfl; rw [b'] at e; cases e; exact hd _ r2

/-- the generator's own code stands in the table -/
def Hit (c : Cfg) (h : Heap) : Prop := ∃ ps c', Tab c h ps ∧ codeAmong c.gp ps.toList = some c'
theorem Tab.obj {c : Cfg} {h : Heap} {ps : Array Value} (x : Tab c h ps) : h.get? c.eP = some { cls := .none, data := .fields ps } := x.2.2
theorem Tab.eq {c : Cfg} {h h' : Heap} {ps qs : Array Value} (x : Tab c h ps) (y : Tab c h' qs) (e : h'.get? c.eP = h.get? c.eP) : qs = ps := by
  have := x.obj.symm.trans (e.symm.trans y.obj)
  simp at this; exact this.symm

/-- a step that keeps all but the table and X -/
structure Ext (c : Cfg) (X : Addr → Prop) (s s' : Shared) : Prop where
  keep : ∀ b o, b ≠ c.eP → ¬ X b → s.heap.get? b = some o → s'.heap.get? b = some o
  tab : ∀ ps, Tab c s.heap ps → ∃ more, Tab c s'.heap (ps ++ more)
  size : s.heap.objs.size ≤ s'.heap.objs.size
  os : s'.os = s.os
  drawn : s'.drawn = s.drawn
  gens : ∀ (i : Nat) (x : GenState), s.gens[i]? = some x → s'.gens[i]? = some x
  bare : ∀ (i : Nat) (x : GenState), s.gens.size ≤ i → s'.gens[i]? = some x → x.bare = true
  hit : Hit c s.heap → s'.heap.get? c.eP = s.heap.get? c.eP

abbrev noX : Addr → Prop := fun _ => False
abbrev Pex (c : Cfg) (s s' : Shared) : Prop := Ext c noX s s'

namespace Ext
variable {c : Cfg} {X : Addr → Prop} {s s' s'' : Shared}
theorem gsize (x : Ext c X s s') : s.gens.size ≤ s'.gens.size := by
  rcases Nat.eq_zero_or_pos s.gens.size with h | h
  · omega
  · have h1 : s.gens[s.gens.size - 1]? = some s.gens[s.gens.size - 1] := Array.getElem?_eq_getElem (by omega)
    have h2 := x.gens _ _ h1
    have := (Array.getElem?_eq_some_iff.mp h2).1
    omega
theorem refl : Ext c X s s := ⟨fun _ _ _ _ e => e, fun ps t => ⟨#[], by simpa using t⟩, Nat.le_refl _, rfl, rfl, fun _ _ e => e, fun i x h e => by (rw [Array.getElem?_eq_none h] at e; cases e), fun _ => rfl⟩
theorem hitS (x : Ext c X s s') (h : Hit c s.heap) : Hit c s'.heap := by
  have e := x.hit h
  obtain ⟨ps, c', t, q⟩ := h
  obtain ⟨m, t'⟩ := x.tab ps t
  have := t.eq t' e
  rw [this] at t'
  exact ⟨ps, c', t', q⟩
theorem trans (x : Ext c X s s') (y : Ext c X s' s'') : Ext c X s s'' where
  keep := fun b o h1 h2 e => y.keep b o h1 h2 (x.keep b o h1 h2 e)
  tab := fun ps t => let ⟨m1, t1⟩ := x.tab ps t; let ⟨m2, t2⟩ := y.tab _ t1; ⟨m1 ++ m2, by rw [← Array.append_assoc]; exact t2⟩
  size := Nat.le_trans x.size y.size
  os := y.os.trans x.os
  drawn := y.drawn.trans x.drawn
  gens := fun i z e => y.gens i z (x.gens i z e)
  bare := fun i z h e => by
    by_cases h1 : s'.gens.size ≤ i
    · exact y.bare i z h1 e
    · have hlt : i < s'.gens.size := by omega
      have e1 : s'.gens[i]? = some s'.gens[i] := Array.getElem?_eq_getElem hlt
      have e2 := y.gens _ _ e1
      rw [e] at e2; cases e2
      exact x.bare i _ h e1
  hit := fun h => (y.hit (x.hitS h)).trans (x.hit h)
theorem mono {X' : Addr → Prop} (x : Ext c X s s') (h : ∀ b, X b → X' b) : Ext c X' s s' := ⟨fun b o h1 h2 e => x.keep b o h1 (fun q => h2 (h b q)) e, x.tab, x.size, x.os, x.drawn, x.gens, x.bare, x.hit⟩
/-- only the heap grows -/
theorem of_heap {h' : Heap} {tk : Nat} (hk : ∀ b o, s.heap.get? b = some o → h'.get? b = some o) (hz : s.heap.objs.size ≤ h'.objs.size) : Ext c X s { s with heap := h', toks := tk } where
  keep := fun b o _ _ e => hk b o e
  tab := fun ps t => ⟨#[], by simpa using t.step fun b o _ e => hk b o e⟩
  size := hz
  os := rfl
  drawn := rfl
  gens := fun _ _ e => e
  bare := fun i x h e => by rw [Array.getElem?_eq_none h] at e; cases e
  hit := fun ⟨_, _, t, _⟩ => (hk _ _ t.obj).trans t.obj.symm
theorem toks {k : Nat} : Ext c X s { s with toks := k } := of_heap (tk := k) (fun _ _ e => e) (Nat.le_refl _)
theorem push (o : Obj) {tk : Nat} : Ext c X s { s with heap := s.heap.push o, toks := tk } := of_heap (fun _ _ e => Heap.get?_push_of_some o e) (by rw [Heap.size_push]; exact Nat.le_succ _)
end Ext

/-- what a call may lean on: the frozen heap g stands, the text's own part in it -/
structure Fz (c : Cfg) (g : Heap) (s : Shared) : Prop where
  le : Le g s.heap
  base : Le c.G g
  off : g.get? c.eP = none
  tab : ∃ ps, Tab c s.heap ps

theorem Fz.toks {c : Cfg} {g : Heap} {s : Shared} {k : Nat} (x : Fz c g s) : Fz c g { s with toks := k } := ⟨x.le, x.base, x.off, x.tab⟩
theorem Fz.ext {c : Cfg} {g : Heap} {s s' : Shared} {X : Addr → Prop} (x : Fz c g s) (e : Ext c X s s') (hX : ∀ b, X b → g.get? b = none) : Fz c g s' where
  le := fun b o h => e.keep b o (by rintro rfl; rw [x.off] at h; cases h) (fun q => by rw [hX b q] at h; cases h) (x.le b o h)
  base := x.base
  off := x.off
  tab := let ⟨ps, t⟩ := x.tab; let ⟨m, t'⟩ := e.tab ps t; ⟨_, t'⟩
theorem Fz.grow {c : Cfg} {g : Heap} {s s' : Shared} {X : Addr → Prop} (x : Fz c g s) (e : Ext c X s s') (hX : ∀ b, X b → g.get? b = none) : Fz c (grow g s.heap.objs.size s'.heap) s' where
  le := grow_le
  base := fun b o h => le_grow (x.ext e hX).le b o (x.base b o h)
  off := grow_none x.off (let ⟨_, t⟩ := x.tab; t.lt.2)
  tab := (x.ext e hX).tab

/-! ## a frame -/
structure St (c : Cfg) (X : Addr → Prop) (s₀ : Shared) (g₀ g : Heap) (L : Addr) (m : Str → Option Value) (s : Shared) : Prop where
  ns : s.heap.Ns L m
  fz : Fz c g s
  offL : g.get? L = none
  lo : s₀.heap.objs.size ≤ L
  ext : Ext c X s₀ s
  sub : ∀ b o, g.get? b = some o → (g₀.get? b).isSome = true ∨ s₀.heap.objs.size ≤ b ∨ X b
  ltX : ∀ b, X b → b < s₀.heap.objs.size

/-- a frozen heap with one object more -/
def put (g : Heap) (a : Addr) (h : Heap) : Heap := cut (fun b => (g.get? b).isSome || decide (b = a)) h
theorem put_get (g : Heap) (a : Addr) (h : Heap) (b : Addr) : (put g a h).get? b = if ((g.get? b).isSome || decide (b = a)) = true then h.get? b else none := cut_get _ _ _
theorem put_self {g : Heap} {a : Addr} {h : Heap} : (put g a h).get? a = h.get? a := by rw [put_get]; simp
theorem le_put {g h : Heap} {a : Addr} (hl : Le g h) : Le g (put g a h) := fun b o e => by rw [put_get]; simp [e, hl b o e]
theorem put_le {g h : Heap} {a : Addr} : Le (put g a h) h := fun b o e => by
  rw [put_get] at e; split at e
  · exact e
  · cases e
theorem put_none {g : Heap} {a : Addr} {h : Heap} {b : Addr} (h1 : g.get? b = none) (h2 : b ≠ a) : (put g a h).get? b = none := by
  rw [put_get, if_neg (by simp [h1, h2])]

namespace St
variable {c : Cfg} {X : Addr → Prop} {s₀ s s' : Shared} {g₀ g : Heap} {L : Addr} {m : Str → Option Value}

theorem toks (F : St c X s₀ g₀ g L m s) (k : Nat) : St c X s₀ g₀ g L m { s with toks := k } :=
  ⟨F.ns, F.fz.toks, F.offL, F.lo, F.ext.trans Ext.toks, F.sub, F.ltX⟩

theorem nsL (F : St c X s₀ g₀ g L m s) : ∃ o es ep, s.heap.get? L = some o ∧ o.data = .dict es ep := let ⟨o, es, ep, a, b, _⟩ := F.ns; ⟨o, es, ep, a, b⟩
theorem L_ne (F : St c X s₀ g₀ g L m s) : L ≠ c.eC ∧ L ≠ c.eP := by
  obtain ⟨o, es, ep, a, b⟩ := F.nsL
  obtain ⟨ps, t⟩ := F.fz.tab
  exact t.ne a fun vs h => by rw [b] at h; cases h

/-- a step that changes the frame's own dict alone -/
theorem same (F : St c X s₀ g₀ g L m s) {h' : Heap} {m' : Str → Option Value} (tk : Nat) (hn : h'.Ns L m') (hs : Heap.SameBut L s.heap h') : St c X s₀ g₀ g L m' { s with heap := h', toks := tk } where
  ns := hn
  fz := ⟨fun b o e => (hs.2 b (by rintro rfl; rw [F.offL] at e; cases e)).trans (F.fz.le b o e), F.fz.base, F.fz.off,
    let ⟨ps, t⟩ := F.fz.tab; ⟨ps, t.step fun b o hb e => (hs.2 b (by rcases hb with rfl | rfl; exact Ne.symm F.L_ne.1; exact Ne.symm F.L_ne.2)).trans e⟩⟩
  offL := F.offL
  lo := F.lo
  ext := ⟨fun b o h1 h2 e => (hs.2 b (Nat.ne_of_lt (Nat.lt_of_lt_of_le (Heap.lt_size e) F.lo))).trans (F.ext.keep b o h1 h2 e),
    fun ps t => let ⟨mo, t'⟩ := F.ext.tab ps t; ⟨mo, t'.step fun b o hb e => (hs.2 b (by rcases hb with rfl | rfl; exact Ne.symm F.L_ne.1; exact Ne.symm F.L_ne.2)).trans e⟩,
    Nat.le_trans F.ext.size (Nat.le_of_eq hs.1.symm), F.ext.os, F.ext.drawn, F.ext.gens, F.ext.bare, fun h => (hs.2 _ (Ne.symm F.L_ne.2)).trans (F.ext.hit h)⟩
  sub := F.sub
  ltX := F.ltX

/-- a step that keeps all but X: the new may be frozen -/
theorem grow (F : St c X s₀ g₀ g L m s) (e : Ext c X s s') (hX : ∀ b, X b → g.get? b = none) : St c X s₀ g₀ (Mine.grow g s.heap.objs.size s'.heap) L m s' where
  ns := by
    have hx : ¬ X L := fun q => Nat.lt_irrefl _ (Nat.lt_of_lt_of_le (F.ltX L q) F.lo)
    obtain ⟨o, es, ep, a, r⟩ := F.ns
    exact ⟨o, es, ep, e.keep _ _ F.L_ne.2 hx a, r⟩
  fz := F.fz.grow e hX
  offL := grow_none F.offL F.ns.lt
  lo := F.lo
  ext := F.ext.trans e
  sub := fun b o h => by
    rcases grow_sub h with q | q
    · obtain ⟨o', q⟩ := Option.isSome_iff_exists.mp q; exact F.sub b o' q
    · exact .inr (.inl (Nat.le_trans F.ext.size q))
  ltX := F.ltX

/-- a smaller frozen heap -/
theorem less (F : St c X s₀ g₀ g L m s) {g' : Heap} (hl : Le g' g) (hb : Le c.G g') : St c X s₀ g₀ g' L m s where
  ns := F.ns
  fz := ⟨fun b o e => F.fz.le b o (hl b o e), hb, by
    cases q : g'.get? c.eP with
    | none => rfl
    | some o => exact absurd ((hl _ _ q).symm.trans F.fz.off) (by simp), F.fz.tab⟩
  offL := by
    cases q : g'.get? L with
    | none => rfl
    | some o => exact absurd ((hl _ _ q).symm.trans F.offL) (by simp)
  lo := F.lo
  ext := F.ext
  sub := fun b o e => F.sub b o (hl b o e)
  ltX := F.ltX

theorem pex {s'' : Shared} (F : St c X s₀ g₀ g L m s) (e : Pex c s s'') : St c X s₀ g₀ (Mine.grow g s.heap.objs.size s''.heap) L m s'' where
  ns := by
    obtain ⟨o, es, ep, a, r⟩ := F.ns
    exact ⟨o, es, ep, e.keep _ _ F.L_ne.2 (fun q => q) a, r⟩
  fz := F.fz.grow e fun _ q => q.elim
  offL := grow_none F.offL F.ns.lt
  lo := F.lo
  ext := F.ext.trans (e.mono fun _ q => q.elim)
  sub := fun b o h => by
    rcases grow_sub h with q | q
    · obtain ⟨o', q⟩ := Option.isSome_iff_exists.mp q; exact F.sub b o' q
    · exact .inr (.inl (Nat.le_trans F.ext.size q))
  ltX := F.ltX

/-- the new not frozen -/
theorem stay (F : St c X s₀ g₀ g L m s) (e : Pex c s s') : St c X s₀ g₀ g L m s' := (F.pex e).less (le_grow (F.fz.ext e fun _ q => q.elim).le) F.fz.base

/-- freeze one object more -/
theorem put (F : St c X s₀ g₀ g L m s) {a : Addr} (ha : s₀.heap.objs.size ≤ a ∨ X a) (hL : a ≠ L) (hP : a ≠ c.eP) : St c X s₀ g₀ (Mine.put g a s.heap) L m s where
  ns := F.ns
  fz := ⟨put_le, fun b o e => le_put F.fz.le b o (F.fz.base b o e), put_none F.fz.off (Ne.symm hP), F.fz.tab⟩
  offL := put_none F.offL (Ne.symm hL)
  lo := F.lo
  ext := F.ext
  sub := fun b o e => by
    rw [put_get] at e
    split at e
    · rename_i q
      simp only [Bool.or_eq_true, decide_eq_true_eq] at q
      rcases q with q | rfl
      · obtain ⟨o', q⟩ := Option.isSome_iff_exists.mp q; exact F.sub b o' q
      · rcases ha with q | q
        · exact .inr (.inl q)
        · exact .inr (.inr q)
    · cases e
  ltX := F.ltX

/-- a write into an object that is not frozen -/
theorem write (F : St c X s₀ g₀ g L m s) {a : Addr} {h' : Heap} {tk : Nat} (ha : s₀.heap.objs.size ≤ a ∨ X a) (hL : a ≠ L) (hC : a ≠ c.eC) (hP : a ≠ c.eP) (hg : g.get? a = none) (hs : Heap.SameBut a s.heap h') : St c X s₀ g₀ g L m { s with heap := h', toks := tk } where
  ns := by
    obtain ⟨o, es, ep, x, r⟩ := F.ns
    exact ⟨o, es, ep, (hs.2 _ (Ne.symm hL)).trans x, r⟩
  fz := ⟨fun b o e => (hs.2 b (by rintro rfl; rw [hg] at e; cases e)).trans (F.fz.le b o e), F.fz.base, F.fz.off,
    let ⟨ps, t⟩ := F.fz.tab; ⟨ps, t.step fun b o hb e => (hs.2 b (by rcases hb with rfl | rfl; exact Ne.symm hC; exact Ne.symm hP)).trans e⟩⟩
  offL := F.offL
  lo := F.lo
  ext := ⟨fun b o h1 h2 e => (hs.2 b (by
      rintro rfl
      rcases ha with q | q
      · exact Nat.lt_irrefl _ (Nat.lt_of_lt_of_le (Heap.lt_size e) q)
      · exact h2 q)).trans (F.ext.keep b o h1 h2 e),
    fun ps t => let ⟨mo, t'⟩ := F.ext.tab ps t; ⟨mo, t'.step fun b o hb e => (hs.2 b (by rcases hb with rfl | rfl; exact Ne.symm hC; exact Ne.symm hP)).trans e⟩,
    Nat.le_trans F.ext.size (Nat.le_of_eq hs.1.symm), F.ext.os, F.ext.drawn, F.ext.gens, F.ext.bare, fun h => (hs.2 _ (Ne.symm hP)).trans (F.ext.hit h)⟩
  sub := F.sub
  ltX := F.ltX

/-- at the end: what is frozen lies in the caller's grown heap -/
theorem le_end (F : St c X s₀ g₀ g L m s) (hX : ∀ b, X b → g.get? b = none := by intro _ q; exact q.elim) : Le g (Mine.grow g₀ s₀.heap.objs.size s.heap) := fun b o e => by
  have hx : ¬ X b := fun q => by rw [hX b q] at e; cases e
  rw [grow_get, if_pos (by rcases F.sub b o e with q | q | q; simp [q]; simp [q]; exact absurd q hx)]
  exact F.fz.le b o e
end St
end Mine
end
section
open PySem PySem.Calls PySem.Spec PyProof.Rows PySem.W
set_option maxRecDepth 100000
namespace Mine

/-! ## the text's defs -/
def fnAt (i : Nat) : DefRec := match pw.main.body[i]? with
  | some (.FunctionDef name a b _ _ _ sc _ _ pos) => ⟨name, a, b, sc, pos⟩
  | _ => ⟨"", { posonlyargs := [], args := [], vararg := none, kwonlyargs := [], kw_defaults := [], kwarg := none, defaults := [] }, [], { kind := .module, names := [], isGenerator := false, isCoroutine := false, more := [] }, ⟨0, 0, 0, 0⟩⟩

abbrev dB2I : DefRec := fnAt 6
abbrev dI2B : DefRec := fnAt 7
abbrev dEnc : DefRec := fnAt 9
abbrev dPre : DefRec := fnAt 11
abbrev dClp : DefRec := fnAt 13
abbrev dCpl : DefRec := fnAt 14
abbrev dCit : DefRec := fnAt 15
abbrev dNxt : DefRec := fnAt 17
abbrev dTre : DefRec := fnAt 18
abbrev dWay : DefRec := fnAt 19
abbrev dEdi : DefRec := fnAt 20
abbrev dHea : DefRec := fnAt 21
abbrev dSpl : DefRec := fnAt 22
abbrev dPie : DefRec := fnAt 23
abbrev dLaw : DefRec := fnAt 24

theorem recs_eq : recsOf pw = [dB2I, dI2B, dEnc, dPre, dClp, dCpl, dCit, dNxt, dTre, dWay, dEdi, dHea, dSpl, dPie, dLaw] := by kernel_rfl

/-- the generator in encode_raw -/
def encGen : Expr := match dEnc.body with
  | .If _ _ (.If _ (.Assign _ (.Call _ (e :: _) _ _) _ :: _) _ _ :: _) _ :: _ => e
  | _ => .Constant .none 0 ⟨0, 0, 0, 0⟩
def gPos : Pos := match encGen with
  | .GeneratorExp _ _ _ pos => pos
  | _ => ⟨0, 0, 0, 0⟩

def usedB : List Str := ["len", "isinstance", "bytes", "bytearray", "list", "tuple", "range", "int", "enumerate"]

structure Cfg.Ok (c : Cfg) : Prop where
  g : c.G.Ns mainGlobals c.mg
  b : c.G.Ns builtinsNs c.mb
  lim : c.G.NoLimit
  fn : ∀ d ∈ recsOf pw, ∃ a o pm code doc, c.mg d.name = some (.ref a) ∧ c.G.get? a = some o ∧ o.data = .func (docDef d.name d.params d.body d.scope pm code doc) ∧ c.G.CodeRec code d.name ∧ (d.name = dEnc.name → code = .ref c.eC)
  bt : ∀ x ∈ usedB, c.mg x = none ∧ c.mb x = bootBuiltins x
  bi : ∃ bm ob, c.mg "__builtins__" = some (.ref bm) ∧ bm ≠ builtinsNs ∧ c.G.get? bm = some ob ∧ ob.cls = .type "module" ∧ ob.dict = some builtinsNs ∧ ob.data = .plain
  allb : ∃ a items, c.mg "ALL_BYTES" = some (.ref a) ∧ IsTup c.G a items ∧ items.size = 256 ∧ ∀ i : Nat, i < 256 → ∃ t, items[i]? = some (.bytes #[UInt8.ofNat i] t)
  long : ∃ t, c.mg "LONG_LENGTH" = some (.int (2 ^ 64) t)
  short : ∃ t, c.mg "SHORT_STRING" = some (.int 184 t)
  gp : c.gp = gPos

/-- where a def stands -/
structure At (c : Cfg) (d : DefRec) (f : Addr) : Prop where
  nm : c.mg d.name = some (.ref f)
  mem : d ∈ recsOf pw

theorem Cfg.Ok.at_ {c : Cfg} (ok : c.Ok) {d : DefRec} (hd : d ∈ recsOf pw) : ∃ f, At c d f := let ⟨a, _, _, _, _, h, _⟩ := ok.fn d hd; ⟨a, h, hd⟩

section
variable {c : Cfg} {A : Around} {E : Value → Shared → Prop} {s : Shared} {g : Heap}

/-- a call of one of the text's plain defs: its body, in a frame of its own -/
theorem call_defK {d : DefRec} {f : Addr} {X : Addr → Prop} {vs : List Value} {binds : List (Str × Value)} {Q : Value → Shared → Prop} (ok : c.Ok) (hf : At c d f) (z : Fz c g s)
    (hX : ∀ b, X b → g.get? b = none) (hXl : ∀ b, X b → b < s.heap.objs.size) (hroom : A.depth < recursionLimit)
    (hbind : ∀ pm code doc, bindArgs (docDef d.name d.params d.body d.scope pm code doc) ⟨vs, []⟩ = pure binds)
    (hloc : ∀ x ∈ binds, d.scope.names.lookup x.1 = some .local)
    (h : ∀ cd s₁, (d.name = dEnc.name → cd = .ref c.eC) → St c X s g g s.heap.objs.size (fun x => binds.reverse.lookup x) s₁ → (∀ b o, s.heap.get? b = some o → s₁.heap.get? b = some o) →
      wpAny c.M (A.deeper (envOf d.name d.scope s.heap.objs.size f cd)) (execs d.body (envOf d.name d.scope s.heap.objs.size f cd))
        (fun fl s' => Q (match fl with | .ret v => v | _ => .none) s') (fun _ _ => False) s₁)
    (hco : d.scope.isCoroutine = false := by rfl) (hgen : d.scope.isGenerator = false := by rfl) (hk : d.scope.kind = .function := by rfl)
    (hcell : ∀ x ∈ d.scope.names, x.2 ≠ .cell := by decide) : wpAny c.M A (call (.ref f) vs) Q E s := by
  obtain ⟨a, o, pm, code, doc, h1, h2, h3, h4, h5⟩ := ok.fn d hf.mem
  have e : a = f := by have := hf.nm; rw [h1] at this; cases this; rfl
  subst e
  have hle : ∀ b o, c.G.get? b = some o → s.heap.get? b = some o := fun b o q => z.le b o (z.base b o q)
  refine wpAny_call (call_plain_ret hroom (hle _ _ h2) h3 (ok.lim.keeps hle) (h4.keeps hle) (hbind pm code doc) hloc (fun h₁ F₁ => ?_) hco hgen hk hcell)
  refine wpAny_mono (h code _ h5 ?_ F₁.keep) (fun _ _ q => q) fun _ _ q => q
  have hz : s.heap.objs.size ≤ h₁.objs.size := Nat.le_of_lt F₁.ns.lt
  have hx : Ext c X s { s with heap := h₁, toks := s.toks + binds.length } := Ext.of_heap F₁.keep hz
  exact ⟨F₁.ns, z.ext hx hX, by
    cases q : g.get? s.heap.objs.size with
    | none => rfl
    | some o' => exact absurd (Heap.lt_size (z.le _ _ q)) (Nat.lt_irrefl _), Nat.le_refl _, hx, fun b o q => .inl (by rw [q]; rfl), hXl⟩

theorem call_def {d : DefRec} {f : Addr} {X : Addr → Prop} {vs : List Value} {binds : List (Str × Value)} {Q : Value → Shared → Prop} (ok : c.Ok) (hf : At c d f) (z : Fz c g s)
    (hX : ∀ b, X b → g.get? b = none) (hXl : ∀ b, X b → b < s.heap.objs.size) (hroom : A.depth < recursionLimit)
    (hbind : ∀ pm code doc, bindArgs (docDef d.name d.params d.body d.scope pm code doc) ⟨vs, []⟩ = pure binds)
    (hloc : ∀ x ∈ binds, d.scope.names.lookup x.1 = some .local)
    (h : ∀ cd s₁, (d.name = dEnc.name → cd = .ref c.eC) → St c X s g g s.heap.objs.size (fun x => binds.reverse.lookup x) s₁ →
      wpAny c.M (A.deeper (envOf d.name d.scope s.heap.objs.size f cd)) (execs d.body (envOf d.name d.scope s.heap.objs.size f cd))
        (fun fl s' => Q (match fl with | .ret v => v | _ => .none) s') (fun _ _ => False) s₁)
    (hco : d.scope.isCoroutine = false := by rfl) (hgen : d.scope.isGenerator = false := by rfl) (hk : d.scope.kind = .function := by rfl)
    (hcell : ∀ x ∈ d.scope.names, x.2 ≠ .cell := by decide) : wpAny c.M A (call (.ref f) vs) Q E s :=
  call_defK ok hf z hX hXl hroom hbind hloc (fun cd s₁ e F _ => h cd s₁ e F) hco hgen hk hcell
end

/-! ## rules over a frame -/
section
variable {c : Cfg} {X : Addr → Prop} {A : Around} {E : Value → Shared → Prop} {s₀ s : Shared} {g₀ g : Heap} {L : Addr} {m : Str → Option Value} {env : Env}

theorem r_name {x : Str} {pos : Pos} {v : Value} {Q : Value → Shared → Prop} (F : St c X s₀ g₀ g env.locals m s) (hv : m x = some v) (h : Q v s)
    (hk : env.scope.kind = .function := by rfl) (hl : env.kindOf x = some .local := by rfl) (hd : (x == ("__debug__" : Str)) = false := by decide) :
    wpAny c.M A (eval (.Name x pos) env) Q E s := wpAny_Name (wpAny_loadName_local hk hl F.ns hv h) hd

theorem r_store {x : Str} {v : Value} {Q : Unit → Shared → Prop} (F : St c X s₀ g₀ g env.locals m s)
    (h : ∀ s', St c X s₀ g₀ g env.locals (fun y => if y = x then some v else m y) s' → Q () s')
    (hl : env.kindOf x = some .local := by rfl) (hp : (env.scope.kind == .class || (env.scope.kind == .module && env.locals != env.globals)) = false := by rfl) :
    wpAny c.M A (storeName env x v) Q E s :=
  wpAny_storeName_local hl F.ns (fun h' hn hs => h _ (F.same _ hn hs)) hp

theorem r_global {x : Str} {pos : Pos} {v : Value} {Q : Value → Shared → Prop} (ok : c.Ok) (F : Fz c g s) (hv : c.mg x = some v) (h : Q v s)
    (hk : env.scope.kind = .function := by rfl) (hl : env.kindOf x = some .globalImplicit := by rfl) (hg : env.globals = mainGlobals := by rfl) (hd : (x == ("__debug__" : Str)) = false := by decide) :
    wpAny c.M A (eval (.Name x pos) env) Q E s :=
  Name_function_global hk hl (loadGlobal_global (hg ▸ ok.g.keeps fun b o q => F.le b o (F.base b o q)) hv h) hd

theorem r_builtin {x : Str} {pos : Pos} {v : Value} {Q : Value → Shared → Prop} (ok : c.Ok) (F : Fz c g s) (hv : bootBuiltins x = some v) (h : Q v s) (hu : x ∈ usedB := by decide)
    (hk : env.scope.kind = .function := by rfl) (hl : env.kindOf x = some .globalImplicit := by rfl) (hg : env.globals = mainGlobals := by rfl) (hb : env.builtins = builtinsNs := by rfl) (hd : (x == ("__debug__" : Str)) = false := by decide) :
    wpAny c.M A (eval (.Name x pos) env) Q E s :=
  have k : ∀ b o, c.G.get? b = some o → s.heap.get? b = some o := fun b o q => F.le b o (F.base b o q)
  Name_function_global hk hl (loadGlobal_builtin (hg ▸ ok.g.keeps k) (ok.bt x hu).1 (hb ▸ ok.b.keeps k) ((ok.bt x hu).2.trans hv) h) hd
end
end Mine
end
section
open PySem PySem.Calls PySem.Spec PyProof.Rows PySem.W
set_option maxRecDepth 100000
namespace Mine

/-! ## lists and tuples on a heap -/
def Ls (g : Heap) (a : Addr) (vs : List Value) : Prop := g.IsList a vs.toArray
def Tp (g : Heap) (a : Addr) (vs : List Value) : Prop := IsTup g a vs.toArray
theorem Ls.mono {g h : Heap} {a : Addr} {vs : List Value} (x : Ls g a vs) (hl : Le g h) : Ls h a vs := let ⟨o, e, r⟩ := x; ⟨o, hl _ _ e, r⟩
theorem Tp.mono {g h : Heap} {a : Addr} {vs : List Value} (x : Tp g a vs) (hl : Le g h) : Tp h a vs := let ⟨o, e, r⟩ := x; ⟨o, hl _ _ e, r⟩
theorem Ls.isList {g : Heap} {a : Addr} {vs : List Value} (x : Ls g a vs) : g.IsList a vs.toArray := x
theorem Tp.isTup {g : Heap} {a : Addr} {vs : List Value} (x : Tp g a vs) : IsTup g a vs.toArray := x
theorem Ls.lt {g : Heap} {a : Addr} {vs : List Value} (x : Ls g a vs) : a < g.objs.size := let ⟨_, e, _⟩ := x; Heap.lt_size e
theorem Ls.ne_none {g : Heap} {a : Addr} {vs : List Value} (x : Ls g a vs) : g.get? a ≠ none := let ⟨_, e, _⟩ := x; by rw [e]; exact fun q => nomatch q
theorem Ls.put {g h : Heap} {a : Addr} {vs : List Value} (x : Ls h a vs) : Ls (put g a h) a vs := let ⟨o, e, r⟩ := x; ⟨o, by rw [put_self]; exact e, r⟩
theorem Ls.ne_code {c : Cfg} {h : Heap} {ps : Array Value} {a : Addr} {vs : List Value} (x : Ls h a vs) (t : Tab c h ps) : a ≠ c.eC ∧ a ≠ c.eP := by
  obtain ⟨o, e, _, n, hd⟩ := x
  exact t.ne e fun vs q => by rw [hd] at q; cases q
theorem Ls.ne_L {c : Cfg} {X : Addr → Prop} {s₀ s : Shared} {g₀ g : Heap} {L : Addr} {m : Str → Option Value} {a : Addr} {vs : List Value} (x : Ls s.heap a vs) (F : St c X s₀ g₀ g L m s) : a ≠ L := by
  obtain ⟨o, e, _, n, hd⟩ := x
  obtain ⟨o', es, ep, e', hd'⟩ := F.nsL
  rintro rfl
  rw [e] at e'; cases e'; rw [hd] at hd'; cases hd'

section
variable {c : Cfg} {X : Addr → Prop} {A : Around} {E : Value → Shared → Prop} {s₀ s : Shared} {g₀ g : Heap} {L : Addr} {m : Str → Option Value} {env : Env}

/-! ## literals -/
theorem r_int {i : Int} {k pos} {Q : Value → Shared → Prop} (F : St c X s₀ g₀ g L m s) (h : ∀ t s', St c X s₀ g₀ g L m s' → Q (.int i t) s') : wpAny c.M A (eval (.Constant (.int i) k pos) env) Q E s :=
  wpAny_Constant_int (h _ _ (F.toks _))
theorem r_str {x : Str} {k pos} {Q : Value → Shared → Prop} (F : St c X s₀ g₀ g L m s) (h : ∀ t s', St c X s₀ g₀ g L m s' → Q (.str x t) s') : wpAny c.M A (eval (.Constant (.str x) k pos) env) Q E s :=
  Calls.Constant_str (h _ _ (F.toks _))
theorem r_bytesC {x : List UInt8} {k pos} {Q : Value → Shared → Prop} (F : St c X s₀ g₀ g L m s) (h : ∀ t s', St c X s₀ g₀ g L m s' → Q (.bytes x.toArray t) s') : wpAny c.M A (eval (.Constant (.bytes x) k pos) env) Q E s :=
  PySem.W.Constant_bytes (h _ _ (F.toks _))
theorem r_bool {b : Bool} {k pos} {Q : Value → Shared → Prop} (h : Q (.bool b) s) : wpAny c.M A (eval (.Constant (.bool b) k pos) env) Q E s := wpAny_Constant_bool h
theorem r_none {k pos} {Q : Value → Shared → Prop} (h : Q .none s) : wpAny c.M A (eval (.Constant .none k pos) env) Q E s := wpAny_Constant_none h

/-! ## ints -/
theorem r_addI {a b : Int} {t u : Tok} {Q : Value → Shared → Prop} (F : St c X s₀ g₀ g L m s) (h : ∀ t s', St c X s₀ g₀ g L m s' → Q (.int (a + b) t) s') : wpAny c.M A (binaryOp .Add (.int a t) (.int b u)) Q E s := wpAny_add_int (h _ _ (F.toks _))
theorem r_subI {a b : Int} {t u : Tok} {Q : Value → Shared → Prop} (F : St c X s₀ g₀ g L m s) (h : ∀ t s', St c X s₀ g₀ g L m s' → Q (.int (a - b) t) s') : wpAny c.M A (binaryOp .Sub (.int a t) (.int b u)) Q E s := PyProof.Rows.sub_int (h _ _ (F.toks _))
theorem r_modI {a b : Int} {t u : Tok} {Q : Value → Shared → Prop} (F : St c X s₀ g₀ g L m s) (hb : 0 < b) (h : ∀ t s', St c X s₀ g₀ g L m s' → Q (.int (a % b) t) s') : wpAny c.M A (binaryOp .Mod (.int a t) (.int b u)) Q E s :=
  PyProof.Rows.mod_int (by omega) (by rw [Int.fmod_eq_emod_of_nonneg _ (by omega)]; exact h _ _ (F.toks _))
theorem r_divI {a b : Int} {t u : Tok} {Q : Value → Shared → Prop} (F : St c X s₀ g₀ g L m s) (hb : 0 < b) (ha : -(2 ^ 64) < a ∧ a < 2 ^ 64) (hb' : b < 2 ^ 64) (h : ∀ t s', St c X s₀ g₀ g L m s' → Q (.int (a / b) t) s') : wpAny c.M A (binaryOp .FloorDiv (.int a t) (.int b u)) Q E s := by
  refine PyProof.Rows.floordiv_int (by omega) (by rw [Int.fdiv_eq_ediv_of_nonneg _ (by omega)]; exact h _ _ (F.toks _)) (.inl ?_)
  unfold Builtin.divisionGoesByPylong
  have hb2 : b.natAbs < 2 ^ 64 := by omega
  have : (if (b == 0) = true then 0 else b.natAbs.log2 / 30 + 1) ≤ 300 := by
    split
    · omega
    · have h1 : b.natAbs ≠ 0 := by omega
      have := (Nat.log2_lt h1 (k := 64)).mpr hb2
      omega
  simp only [Bool.and_eq_false_iff, decide_eq_false_iff_not]
  left; omega
theorem r_ltI {a b : Int} {t u : Tok} {Q : Value → Shared → Prop} (h : Q (.bool (decide (a < b))) s) : wpAny c.M A (compareOp .Lt (.int a t) (.int b u)) Q E s := wpAny_lt_int h
theorem r_gtI {a b : Int} {t u : Tok} {Q : Value → Shared → Prop} (h : Q (.bool (decide (a > b))) s) : wpAny c.M A (compareOp .Gt (.int a t) (.int b u)) Q E s := PyProof.Rows.gt_int h
theorem r_eqI {a b : Int} {t u : Tok} {Q : Value → Shared → Prop} (h : Q (.bool (a == b)) s) : wpAny c.M A (compareOp .Eq (.int a t) (.int b u)) Q E s := PyProof.Rows.eq_int h

/-! ## bytes -/
theorem r_addB {x y : List UInt8} {t u : Tok} {Q : Value → Shared → Prop} (F : St c X s₀ g₀ g L m s) (hz : x.length + y.length ≤ 16777216) (h : ∀ t s', St c X s₀ g₀ g L m s' → Q (.bytes (x ++ y).toArray t) s') : wpAny c.M A (binaryOp .Add (.bytes x.toArray t) (.bytes y.toArray u)) Q E s :=
  KBy.add_bytes (by simpa using hz) fun t' k => by rw [List.append_toArray]; exact h _ _ (F.toks _)
theorem r_lenB {x : List UInt8} {t : Tok} {Q : Value → Shared → Prop} (F : St c X s₀ g₀ g L m s) (hz : x.length ≤ 16777216) (h : ∀ t s', St c X s₀ g₀ g L m s' → Q (.int x.length t) s') : wpAny c.M A (call (.builtin "len") [.bytes x.toArray t]) Q E s :=
  len_bytes (by simpa using Nat.le_trans hz (by decide)) (by rw [List.size_toArray]; exact h _ _ (F.toks _))
theorem r_eqB {x y : List UInt8} {t u : Tok} {Q : Value → Shared → Prop} (h : Q (.bool (x == y)) s) : wpAny c.M A (compareOp .Eq (.bytes x.toArray t) (.bytes y.toArray u)) Q E s := eq_bytes h
theorem r_neB {x y : List UInt8} {t u : Tok} {Q : Value → Shared → Prop} (h : Q (.bool (x != y)) s) : wpAny c.M A (compareOp .NotEq (.bytes x.toArray t) (.bytes y.toArray u)) Q E s := ne_bytes h
theorem r_itemB {value slice : Expr} {x : List UInt8} {i : Int} {t ui : Tok} {Q : Value → Shared → Prop} (F : St c X s₀ g₀ g L m s) (hz : x.length ≤ 16777216) (h0 : 0 ≤ i) (h1 : i < (x.length : Int))
    (h : ∀ t s', St c X s₀ g₀ g L m s' → Q (.int (x.getD i.toNat 0).toNat t) s')
    (hs : subscripted slice false (.bytes x.toArray t) (.int i ui) = operate [.bytes x.toArray t, .int i ui] (getItem (.bytes x.toArray t) (.int i ui)) := by with_unfolding_all rfl)
    (ht : ∀ r, letTemporaryGo value (.bytes x.toArray t) r = pure () := by intro _; with_unfolding_all rfl) : wpAny c.M A (subscriptTail value slice (.bytes x.toArray t) (.int i ui)) Q E s :=
  KBy.item_N (Nat.le_trans hz (by decide)) h0 h1 (h _ _ (F.toks _)) hs ht

/-- the part of a list that a slice takes -/
def slc {α : Type} (x : List α) (lo hi : Option Int) : List α := (x.drop (lo.elim 0 (clipAt x.length))).take (hi.elim x.length (clipAt x.length) - lo.elim 0 (clipAt x.length))
theorem slc_nn {α : Type} (x : List α) (a b : Nat) : slc x (some a) (some b) = (x.drop a).take (b - a) := by
  unfold slc
  simp only [Option.elim, clipAt_nat]
  rcases Nat.le_total a x.length with h | h
  · rw [Nat.min_eq_left h]
    rcases Nat.le_total b x.length with h' | h'
    · rw [Nat.min_eq_left h']
    · rw [Nat.min_eq_right h', List.take_of_length_le (by rw [List.length_drop]; exact Nat.le_refl _), List.take_of_length_le (by rw [List.length_drop]; omega)]
  · rw [Nat.min_eq_right h, List.drop_of_length_le h, List.drop_of_length_le (Nat.le_refl _)]; simp
theorem slc_n0 {α : Type} (x : List α) (a : Nat) : slc x (some a) none = x.drop a := by
  unfold slc
  simp only [Option.elim, clipAt_nat]
  rcases Nat.le_total a x.length with h | h
  · rw [Nat.min_eq_left h, List.take_of_length_le (by rw [List.length_drop]; exact Nat.le_refl _)]
  · rw [Nat.min_eq_right h, List.drop_of_length_le h, List.drop_of_length_le (Nat.le_refl _)]; simp
theorem slc_0n {α : Type} (x : List α) (b : Nat) : slc x none (some b) = x.take b := by
  unfold slc
  simp only [Option.elim, clipAt_nat, List.drop_zero, Nat.sub_zero]
  rcases Nat.le_total b x.length with h | h
  · rw [Nat.min_eq_left h]
  · rw [Nat.min_eq_right h, List.take_of_length_le (Nat.le_refl _), List.take_of_length_le h]

/-- a slice of bytes, the whole expression -/
theorem r_sliceB {value : Expr} {lower upper : Option Expr} {p pos : Pos} {Q : Value → Shared → Prop}
    (h : wpAny c.M A (eval value env) (fun o s₁ => wpAny c.M A (evalPart lower env) (fun vl s₂ => wpAny c.M A (evalPart upper env) (fun vu s₃ =>
      ∃ (x : List UInt8) (t : Tok) (lo hi : Option Int) (X : Addr → Prop) (s₀ : Shared) (g₀ g : Heap) (L : Addr) (m : Str → Option Value), o = .bytes x.toArray t ∧ x.length ≤ 16777216 ∧ IsPart vl lo ∧ IsPart vu hi ∧ St c X s₀ g₀ g L m s₃ ∧
        ∀ t s', St c X s₀ g₀ g L m s' → Q (.bytes (slc x lo hi).toArray t) s') E s₂) E s₁) E s) (hn : ∀ o r, letTemporaryGo value o r = pure () := by intro _ _; rfl) :
    wpAny c.M A (eval (.Subscript value (.Slice lower upper none p) pos) env) Q E s := by
  refine wpAny_Subscript_Slice (T := "bytes") FB.slot_bytes_getitem.lookup (wpAny_mono h (fun o s₁ h₁ => wpAny_Slice (wpAny_mono h₁ (fun vl s₂ h₂ => wpAny_mono h₂ (fun vu s₃ h₃ => ?_) fun _ _ q => q) fun _ _ q => q)) fun _ _ q => q) hn
  refine wpAny_pure ?_
  obtain ⟨x, t, lo, hi, X, s₀, g₀, g, L, m, rfl, hz, hl, hu, F, k⟩ := h₃
  have F' := F.stay (Ext.push (c := c) (X := noX) (s := s₃) (tk := s₃.toks) { cls := .type "slice", data := .fields #[vl, vu, .none] })
  refine ⟨typeIs_bytes _ _ _, getItem_meets (typeIs_bytes _ _ _) (by decide) FB.slot_bytes_getitem FB.entry_bytes_getitem (FB.args_bytes_getitem_2 _ _) (KBc.meets_slice2 x.toArray t _ hl hu)
    ⟨Heap.IsSliceOf.new _ _ _ _, Nat.le_trans (KBc.size_picked_le _ lo hi) (by rw [List.size_toArray, sizeLine_eq]; exact hz), fun t' k' => ?_⟩⟩
  have e : KBy.picked x.toArray lo hi = (slc x lo hi).toArray := by
    rw [KBc.picked_eq, List.size_toArray]; rfl
  rw [e]
  exact k _ _ (F'.toks _)

/-! ## calls -/
theorem r_call {func : Expr} {args : List Expr} {pos : Pos} {Q : Value → Shared → Prop}
    (h : wpAny c.M A (eval func env) (fun f s₁ => wpAny c.M A (callWith pos f [] (backTo pos (starEach args env)) []) Q E s₁) E s)
    (he : eval (.Call func args [] pos) env = (do callWith pos (← eval func env) [] (backTo pos (starEach args env)) (backToKw pos (keywordEach [] env))) := by rfl) :
    wpAny c.M A (eval (.Call func args [] pos) env) Q E s := PyProof.Rows.Call_ h he

theorem r_args_nil {pos : Pos} {Q : List Value → Shared → Prop} (h : Q [] s) : wpAny c.M A (spliced (backTo pos (starEach [] env))) Q E s := wpAny_items_nil h
theorem r_args_cons {pos : Pos} {e : Expr} {rest : List Expr} {Q : List Value → Shared → Prop}
    (h : wpAny c.M A (eval e env) (fun v s₁ => wpAny c.M A (spliced (backTo pos (starEach rest env))) (fun vs s₂ => Q (v :: vs) s₂) E s₁) E s)
    (he : starEach (e :: rest) env = (false, eval e env) :: starEach rest env := by rfl) : wpAny c.M A (spliced (backTo pos (starEach (e :: rest) env))) Q E s := wpAny_items_cons h he

theorem r_with_def {d : DefRec} {f : Addr} {pos : Pos} {e : Expr} {rest : List Expr} {Q : Value → Shared → Prop} (ok : c.Ok) (hf : At c d f)
    (h : wpAny c.M A (spliced (backTo pos (starEach (e :: rest) env))) (fun vs s₁ => Le c.G s₁.heap ∧ wpAny c.M A (call (.ref f) vs) Q E s₁) E s)
    (he : starEach (e :: rest) env = (false, eval e env) :: starEach rest env := by rfl) : wpAny c.M A (callWith pos (.ref f) [] (backTo pos (starEach (e :: rest) env)) []) Q E s := by
  obtain ⟨a, o, pm, code, doc, h1, h2, h3, h4, h5⟩ := ok.fn d hf.mem
  have e' : a = f := by have := hf.nm; rw [h1] at this; cases this; rfl
  subst e'
  exact callWith_def h3 (wpAny_mono h (fun vs s₁ q => ⟨q.1 _ _ h2, q.2⟩) fun _ _ q => q) he
theorem r_with_builtin {id : String} {pos : Pos} {e : Expr} {rest : List Expr} {Q : Value → Shared → Prop}
    (h : wpAny c.M A (spliced (backTo pos (starEach (e :: rest) env))) (fun vs s₁ => wpAny c.M A (call (.builtin id) vs) Q E s₁) E s)
    (he : starEach (e :: rest) env = (false, eval e env) :: starEach rest env := by rfl) (hn : ((backTo pos (starEach rest env)).any (·.1)) = false := by rfl) :
    wpAny c.M A (callWith pos (.builtin id) [] (backTo pos (starEach (e :: rest) env)) []) Q E s := PyProof.Rows.callWith_builtin1 h he hn
theorem r_with_type {T : String} {pos : Pos} {e : Expr} {rest : List Expr} {Q : Value → Shared → Prop}
    (h : wpAny c.M A (spliced (backTo pos (starEach (e :: rest) env))) (fun vs s₁ => wpAny c.M A (call (.type T) vs) Q E s₁) E s)
    (he : starEach (e :: rest) env = (false, eval e env) :: starEach rest env := by rfl) (hn : ((backTo pos (starEach rest env)).any (·.1)) = false := by rfl) :
    wpAny c.M A (callWith pos (.type T) [] (backTo pos (starEach (e :: rest) env)) []) Q E s := PyProof.Rows.callWith_type1 h he hn
end
end Mine
end
section
namespace Mine

/-- big-endian digits, one at least -/
noncomputable def be (n : Nat) : List UInt8 := if h : n < 256 then [UInt8.ofNat n] else be (n / 256) ++ [UInt8.ofNat (n % 256)]
termination_by n
decreasing_by omega

theorem be_small {n : Nat} (h : n < 256) : be n = [UInt8.ofNat n] := by rw [be, dif_pos h]
theorem be_big {n : Nat} (h : ¬ n < 256) : be n = be (n / 256) ++ [UInt8.ofNat (n % 256)] := by rw [be, dif_neg h]
theorem be_pos (n : Nat) : 0 < (be n).length := by
  by_cases h : n < 256
  · rw [be_small h]; simp
  · rw [be_big h]; simp

theorem be_ints (n : Nat) : (be n).map (fun c => ((c.toNat : Nat) : Int)) = ((List.range (be n).length).map fun i => (n : Int) / 256 ^ i % 256).reverse := by
  induction n using Nat.strongRecOn with
  | _ n ih =>
    by_cases h : n < 256
    · rw [be_small h]
      have : (n : Int) % 256 = n := by omega
      simp [this, Nat.mod_eq_of_lt h]
    · rw [be_big h, List.map_append, ih (n / 256) (by omega), List.length_append, List.length_singleton, List.range_succ_eq_map]
      simp only [List.map_cons, List.map_nil, List.map_map, List.reverse_cons]
      congr 1
      · congr 1
        apply List.map_congr_left
        intro i _
        show ((n / 256 : Nat) : Int) / 256 ^ i % 256 = (n : Int) / 256 ^ (i + 1) % 256
        rw [Int.pow_succ, Int.mul_comm, Int.natCast_ediv, Int.ediv_ediv_of_nonneg (by decide)]
        rfl
      · simp only [Int.pow_zero, Int.ediv_one]
        congr 1
        rw [UInt8.toNat_ofNat']
        omega

theorem log2_256 {n : Nat} (h : ¬ n < 256) : n.log2 = (n / 256).log2 + 8 := by
  have step : ∀ m : Nat, 2 ≤ m → m.log2 = (m / 2).log2 + 1 := fun m hm => by rw [Nat.log2_def, if_pos hm]
  rw [step n (by omega), step (n / 2) (by omega), step (n / 2 / 2) (by omega), step (n / 2 / 2 / 2) (by omega), step (n / 2 / 2 / 2 / 2) (by omega), step (n / 2 / 2 / 2 / 2 / 2) (by omega),
    step (n / 2 / 2 / 2 / 2 / 2 / 2) (by omega), step (n / 2 / 2 / 2 / 2 / 2 / 2 / 2) (by omega)]
  have : n / 2 / 2 / 2 / 2 / 2 / 2 / 2 / 2 = n / 256 := by simp only [Nat.div_div_eq_div_mul]
  rw [this]
theorem be_length {n : Nat} (h : 0 < n) : (be n).length = (n.log2 + 1 + 7) / 8 := by
  induction n using Nat.strongRecOn with
  | _ n ih =>
    by_cases h' : n < 256
    · rw [be_small h']
      have : n.log2 < 8 := (Nat.log2_lt (by omega)).mpr h'
      simp only [List.length_singleton]; omega
    · rw [be_big h', List.length_append, ih (n / 256) (by omega) (by omega), log2_256 h', List.length_singleton]; omega
theorem lt_be (n : Nat) : n < 256 ^ (be n).length := by
  induction n using Nat.strongRecOn with
  | _ n ih =>
    by_cases h' : n < 256
    · rw [be_small h']; simpa using h'
    · rw [be_big h', List.length_append, List.length_singleton, Nat.pow_succ]
      have := ih (n / 256) (by omega)
      omega
/-- how a length is told ahead -/
noncomputable def hd (off n : Nat) : List UInt8 := if n < 56 then [UInt8.ofNat (off + n)] else UInt8.ofNat (off + 55 + (be n).length) :: be n

theorem be_le {n k : Nat} (h : n < 256 ^ k) (hk : 0 < k) : (be n).length ≤ k := by
  induction n using Nat.strongRecOn generalizing k with
  | _ n ih =>
    by_cases h' : n < 256
    · rw [be_small h']; simp only [List.length_singleton]; omega
    · rw [be_big h', List.length_append, List.length_singleton]
      obtain ⟨k, rfl⟩ : ∃ j, k = j + 1 := ⟨k - 1, by omega⟩
      have hk' : 0 < k := by
        rcases Nat.eq_zero_or_pos k with rfl | h0
        · simp at h; omega
        · exact h0
      have := ih (n / 256) (by omega) (k := k) (by rw [Nat.pow_succ] at h; omega) hk'
      omega
end Mine
end
section
open PySem PySem.Calls PySem.Spec PyProof.Rows PySem.W
set_option maxRecDepth 100000
namespace Mine

theorem toNat_map_inj : ∀ {x y : List UInt8}, x.map (fun c => ((c.toNat : Nat) : Int)) = y.map (fun c => ((c.toNat : Nat) : Int)) → x = y
  | [], [], _ => rfl
  | [], _ :: _, h => by simp at h
  | _ :: _, [], h => by simp at h
  | a :: x, b :: y, h => by
    simp only [List.map_cons, List.cons.injEq] at h
    rw [toNat_map_inj h.2, UInt8.toNat_inj.mp (Int.natCast_inj.mp h.1)]

theorem bytes_of_ints {b : Array UInt8} {x : List UInt8} (h : KBw.bInts b = x.map fun c => ((c.toNat : Nat) : Int)) : b = x.toArray := by
  have : b.toList = x := toNat_map_inj h
  rw [← this, Array.toArray_toList]

section
variable {c : Cfg} {A : Around} {E : Value → Shared → Prop} {s : Shared} {g : Heap}

theorem i2b_ok {f : Addr} {n : Nat} {t : Tok} {Q : Value → Shared → Prop} (ok : c.Ok) (hf : At c dI2B f) (z : Fz c g s) (hroom : A.depth < recursionLimit) (hn : n < 2 ^ 64)
    (h : ∀ t s', Pex c s s' → Q (.bytes (be n).toArray t) s') : wpAny c.M A (call (.ref f) [.int n t]) Q E s := by
  refine call_def (X := noX) (binds := [("value", .int n t)]) ok hf z (fun _ q => q.elim) (fun _ q => q.elim) hroom (fun _ _ _ => by rfl) (locs rfl) (fun cd s₁ _ F => ?_)
  refine wpAny_execs_cons (wpAny_Return_some (MethodCall_ (r_name F (by rfl) (KTBy.method (callWith_method1 ?_)))))
  refine r_args_cons (wpAny_mono (Q := fun v s' => ∃ tk, v = .int ((be n).length : Nat) tk ∧ St c noX s g g s.heap.objs.size (fun x => List.lookup x [(Str.ofString "value", Value.int n t)].reverse) s') (BoolOp_or ?_) (fun v s6 q => ?_) (fun _ _ q => q))
  · refine wpAny_BinOp (wpAny_BinOp (MethodCall_ (r_name F (by rfl) ?_)))
    refine getMethod_int_bit_length (callWith_method0 (call_int_bit_length ?_))
    refine r_int (F.toks _) fun t2 s2 F2 => r_addI F2 fun t3 s3 F3 => r_int F3 fun t4 s4 F4 => ?_
    have hb : Builtin.Int.intBits (n : Int) ≤ 64 := by
      unfold Builtin.Int.intBits
      split
      · omega
      · rename_i h0
        have h1 : n ≠ 0 := by rintro rfl; exact h0 rfl
        have := (Nat.log2_lt h1 (k := 64)).mpr hn
        simp only [Int.natAbs_natCast]; omega
    refine r_divI F4 (by decide) (by omega) (by decide) fun t5 s5 F5 => ?_
    refine PyProof.Rows.truthy_int ?_
    by_cases h0 : n = 0
    · subst h0
      rw [if_neg (by decide)]
      refine BoolOp_one (r_int F5 fun t6 s6 F6 => ⟨t6, by rw [be_small (by decide)]; rfl, F6⟩)
    · have e : ((Builtin.Int.intBits (n : Int) : Int) + 7) / 8 = ((be n).length : Nat) := by
        rw [be_length (by omega)]
        unfold Builtin.Int.intBits
        rw [if_neg (by simpa using h0)]
        simp only [Int.natAbs_natCast]; omega
      rw [e]
      have hp := be_pos n
      rw [if_pos (by
        have h9 : (((be n).length : Nat) : Int) ≠ 0 := by omega
        simpa using h9)]
      exact ⟨t5, rfl, F5⟩
  · obtain ⟨tk, rfl, F6⟩ := q
    refine r_args_cons (r_str F6 fun t7 s7 F7 => r_args_nil ?_)
    have hlt := lt_be n
    refine KTBy.to_big (B := 256 ^ (be n).length) (be_le (k := 8) (Nat.lt_of_lt_of_eq hn (by decide)) (by decide)) rfl (by omega) (by exact_mod_cast hlt) fun b t' k' hbi _ => ?_
    have e : b = (be n).toArray := by
      refine bytes_of_ints ?_
      rw [hbi, be_ints, KTBy.little_eq]
    rw [e]
    exact h _ _ (F7.toks k').ext
end
end Mine
end
section
open PySem PySem.Calls PySem.Spec PyProof.Rows PySem.W
set_option maxRecDepth 100000
namespace Mine

/-- the value of big-endian digits -/
def val (x : List UInt8) : Nat := x.foldl (fun a b => a * 256 + b.toNat) 0

theorem val_snoc (x : List UInt8) (b : UInt8) : val (x ++ [b]) = val x * 256 + b.toNat := by
  unfold val; rw [List.foldl_append]; rfl
theorem val_be (n : Nat) : val (be n) = n := by
  induction n using Nat.strongRecOn with
  | _ n ih =>
    by_cases h : n < 256
    · rw [be_small h]
      show 0 * 256 + (UInt8.ofNat n).toNat = n
      rw [UInt8.toNat_ofNat']; omega
    · rw [be_big h, val_snoc, ih _ (by omega), UInt8.toNat_ofNat']; omega

theorem kfb_val (x : List UInt8) : KFB.value (KBw.bInts x.toArray) = (val x : Int) := (KFB.fold_cast x 0).symm

section
variable {c : Cfg} {X : Addr → Prop} {A : Around} {E : Value → Shared → Prop} {s₀ s : Shared} {g₀ g : Heap} {L f : Addr} {m : Str → Option Value} {env : Env}

theorem b2i_ok {x : List UInt8} {t : Tok} {Q : Value → Shared → Prop} (ok : c.Ok) (hf : At c dB2I f) (z : Fz c g s) (hroom : A.depth < recursionLimit) (hx : x.length ≤ 8)
    (h : ∀ t s', Pex c s s' → Q (.int (val x) t) s') : wpAny c.M A (call (.ref f) [.bytes x.toArray t]) Q E s := by
  obtain ⟨a, o, pm, code, doc, h1, h2, h3, h4, h5⟩ := ok.fn dB2I hf.mem
  have e : a = f := by have := hf.nm; rw [h1] at this; cases this; rfl
  subst e
  have hle : ∀ b o, c.G.get? b = some o → s.heap.get? b = some o := fun b o q => z.le b o (z.base b o q)
  refine wpAny_call (call_plain_ret (binds := [("value", .bytes x.toArray t)]) hroom (hle _ _ h2) h3 (ok.lim.keeps hle) (h4.keeps hle) (by rfl) (locs rfl) (fun h₁ F₁ => ?_) (by rfl) (by rfl) (by rfl) (by decide))
  refine wpAny_execs_cons (wpAny_Return_some (MethodCall_ ?_))
  refine Name_function_global (by rfl) (by rfl) (loadGlobal_builtin (ok.g.keeps fun b o q => F₁.keep b o (hle b o q)) (ok.bt _ (by decide)).1 (ok.b.keeps fun b o q => F₁.keep b o (hle b o q)) ((ok.bt _ (by decide)).2.trans (by rfl)) ?_) (by decide)
  refine KFB.getm (K := []) F₁ News.nil (fun _ _ e => by cases e) (by first | rfl | kernel_rfl) fun x' h' F' N' hlt => ?_
  refine KFB.callWith_bound (news := [(x', KFB.bound)]) N' (.head _) ?_
  refine r_args_cons (wpAny_Name (wpAny_loadName_local (by rfl) (by rfl) F'.ns (by rfl) ?_) (by decide))
  refine r_args_cons (Calls.Constant_str (r_args_nil ⟨KFB.at_of N' (.head _), ?_⟩))
  refine KFB.call_big N' (.head _) rfl (by rw [KBw.ints_length]; simpa using hx) fun t' k => ?_
  rw [kfb_val]
  exact h _ _ (Ext.of_heap F'.keep (Nat.le_of_lt F'.ns.lt))

/-! ## branches -/
theorem r_yes {b : Bool} {P R : Shared → Prop} (hb : b = true) (h : P s) : wpAny c.M A (truthy (.bool b)) (fun b s' => if b = true then P s' else R s') E s := by subst hb; exact wpAny_truthy_bool h
theorem r_no {b : Bool} {P R : Shared → Prop} (hb : b = false) (h : R s) : wpAny c.M A (truthy (.bool b)) (fun b s' => if b = true then P s' else R s') E s := by subst hb; exact wpAny_truthy_bool h

theorem r_yesD {p : Prop} [Decidable p] {P R : Shared → Prop} (hb : p) (h : P s) : wpAny c.M A (truthy (.bool (decide p))) (fun b s' => if b = true then P s' else R s') E s := r_yes (decide_eq_true hb) h
theorem r_noD {p : Prop} [Decidable p] {P R : Shared → Prop} (hb : ¬ p) (h : R s) : wpAny c.M A (truthy (.bool (decide p))) (fun b s' => if b = true then P s' else R s') E s := r_no (decide_eq_false hb) h

/-! ## makers -/
theorem r_newT {vs : List Value} {Q : Value → Shared → Prop} (F : St c X s₀ g₀ g L m s) (hz : vs.length ≤ 1000)
    (h : ∀ a g' s', Le g g' → St c X s₀ g₀ g' L m s' → Tp g' a vs → s.heap.objs.size ≤ a → Q (.ref a) s') : wpAny c.M A (newTuple vs) Q E s := by
  refine wpAny_newObj_type (h _ _ _ (le_grow ?_) (F.pex (Ext.push (s := s) (tk := s.toks) _)) ⟨{ cls := .type "tuple", data := .seq vs.toArray }, ?_, rfl, 0, rfl⟩ (Nat.le_refl _)) (by show vs.toArray.size ≤ sizeLine; rw [List.size_toArray, sizeLine_eq]; omega)
  · exact (F.stay (X := X) (Ext.push (c := c) (s := s) (tk := s.toks) _)).fz.le
  · rw [grow_new (Nat.le_refl _)]; exact Heap.get?_push_size _ rfl
theorem r_newL {vs : List Value} {Q : Value → Shared → Prop} (F : St c X s₀ g₀ g L m s) (hz : vs.length ≤ 1000)
    (h : ∀ a g' s', Le g g' → St c X s₀ g₀ g' L m s' → Ls g' a vs → s.heap.objs.size ≤ a → Q (.ref a) s') : wpAny c.M A (newList vs) Q E s := by
  refine wpAny_newObj_type (h _ _ _ (le_grow ?_) (F.pex (Ext.push (s := s) (tk := s.toks) _)) ⟨{ cls := .type "list", data := .seq vs.toArray }, ?_, rfl, 0, rfl⟩ (Nat.le_refl _)) (by show vs.toArray.size ≤ sizeLine; rw [List.size_toArray, sizeLine_eq]; omega)
  · exact (F.stay (X := X) (Ext.push (c := c) (s := s) (tk := s.toks) _)).fz.le
  · rw [grow_new (Nat.le_refl _)]; exact Heap.get?_push_size _ rfl
theorem r_tuple {elts : List Expr} {k : Nat} {pos : Pos} {Q : Value → Shared → Prop}
    (h : wpAny c.M A (spliced (backTo pos (starEach elts env))) (fun vs s₁ => wpAny c.M A (newTuple vs) Q E s₁) E s) : wpAny c.M A (eval (.Tuple elts k pos) env) Q E s := Tuple_ h
theorem r_list {elts : List Expr} {pos : Pos} {Q : Value → Shared → Prop}
    (h : wpAny c.M A (spliced (backTo pos (starEach elts env))) (fun vs s₁ => wpAny c.M A (newList vs) Q E s₁) E s) : wpAny c.M A (eval (.List elts pos) env) Q E s := List_ h

/-- ALL_BYTES[i] -/
theorem r_allb {value slice : Expr} {a : Addr} {k : Int} {n : Nat} {u : Tok} {Q : Value → Shared → Prop} (ok : c.Ok) (F : Fz c g s) (ha : c.mg "ALL_BYTES" = some (.ref a)) (hk : k = n) (hn : n < 256)
    (h : ∀ t, Q (.bytes [UInt8.ofNat n].toArray t) s)
    (hs : subscripted slice false (.ref a) (.int k u) = operate [.ref a, .int k u] (getItem (.ref a) (.int k u)) := by with_unfolding_all rfl) (hg : ∀ r, letTemporaryGo value (.ref a) r = pure () := by intro _; with_unfolding_all rfl) :
    wpAny c.M A (subscriptTail value slice (.ref a) (.int k u)) Q E s := by
  obtain ⟨a', items, e, ht, hz, hi⟩ := ok.allb
  rw [ha] at e; cases e
  obtain ⟨t, hx⟩ := hi n hn
  obtain ⟨o, q1, q2⟩ := ht
  refine item_tuple (t := a) (items := items) (j := n) ⟨o, F.le _ _ (F.base _ _ q1), q2⟩ (by omega) (by omega) ?_ hx (h t) hs hg
  subst hk
  unfold seqIndex?
  simp only [hz]
  split <;> simp_all <;> omega
end

section
variable {c : Cfg} {A : Around} {E : Value → Shared → Prop} {s : Shared} {g : Heap} {f : Addr}

theorem pre_ok {n off : Nat} {t u : Tok} {Q : Value → Shared → Prop} (ok : c.Ok) (hf : At c dPre f) (z : Fz c g s) (hroom : A.depth + 1 < recursionLimit) (hn : n < 2 ^ 64) (ho : off ≤ 192)
    (h : ∀ t s', Pex c s s' → Q (.bytes (hd off n).toArray t) s') : wpAny c.M A (call (.ref f) [.int n t, .int off u]) Q E s := by
  refine call_def (X := noX) (binds := [("length", .int n t), ("offset", .int off u)]) ok hf z (fun _ q => q.elim) (fun _ q => q.elim) (by omega) (fun _ _ _ => by rfl) (locs rfl) (fun cd s₁ _ F => ?_)
  obtain ⟨aB, _, hB, _⟩ := ok.allb
  refine wpAny_execs_cons (wpAny_If (wpAny_isTrue_Compare1 (r_name F (by rfl) (r_int F fun t2 s2 F2 => r_ltI ?_))))
  by_cases h0 : n < 56
  · refine r_yesD (by omega) ?_
    refine wpAny_execs_cons (wpAny_Return_some (Subscript_ (r_global ok F2.fz hB (wpAny_BinOp (r_name F2 (by rfl) (r_name F2 (by rfl) (r_addI F2 fun t3 s3 F3 => ?_)))))))
    refine r_allb (n := off + n) ok F3.fz hB (by push_cast; rfl) (by omega) fun t4 => ?_
    have e : hd off n = [UInt8.ofNat (off + n)] := by rw [hd, if_pos h0]
    rw [← e]
    exact h _ _ F3.ext
  · refine r_noD (by omega) ?_
    obtain ⟨tL, hL⟩ := ok.long
    refine wpAny_execs_cons (wpAny_If (wpAny_isTrue_Compare1 (r_name F2 (by rfl) (r_global ok F2.fz hL (r_ltI ?_)))))
    have hn' : (n : Int) < 2 ^ 64 := by omega
    refine wpAny_truthy_bool ?_
    rw [if_pos (decide_eq_true hn')]
    obtain ⟨fI, hI⟩ := ok.at_ (d := dI2B) (by rw [recs_eq]; simp)
    refine wpAny_execs_cons (wpAny_Assign_Name (r_call (r_global ok F2.fz hI.nm (r_with_def ok hI (r_args_cons (r_name F2 (by rfl) (r_args_nil ⟨fun b o q => F2.fz.le b o (F2.fz.base b o q), ?_⟩)))))))
    refine i2b_ok ok hI F2.fz (by simp only [depth_deeper]; omega) hn fun t3 s3 P3 => ?_
    have F3 := F2.pex P3
    refine r_store F3 fun s4 F4 => ?_
    refine wpAny_execs_cons (wpAny_Return_some (wpAny_BinOp (Subscript_ (r_global ok F4.fz hB (wpAny_BinOp (wpAny_BinOp (wpAny_BinOp (r_name F4 (by rfl) (r_int F4 fun t5 s5 F5 => r_addI F5 fun t6 s6 F6 => r_int F6 fun t7 s7 F7 => r_subI F7 fun t8 s8 F8 => ?_)))))))))
    have hlen : (be n).length ≤ 8 := be_le (Nat.lt_of_lt_of_eq hn (by decide)) (by decide)
    refine r_call (r_builtin ok F8.fz (by rfl) (r_with_builtin (r_args_cons (r_name F8 (by rfl) (r_args_nil (r_lenB F8 (by omega) fun t9 s9 F9 => r_addI F9 fun t10 s10 F10 => ?_))))))
    refine r_allb (n := off + 55 + (be n).length) ok F10.fz hB (by push_cast; omega) (by omega) fun t11 => ?_
    refine r_name F10 (by rfl) (r_addB F10 (by simp; omega) fun t12 s12 F12 => ?_)
    have e : hd off n = [UInt8.ofNat (off + 55 + (be n).length)] ++ be n := by rw [hd, if_neg h0]; rfl
    rw [← e]
    exact h _ _ F12.ext
end
end Mine
end
section
open PySem PySem.Calls PySem.Spec PyProof.Rows PySem.W
set_option maxRecDepth 100000
namespace Mine

def kindS (b : Bool) : Str := if b then Str.ofString "list" else Str.ofString "bytes"

/-- what the reader of a prefix answers -/
def clp (x : List UInt8) (st : Nat) : Option (List UInt8 × Bool × Nat × Nat) :=
  if st < x.length then
    let b := (x.getD st 0).toNat
    if b < 128 then some ([], false, 1, st)
    else if b < 184 then
      if b = 129 ∧ ¬ (st + 1 < x.length ∧ 128 ≤ (x.getD (st + 1) 0).toNat) then none
      else some ((x.drop st).take 1, false, b - 128, st + 1)
    else if b < 192 then
      if (x.drop (st + 1)).take 1 = [0] ∨ val ((x.drop (st + 1)).take (b - 183)) < 56 then none
      else some ((x.drop st).take 1 ++ (x.drop (st + 1)).take (b - 183), false, val ((x.drop (st + 1)).take (b - 183)), st + 1 + (b - 183))
    else if b < 248 then some ((x.drop st).take 1, true, b - 192, st + 1)
    else
      if (x.drop (st + 1)).take 1 = [0] ∨ val ((x.drop (st + 1)).take (b - 247)) < 56 then none
      else some ((x.drop st).take 1 ++ (x.drop (st + 1)).take (b - 247), true, val ((x.drop (st + 1)).take (b - 247)), st + 1 + (b - 247))
  else none

section
variable {c : Cfg} {X : Addr → Prop} {A : Around} {E : Value → Shared → Prop} {s₀ s : Shared} {g₀ g : Heap} {L f : Addr} {m : Str → Option Value} {env : Env}

/-- rlp[a:b] -/
theorem r_sl2 {value lower upper : Expr} {p pos : Pos} {Q : Value → Shared → Prop}
    (h : wpAny c.M A (eval value env) (fun o s₁ => wpAny c.M A (eval lower env) (fun vl s₂ => wpAny c.M A (eval upper env) (fun vu s₃ =>
      ∃ (x : List UInt8) (t : Tok) (a b : Nat) (ia ib : Int) (ta tb : Tok) (X : Addr → Prop) (s₀ : Shared) (g₀ g : Heap) (L : Addr) (m : Str → Option Value), o = .bytes x.toArray t ∧ x.length ≤ 16777216 ∧ vl = .int ia ta ∧ vu = .int ib tb ∧ ia = a ∧ ib = b ∧ St c X s₀ g₀ g L m s₃ ∧
        ∀ t s', St c X s₀ g₀ g L m s' → Q (.bytes ((x.drop a).take (b - a)).toArray t) s') E s₂) E s₁) E s) (hn : ∀ o r, letTemporaryGo value o r = pure () := by intro _ _; rfl) :
    wpAny c.M A (eval (.Subscript value (.Slice (some lower) (some upper) none p) pos) env) Q E s := by
  refine r_sliceB (wpAny_mono h (fun o s₁ h₁ => wpAny_evalPart_some (wpAny_mono h₁ (fun vl s₂ h₂ => wpAny_evalPart_some (wpAny_mono h₂ (fun vu s₃ h₃ => ?_) fun _ _ q => q)) fun _ _ q => q)) fun _ _ q => q) hn
  obtain ⟨x, t, a, b, ia, ib, ta, tb, X, s₀, g₀, g, L, m, rfl, hz, rfl, rfl, rfl, rfl, F, k⟩ := h₃
  refine ⟨x, t, some a, some b, X, s₀, g₀, g, L, m, rfl, hz, .int _ _, .int _ _, F, fun t s' F' => ?_⟩
  rw [slc_nn]
  exact k _ _ F'

/-- the four parts in a tuple, at the end of a frame -/
theorem clp_end {s0 : Shared} {gg : Heap} {p : List UInt8} {t1 t2 t3 t4 : Tok} {k : Str} {l st : Nat} {Q : Value → Shared → Prop} (F : St c noX s0 gg g L m s)
    (h : ∀ a t1 t2 t3 t4 s', Pex c s0 s' → Tp (grow gg s0.heap.objs.size s'.heap) a [.bytes p.toArray t1, .str k t2, .int l t3, .int st t4] → Q (.ref a) s') :
    wpAny c.M A (newTuple [.bytes p.toArray t1, .str k t2, .int l t3, .int st t4]) Q E s :=
  r_newT F (by simp) fun a g' s' _ F' T _ => h _ _ _ _ _ _ F'.ext (T.mono F'.le_end)

set_option maxHeartbeats 8000000 in
theorem clp_ok {x : List UInt8} {st : Nat} {t u : Tok} {p : List UInt8} {k : Bool} {l st' : Nat} {Q : Value → Shared → Prop} (ok : c.Ok) (hf : At c dClp f) (z : Fz c g s) (hroom : A.depth + 1 < recursionLimit) (hx : x.length ≤ 16777216)
    (he : clp x st = some (p, k, l, st'))
    (h : ∀ a t1 t2 t3 t4 s', Pex c s s' → Tp (grow g s.heap.objs.size s'.heap) a [.bytes p.toArray t1, .str (kindS k) t2, .int l t3, .int st' t4] → Q (.ref a) s') :
    wpAny c.M A (call (.ref f) [.bytes x.toArray t, .int st u]) Q E s := by
  refine call_def (X := noX) (binds := [("rlp", .bytes x.toArray t), ("start", .int st u)]) ok hf z (fun _ q => q.elim) (fun _ q => q.elim) (by omega) (fun _ _ _ => by rfl) (locs rfl) (fun cd s₁ _ F => ?_)
  have hst : st < x.length := by
    rcases Nat.lt_or_ge st x.length with q | q
    · exact q
    · rw [clp, if_neg (by omega)] at he; cases he
  rw [clp, if_pos hst] at he
  dsimp only at he
  have hb := (x.getD st 0).toNat_lt
  generalize hbd : (x.getD st 0).toNat = b at he hb
  obtain ⟨tS, hS⟩ := ok.short
  refine wpAny_execs_cons (wpAny_Assign_Name (Subscript_ (r_name F (by rfl) (r_name F (by rfl) (r_itemB F hx (by omega) (by omega) fun t1 s1 F1 => r_store F1 fun s2 F2 => ?_)))))
  rw [Int.toNat_natCast, hbd] at F2
  clear F F1
  refine wpAny_execs_cons (wpAny_If (wpAny_isTrue_Compare1 (r_name F2 (by rfl) (r_int F2 fun t3 s3 F3 => r_ltI ?_))))
  by_cases h1 : b < 128
  · rw [if_pos h1] at he; cases he
    refine r_yesD (by omega) ?_
    refine wpAny_execs_cons (wpAny_Return_some (r_tuple (r_args_cons (r_bytesC F3 fun t4 s4 F4 => r_args_cons (r_str F4 fun t5 s5 F5 => r_args_cons (r_int F5 fun t6 s6 F6 => r_args_cons (r_name F6 (by rfl) (r_args_nil ?_))))))))
    exact clp_end F6 h
  rw [if_neg h1] at he
  refine r_noD (by omega) ?_
  refine wpAny_execs_cons (wpAny_If (wpAny_isTrue_Compare1 (r_name F3 (by rfl) (r_global ok F3.fz hS (r_ltI ?_)))))
  by_cases h2 : b < 184
  · rw [if_pos h2] at he
    have h129 : b = 129 → st + 1 < x.length ∧ 128 ≤ (x.getD (st + 1) 0).toNat := fun q => by
      refine Classical.byContradiction fun w => ?_
      rw [if_pos ⟨q, w⟩] at he; cases he
    rw [if_neg (fun q => q.2 (h129 q.1))] at he; cases he
    refine r_yesD (by omega) ?_
    refine wpAny_execs_cons (wpAny_If (wpAny_mono (Q := fun v s' => v = false ∧ St c noX s g g s.heap.objs.size (fun y => if y = Str.ofString "b0" then some (Value.int b t1) else List.lookup y [(Str.ofString "rlp", Value.bytes x.toArray t), (Str.ofString "start", Value.int (↑st) u)].reverse) s') ?_ (fun v s4 q => ?_) (fun _ _ q => q)))
    · refine wpAny_isTrue_BoolOp (wpAny_allTrue_And_cons (wpAny_isTrue_Compare1 (wpAny_BinOp (r_name F3 (by rfl) (r_int F3 fun t4 s4 F4 => r_subI F4 fun t5 s5 F5 => r_int F5 fun t6 s6 F6 => r_eqI ?_)))))
      by_cases q : b = 129
      · refine r_yes (by rw [q]; rfl) ?_
        obtain ⟨q1, q2⟩ := h129 q
        refine wpAny_allTrue_And_cons (wpAny_isTrue_Compare1 (Subscript_ (r_name F6 (by rfl) (wpAny_BinOp (r_name F6 (by rfl) (r_int F6 fun t7 s7 F7 => r_addI F7 fun t8 s8 F8 => ?_))))))
        refine r_itemB F8 hx (by omega) (by omega) fun t9 s9 F9 => r_int F9 fun t10 s10 F10 => r_ltI (r_noD ?_ ⟨rfl, F10⟩)
        have e : ((st : Int) + 1).toNat = st + 1 := by omega
        rw [e]; omega
      · exact r_no (by simp; omega) ⟨rfl, F6⟩
    obtain ⟨rfl, F4⟩ := q
    refine wpAny_execs_nil ?_
    refine wpAny_execs_cons (wpAny_Return_some (r_tuple (r_args_cons (r_sl2 (r_name F4 (by rfl) (r_name F4 (by rfl) (wpAny_BinOp (r_name F4 (by rfl) (r_int F4 fun t5 s5 F5 => r_addI F5 fun t6 s6 F6 => ?_)))))))))
    refine ⟨x, _, st, st + 1, _, _, _, _, _, _, _, _, _, _, rfl, hx, rfl, rfl, rfl, by push_cast; rfl, F6, fun t7 s7 F7 => ?_⟩
    refine r_args_cons (r_str F7 fun t8 s8 F8 => r_args_cons (wpAny_BinOp (r_name F8 (by rfl) (r_int F8 fun t9 s9 F9 => r_subI F9 fun t10 s10 F10 => r_args_cons (wpAny_BinOp (r_name F10 (by rfl) (r_int F10 fun t11 s11 F11 => r_addI F11 fun t12 s12 F12 => r_args_nil ?_)))))))
    have e1 : (b : Int) - 128 = ((b - 128 : Nat) : Int) := by omega
    have e2 : (st : Int) + 1 = ((st + 1 : Nat) : Int) := by omega
    have e3 : st + 1 - st = 1 := by omega
    rw [e1, e2, e3]
    exact clp_end F12 h
  by_cases h3 : b < 192
  · rw [if_neg h2, if_pos h3] at he
    refine r_noD (by omega) ?_
    refine wpAny_execs_cons (wpAny_If (wpAny_isTrue_Compare1 (r_name F3 (by rfl) (r_int F3 fun t4 s4 F4 => r_ltI ?_))))
    refine r_yesD (by omega) ?_
    clear F2 F3
    have hlo : 183 < b := by omega
    have hcs : ¬ ((x.drop (st + 1)).take 1 = [0]) ∧ ¬ val ((x.drop (st + 1)).take (b - 183)) < 56 := by
      refine ⟨fun q => ?_, fun q => ?_⟩
      · rw [if_pos (.inl q)] at he; cases he
      · rw [if_pos (.inr q)] at he; cases he
    rw [if_neg (by rintro (q | q); exact hcs.1 q; exact hcs.2 q)] at he; cases he
    refine wpAny_execs_cons (wpAny_Assign_Name (wpAny_BinOp (r_name F4 (by rfl) (r_int F4 fun t5 s5 F5 => r_subI F5 fun t6 s6 F6 => r_store F6 fun s7 F7 => ?_))))
    have ell : (b : Int) - 183 = ((b - 183 : Nat) : Int) := by omega
    rw [ell] at F7
    refine wpAny_execs_cons (wpAny_If (wpAny_isTrue_Compare1 (r_sl2 (r_name F7 (by rfl) (wpAny_BinOp (r_name F7 (by rfl) (r_int F7 fun t8 s8 F8 => r_addI F8 fun t9 s9 F9 => wpAny_BinOp (r_name F9 (by rfl) (r_int F9 fun t10 s10 F10 => r_addI F10 fun t11 s11 F11 => ?_)))))))))
    refine ⟨x, _, st + 1, st + 2, _, _, _, _, _, _, _, _, _, _, rfl, hx, rfl, rfl, by omega, by omega, F11, fun t12 s12 F12 => ?_⟩
    refine r_bytesC F12 fun t13 s13 F13 => r_eqB (r_no ?_ (wpAny_execs_nil ?_))
    · have e4 : st + 2 - (st + 1) = 1 := by omega
      rw [e4]; simpa using hcs.1
    refine wpAny_execs_cons (wpAny_Assign_Name (r_sl2 (r_name F13 (by rfl) (wpAny_BinOp (r_name F13 (by rfl) (r_int F13 fun t14 s14 F14 => r_addI F14 fun t15 s15 F15 => wpAny_BinOp (wpAny_BinOp (r_name F15 (by rfl) (r_int F15 fun t16 s16 F16 => r_addI F16 fun t17 s17 F17 => r_name F17 (by rfl) (r_addI F17 fun t18 s18 F18 => ?_)))))))))) 
    refine ⟨x, _, st + 1, st + 1 + (b - 183), _, _, _, _, _, _, _, _, _, _, rfl, hx, rfl, rfl, by omega, by omega, F18, fun t19 s19 F19 => r_store F19 fun s20 F20 => ?_⟩
    have e5 : st + 1 + (b - 183) - (st + 1) = b - 183 := by omega
    rw [e5] at F20
    obtain ⟨fB, hB⟩ := ok.at_ (d := dB2I) (by rw [recs_eq]; simp)
    refine wpAny_execs_cons (wpAny_Assign_Name (r_call (r_global ok F20.fz hB.nm (r_with_def ok hB (r_args_cons (r_name F20 (by rfl) (r_args_nil ⟨fun b o q => F20.fz.le b o (F20.fz.base b o q), ?_⟩)))))))
    refine b2i_ok ok hB F20.fz (by simp only [depth_deeper]; omega) (by rw [List.length_take]; omega) fun t21 s21 P21 => ?_
    refine r_store (F20.pex P21) fun s22 F22 => ?_
    refine wpAny_execs_cons (wpAny_If (wpAny_isTrue_Compare1 (r_name F22 (by rfl) (r_int F22 fun t23 s23 F23 => r_ltI (r_noD (by omega) (wpAny_execs_nil ?_))))))
    refine wpAny_execs_cons (wpAny_Return_some (r_tuple (r_args_cons (wpAny_BinOp (r_sl2 (r_name F23 (by rfl) (r_name F23 (by rfl) (wpAny_BinOp (r_name F23 (by rfl) (r_int F23 fun t5 s5 F5 => r_addI F5 fun t6 s6 F6 => ?_))))))))))
    refine ⟨x, _, st, st + 1, _, _, _, _, _, _, _, _, _, _, rfl, hx, rfl, rfl, rfl, by push_cast; rfl, F6, fun t7 s7 F7 => ?_⟩
    refine r_name F7 (by rfl) (r_addB F7 (by simp only [List.length_take, List.length_drop]; omega) fun t8 s8 F8 => ?_)
    refine r_args_cons (r_str F8 fun t8 s8 F8 => r_args_cons (r_name F8 (by rfl) (r_args_cons (wpAny_BinOp (wpAny_BinOp (r_name F8 (by rfl) (r_int F8 fun t9 s9 F9 => r_addI F9 fun t10 s10 F10 => r_name F10 (by rfl) (r_addI F10 fun t12 s12 F12 => r_args_nil ?_)))))))) 
    have e2 : (st : Int) + 1 + ((b - 183 : Nat) : Int) = ((st + 1 + (b - 183) : Nat) : Int) := by omega
    have e3 : st + 1 - st = 1 := by omega
    rw [e2, e3]
    exact clp_end F12 h
  rw [if_neg h2, if_neg h3] at he
  refine r_noD (by omega) ?_
  refine wpAny_execs_cons (wpAny_If (wpAny_isTrue_Compare1 (r_name F3 (by rfl) (r_int F3 fun t4 s4 F4 => r_ltI ?_))))
  refine r_noD (by omega) ?_
  clear F2 F3
  refine wpAny_execs_cons (wpAny_If (wpAny_isTrue_Compare1 (r_name F4 (by rfl) (wpAny_BinOp (r_int F4 fun t5 s5 F5 => r_int F5 fun t6 s6 F6 => r_addI F6 fun t7 s7 F7 => r_ltI ?_)))))
  clear F4 F5 F6
  by_cases h4 : b < 248
  · rw [if_pos h4] at he; cases he
    refine r_yesD (by omega) ?_
    refine wpAny_execs_cons (wpAny_Return_some (r_tuple (r_args_cons (r_sl2 (r_name F7 (by rfl) (r_name F7 (by rfl) (wpAny_BinOp (r_name F7 (by rfl) (r_int F7 fun t5 s5 F5 => r_addI F5 fun t6 s6 F6 => ?_)))))))))
    refine ⟨x, _, st, st + 1, _, _, _, _, _, _, _, _, _, _, rfl, hx, rfl, rfl, rfl, by push_cast; rfl, F6, fun t7 s7 F7 => ?_⟩
    refine r_args_cons (r_str F7 fun t8 s8 F8 => r_args_cons (wpAny_BinOp (r_name F8 (by rfl) (r_int F8 fun t9 s9 F9 => r_subI F9 fun t10 s10 F10 => r_args_cons (wpAny_BinOp (r_name F10 (by rfl) (r_int F10 fun t11 s11 F11 => r_addI F11 fun t12 s12 F12 => r_args_nil ?_)))))))
    have e1 : (b : Int) - 192 = ((b - 192 : Nat) : Int) := by omega
    have e2 : (st : Int) + 1 = ((st + 1 : Nat) : Int) := by omega
    have e3 : st + 1 - st = 1 := by omega
    rw [e1, e2, e3]
    exact clp_end F12 h
  rw [if_neg h4] at he
  · refine r_noD (by omega) ?_
    have hlo : 247 < b := by omega
    have hcs : ¬ ((x.drop (st + 1)).take 1 = [0]) ∧ ¬ val ((x.drop (st + 1)).take (b - 247)) < 56 := by
      refine ⟨fun q => ?_, fun q => ?_⟩
      · rw [if_pos (.inl q)] at he; cases he
      · rw [if_pos (.inr q)] at he; cases he
    rw [if_neg (by rintro (q | q); exact hcs.1 q; exact hcs.2 q)] at he; cases he
    refine wpAny_execs_cons (wpAny_Assign_Name (wpAny_BinOp (wpAny_BinOp (wpAny_BinOp (r_name F7 (by rfl) (r_int F7 fun t8 s8 F8 => r_subI F8 fun t9 s9 F9 => r_int F9 fun t10 s10 F10 => r_subI F10 fun t11 s11 F11 => r_int F11 fun t12 s12 F12 => r_addI F12 fun t13 s13 F13 => r_store F13 fun s14 F14 => ?_))))))
    clear F7
    have F7 := F14
    have ell : (b : Int) - 192 - 56 + 1 = ((b - 247 : Nat) : Int) := by omega
    rw [ell] at F7
    refine wpAny_execs_cons (wpAny_If (wpAny_isTrue_Compare1 (r_sl2 (r_name F7 (by rfl) (wpAny_BinOp (r_name F7 (by rfl) (r_int F7 fun t8 s8 F8 => r_addI F8 fun t9 s9 F9 => wpAny_BinOp (r_name F9 (by rfl) (r_int F9 fun t10 s10 F10 => r_addI F10 fun t11 s11 F11 => ?_)))))))))
    refine ⟨x, _, st + 1, st + 2, _, _, _, _, _, _, _, _, _, _, rfl, hx, rfl, rfl, by omega, by omega, F11, fun t12 s12 F12 => ?_⟩
    refine r_bytesC F12 fun t13 s13 F13 => r_eqB (r_no ?_ (wpAny_execs_nil ?_))
    · have e4 : st + 2 - (st + 1) = 1 := by omega
      rw [e4]; simpa using hcs.1
    refine wpAny_execs_cons (wpAny_Assign_Name (r_sl2 (r_name F13 (by rfl) (wpAny_BinOp (r_name F13 (by rfl) (r_int F13 fun t14 s14 F14 => r_addI F14 fun t15 s15 F15 => wpAny_BinOp (wpAny_BinOp (r_name F15 (by rfl) (r_int F15 fun t16 s16 F16 => r_addI F16 fun t17 s17 F17 => r_name F17 (by rfl) (r_addI F17 fun t18 s18 F18 => ?_)))))))))) 
    refine ⟨x, _, st + 1, st + 1 + (b - 247), _, _, _, _, _, _, _, _, _, _, rfl, hx, rfl, rfl, by omega, by omega, F18, fun t19 s19 F19 => r_store F19 fun s20 F20 => ?_⟩
    have e5 : st + 1 + (b - 247) - (st + 1) = b - 247 := by omega
    rw [e5] at F20
    obtain ⟨fB, hB⟩ := ok.at_ (d := dB2I) (by rw [recs_eq]; simp)
    refine wpAny_execs_cons (wpAny_Assign_Name (r_call (r_global ok F20.fz hB.nm (r_with_def ok hB (r_args_cons (r_name F20 (by rfl) (r_args_nil ⟨fun b o q => F20.fz.le b o (F20.fz.base b o q), ?_⟩)))))))
    refine b2i_ok ok hB F20.fz (by simp only [depth_deeper]; omega) (by rw [List.length_take]; omega) fun t21 s21 P21 => ?_
    refine r_store (F20.pex P21) fun s22 F22 => ?_
    refine wpAny_execs_cons (wpAny_If (wpAny_isTrue_Compare1 (r_name F22 (by rfl) (r_int F22 fun t23 s23 F23 => r_ltI (r_noD (by omega) (wpAny_execs_nil ?_))))))
    refine wpAny_execs_cons (wpAny_Return_some (r_tuple (r_args_cons (wpAny_BinOp (r_sl2 (r_name F23 (by rfl) (r_name F23 (by rfl) (wpAny_BinOp (r_name F23 (by rfl) (r_int F23 fun t5 s5 F5 => r_addI F5 fun t6 s6 F6 => ?_))))))))))
    refine ⟨x, _, st, st + 1, _, _, _, _, _, _, _, _, _, _, rfl, hx, rfl, rfl, rfl, by push_cast; rfl, F6, fun t7 s7 F7 => ?_⟩
    refine r_name F7 (by rfl) (r_addB F7 (by simp only [List.length_take, List.length_drop]; omega) fun t8 s8 F8 => ?_)
    refine r_args_cons (r_str F8 fun t8 s8 F8 => r_args_cons (r_name F8 (by rfl) (r_args_cons (wpAny_BinOp (wpAny_BinOp (r_name F8 (by rfl) (r_int F8 fun t9 s9 F9 => r_addI F9 fun t10 s10 F10 => r_name F10 (by rfl) (r_addI F10 fun t12 s12 F12 => r_args_nil ?_)))))))) 
    have e2 : (st : Int) + 1 + ((b - 247 : Nat) : Int) = ((st + 1 + (b - 247) : Nat) : Int) := by omega
    have e3 : st + 1 - st = 1 := by omega
    rw [e2, e3]
    exact clp_end F12 h
end
end Mine
end
section
namespace Mine

/-- what may be encoded -/
inductive T where
  | leaf (b : List UInt8)
  | node (ts : List T)

def tiny (b : List UInt8) : Bool := b.length == 1 && decide ((b.getD 0 0).toNat < 128)

mutual
noncomputable def enc : T → List UInt8
  | .leaf b => if tiny b = true then b else hd 128 b.length ++ b
  | .node ts => hd 192 (encs ts).length ++ encs ts
noncomputable def encs : List T → List UInt8
  | [] => []
  | t :: ts => enc t ++ encs ts
end
mutual
noncomputable def pcs : T → T
  | .leaf b => .node [.leaf (enc (.leaf b))]
  | .node ts => .node (.leaf (enc (.node ts)) :: pcss ts)
noncomputable def pcss : List T → List T
  | [] => []
  | t :: ts => pcs t :: pcss ts
end
mutual
noncomputable def ht : T → Nat
  | .leaf _ => 0
  | .node ts => hts ts + 1
noncomputable def hts : List T → Nat
  | [] => 0
  | t :: ts => max (ht t) (hts ts)
end

noncomputable def pfx : T → List UInt8
  | .leaf b => if tiny b = true then [] else hd 128 b.length
  | .node ts => hd 192 (encs ts).length
noncomputable def pay : T → List UInt8
  | .leaf b => b
  | .node ts => encs ts
def isN : T → Bool
  | .leaf _ => false
  | .node _ => true

theorem enc_eq (t : T) : enc t = pfx t ++ pay t := by
  cases t with
  | leaf b => simp only [enc, pfx, pay]; split <;> simp
  | node ts => simp only [enc, pfx, pay]
theorem encs_append (a b : List T) : encs (a ++ b) = encs a ++ encs b := by
  induction a with
  | nil => simp [encs]
  | cons t ts ih => simp [encs, ih, List.append_assoc]
theorem pcss_append (a b : List T) : pcss (a ++ b) = pcss a ++ pcss b := by
  induction a with
  | nil => simp [pcss]
  | cons t ts ih => simp [pcss, ih]
theorem ht_mem {t : T} {ts : List T} (h : t ∈ ts) : ht t ≤ hts ts := by
  induction ts with
  | nil => cases h
  | cons u us ih =>
    rw [hts]
    rcases List.mem_cons.mp h with rfl | h
    · omega
    · have := ih h; omega
theorem pcs_head (t : T) : ∃ r, pcs t = .node (.leaf (enc t) :: r) := by
  cases t with
  | leaf b => exact ⟨[], by simp [pcs]⟩
  | node ts => exact ⟨pcss ts, by simp [pcs]⟩

/-- the reader of a prefix, on what lies ahead -/
def clp0 (st : Nat) : List UInt8 → Option (List UInt8 × Bool × Nat × Nat)
  | [] => none
  | b0 :: r =>
    if b0.toNat < 128 then some ([], false, 1, st)
    else if b0.toNat < 184 then
      if b0.toNat = 129 ∧ ¬ (0 < r.length ∧ 128 ≤ (r.getD 0 0).toNat) then none else some ([b0], false, b0.toNat - 128, st + 1)
    else if b0.toNat < 192 then
      if r.take 1 = [0] ∨ val (r.take (b0.toNat - 183)) < 56 then none
      else some (b0 :: r.take (b0.toNat - 183), false, val (r.take (b0.toNat - 183)), st + 1 + (b0.toNat - 183))
    else if b0.toNat < 248 then some ([b0], true, b0.toNat - 192, st + 1)
    else
      if r.take 1 = [0] ∨ val (r.take (b0.toNat - 247)) < 56 then none
      else some (b0 :: r.take (b0.toNat - 247), true, val (r.take (b0.toNat - 247)), st + 1 + (b0.toNat - 247))

theorem clp_drop (pre y : List UInt8) : clp (pre ++ y) pre.length = clp0 pre.length y := by
  cases y with
  | nil => rw [List.append_nil, clp, if_neg (Nat.lt_irrefl _)]; rfl
  | cons b0 r =>
    have h1 : pre.length < (pre ++ b0 :: r).length := by simp
    have h2 : (pre ++ b0 :: r).getD pre.length 0 = b0 := by simp [List.getD_eq_getElem?_getD]
    have h3 : (pre ++ b0 :: r).drop pre.length = b0 :: r := by simp
    have h4 : (pre ++ b0 :: r).drop (pre.length + 1) = r := by rw [← List.drop_drop, h3]; rfl
    have h5 : (pre ++ b0 :: r).getD (pre.length + 1) 0 = r.getD 0 0 := by
      simp only [List.getD_eq_getElem?_getD]
      rw [List.getElem?_append_right (by omega)]
      simp
    have h6 : (pre.length + 1 < (pre ++ b0 :: r).length) = (0 < r.length) := by simp
    rw [clp, if_pos h1]
    simp only [h2, h3, h4, h5, h6, clp0, List.take_succ_cons, List.take_zero, List.singleton_append]

theorem be_head {n : Nat} (h : 0 < n) : ∃ c r, be n = c :: r ∧ c ≠ 0 := by
  induction n using Nat.strongRecOn with
  | _ n ih =>
    by_cases h' : n < 256
    · refine ⟨_, [], be_small h', fun q => ?_⟩
      have := congrArg UInt8.toNat q
      rw [UInt8.toNat_ofNat'] at this
      simp at this; omega
    · obtain ⟨c, r, e, hc⟩ := ih (n / 256) (by omega) (by omega)
      exact ⟨c, r ++ [UInt8.ofNat (n % 256)], by rw [be_big h', e]; rfl, hc⟩

theorem hd_pos (off n : Nat) : 0 < (hd off n).length := by unfold hd; split <;> simp
theorem hd_len (off n : Nat) (h : n < 2 ^ 60) : (hd off n).length ≤ 9 := by
  unfold hd
  split
  · simp
  · have := be_le (n := n) (k := 8) (Nat.lt_of_lt_of_le h (by decide)) (by decide)
    simp; omega

theorem toNat_off {k : Nat} (h : k < 256) : (UInt8.ofNat k).toNat = k := by rw [UInt8.toNat_ofNat']; exact Nat.mod_eq_of_lt h

theorem clp0_list {st n : Nat} {y : List UInt8} (hn : n < 2 ^ 60) : clp0 st (hd 192 n ++ y) = some (hd 192 n, true, n, st + (hd 192 n).length) := by
  unfold hd
  by_cases h : n < 56
  · have e := toNat_off (k := 192 + n) (by omega)
    simp only [h, if_true, List.cons_append, List.nil_append, clp0, e]
    rw [if_neg (by omega), if_neg (by omega), if_neg (by omega), if_pos (by omega)]
    simp
  · have hl := be_le (n := n) (k := 8) (Nat.lt_of_lt_of_le hn (by decide)) (by decide)
    have hp := be_pos n
    have e := toNat_off (k := 192 + 55 + (be n).length) (by omega)
    obtain ⟨c, r, eb, hc⟩ := be_head (n := n) (by omega)
    simp only [h, if_false, List.cons_append, clp0, e]
    rw [if_neg (by omega), if_neg (by omega), if_neg (by omega), if_neg (by omega)]
    have e2 : 192 + 55 + (be n).length - 247 = (be n).length := by omega
    rw [e2, List.take_left, val_be, if_neg]
    · simp; omega
    · rintro (q | q)
      · rw [eb] at q; simp at q; exact hc q
      · omega
theorem clp0_bytes {st n : Nat} {y : List UInt8} (hn : n < 2 ^ 60) (hy : n = 1 → 0 < y.length ∧ 128 ≤ (y.getD 0 0).toNat) : clp0 st (hd 128 n ++ y) = some (hd 128 n, false, n, st + (hd 128 n).length) := by
  unfold hd
  by_cases h : n < 56
  · have e := toNat_off (k := 128 + n) (by omega)
    simp only [h, if_true, List.cons_append, List.nil_append, clp0, e]
    rw [if_neg (by omega), if_pos (by omega), if_neg]
    · simp
    · rintro ⟨q1, q2⟩
      exact q2 (hy (by omega))
  · have hl := be_le (n := n) (k := 8) (Nat.lt_of_lt_of_le hn (by decide)) (by decide)
    have hp := be_pos n
    have e := toNat_off (k := 128 + 55 + (be n).length) (by omega)
    obtain ⟨c, r, eb, hc⟩ := be_head (n := n) (by omega)
    simp only [h, if_false, List.cons_append, clp0, e]
    rw [if_neg (by omega), if_neg (by omega), if_pos (by omega)]
    have e2 : 128 + 55 + (be n).length - 183 = (be n).length := by omega
    rw [e2, List.take_left, val_be, if_neg]
    · simp; omega
    · rintro (q | q)
      · rw [eb] at q; simp at q; exact hc q
      · omega

/-- what the reader of a prefix says ahead of an encoding -/
theorem clp_enc {pre post : List UInt8} {t : T} (hn : (pay t).length < 2 ^ 60) : clp (pre ++ (enc t ++ post)) pre.length = some (pfx t, isN t, (pay t).length, pre.length + (pfx t).length) := by
  rw [clp_drop, enc_eq, List.append_assoc]
  cases t with
  | node ts => exact clp0_list hn
  | leaf b =>
    simp only [pfx, pay, isN]
    by_cases h : tiny b = true
    · rw [if_pos h]
      unfold tiny at h
      simp only [Bool.and_eq_true, beq_iff_eq, decide_eq_true_eq] at h
      obtain ⟨h1, h2⟩ := h
      match b, h1 with
      | [b0], _ =>
        simp only [List.getD_cons_zero] at h2
        simp [clp0, h2]
    · rw [if_neg h]
      refine clp0_bytes hn fun q => ?_
      unfold tiny at h
      simp only [Bool.and_eq_true, beq_iff_eq, decide_eq_true_eq, not_and] at h
      have h2 := h q
      match b, q with
      | [b0], _ =>
        simp only [List.getD_cons_zero] at h2
        simp; omega
end Mine
end
section
open PySem PySem.Calls PySem.Spec PyProof.Rows PySem.W
set_option maxRecDepth 100000
namespace Mine

/-- the list of draws -/
def Scr (g : Heap) (scr : Addr) : Prop := ∃ vs, Ls g scr vs ∧ vs.length ≤ 60 ∧ ∀ v ∈ vs, ∃ z t, v = .int z t
/-- the list that says where we draw -/
def Sta (h : Heap) (st scr : Addr) : Prop := ∃ (k : Nat) (t : Tok), Ls h st [.ref scr, .int k t]
theorem Scr.mono {g h : Heap} {a : Addr} (x : Scr g a) (hl : Le g h) : Scr h a := let ⟨vs, x1, x2⟩ := x; ⟨vs, x1.mono hl, x2⟩

section
variable {c : Cfg} {X : Addr → Prop} {A : Around} {E : Value → Shared → Prop} {s₀ s : Shared} {g₀ g : Heap} {L f : Addr} {m : Str → Option Value} {env : Env}

theorem r_itemL {value slice : Expr} {l : Addr} {vs : List Value} {k : Int} {i : Nat} {u : Tok} {x : Value} {Q : Value → Shared → Prop} (F : St c X s₀ g₀ g L m s) (hl : Ls g l vs)
    (hk : k = i) (hi : i < 2 ^ 62) (hx : vs[i]? = some x) (h : Q x s)
    (hs : subscripted slice false (.ref l) (.int k u) = operate [.ref l, .int k u] (getItem (.ref l) (.int k u)) := by with_unfolding_all rfl) :
    wpAny c.M A (subscriptTail value slice (.ref l) (.int k u)) Q E s :=
  tail_any (hl.mono F.fz.le).isList.typeIs slot_list_getitem.lookup (wpAny_getItem_list (hl.mono F.fz.le) (by omega) (by omega) (by subst hk; simpa using hx) h) hs
theorem r_lenL {l : Addr} {vs : List Value} {Q : Value → Shared → Prop} (F : St c X s₀ g₀ g L m s) (hl : Ls g l vs) (hz : vs.length ≤ 16777216) (h : ∀ t s', St c X s₀ g₀ g L m s' → Q (.int vs.length t) s') :
    wpAny c.M A (call (.builtin "len") [.ref l]) Q E s :=
  len_list (hl.mono F.fz.le) (by simp; omega) (by rw [List.size_toArray]; exact h _ _ (F.toks _))

theorem r_iaddI {a b : Int} {t u : Tok} {Q : Value → Shared → Prop} (F : St c X s₀ g₀ g L m s) (h : ∀ t s', St c X s₀ g₀ g L m s' → Q (.int (a + b) t) s') : wpAny c.M A (inplaceOp .Add (.int a t) (.int b u)) Q E s :=
  PySem.AutoIntOps.iadd_0 (h _ _ (F.toks _))

theorem nxt_ok {st scr : Addr} {lim : Nat} {u : Tok} {Q : Value → Shared → Prop} (ok : c.Ok) (hf : At c dNxt f) (z : Fz c g s) (hroom : A.depth < recursionLimit)
    (hst : g.get? st = none) (hS : Sta s.heap st scr) (hsc : Scr g scr) (hl : 1 ≤ lim)
    (h : ∀ (r : Nat) t s', r < lim → Ext c (· = st) s s' → Sta s'.heap st scr → Q (.int r t) s') :
    wpAny c.M A (call (.ref f) [.ref st, .int lim u]) Q E s := by
  obtain ⟨k, tk, hS⟩ := hS
  refine call_defK (X := (· = st)) (binds := [("state", .ref st), ("limit", .int lim u)]) ok hf z (fun b q => by subst q; exact hst) (fun b q => by subst q; exact hS.lt) hroom (fun _ _ _ => by rfl) (locs rfl) (fun cd s₁ _ F kp => ?_)
  have hS1 : Ls s₁.heap st [.ref scr, .int k tk] := let ⟨o, e, r⟩ := hS; ⟨o, kp _ _ e, r⟩
  obtain ⟨ps, ht⟩ := F.fz.tab
  obtain ⟨hC, hP⟩ := hS1.ne_code ht
  have hL := hS1.ne_L F
  have F1 := F.put (.inr rfl) hL hP
  have hg1 : Ls (put g st s₁.heap) st [.ref scr, .int k tk] := hS1.put
  refine wpAny_execs_cons (wpAny_AugAssign_SubscriptAny (r_name F1 (by rfl) (r_int F1 fun t2 s2 F2 => ?_)))
  refine wpAny_getItem_list (x := .int k tk) (hg1.mono F2.fz.le) (by decide) (by decide) (by rfl) ?_
  refine r_int F2 fun t3 s3 F3 => r_iaddI F3 fun t4 s4 F4 => ?_
  have F5 := F4.less (g' := g) (le_put F.fz.le) F.fz.base
  refine wpAny_setItem_list (hg1.mono F4.fz.le) (by decide) (by decide) (by simp) fun h' hl' hs' => ?_
  have F6 := F5.write (tk := s4.toks) (.inr rfl) hL hC hP hst hs'
  have hS6 : Ls h' st [.ref scr, .int ((k + 1 : Nat) : Int) t4] := by
    have := hl'
    simpa [Ls] using this
  have F7 := F6.put (.inr rfl) hL hP
  have hg7 : Ls (put g st h') st [.ref scr, .int ((k + 1 : Nat) : Int) t4] := hS6.put
  have hsc7 : Scr (put g st h') scr := hsc.mono (le_put F6.fz.le)
  clear F F1 F2 F3 F4 F5 F6
  obtain ⟨vs, hv, hz, hi⟩ := hsc7
  have fin : ∀ {r : Nat} {t s'} {gg}, r < lim → St c (· = st) s g gg s.heap.objs.size (fun x => List.lookup x [(Str.ofString "state", Value.ref st), (Str.ofString "limit", Value.int (↑lim) u)].reverse) s' → Le (put g st h') gg → Q (.int r t) s' := fun hr F hl =>
    h _ _ _ hr F.ext ⟨_, _, (hg7.mono hl).mono F.fz.le⟩
  refine wpAny_execs_cons (wpAny_If (wpAny_isTrue_Compare1 (Subscript_ (r_name F7 (by rfl) (r_int F7 fun t8 s8 F8 => r_itemL (i := 1) F8 hg7 (by rfl) (by decide) (by rfl) ?_)))))
  refine r_call (r_builtin ok F8.fz (by rfl) (r_with_builtin (r_args_cons (Subscript_ (r_name F8 (by rfl) (r_int F8 fun t9 s9 F9 => r_itemL (i := 0) F9 hg7 (by rfl) (by decide) (by rfl) (r_args_nil (r_lenL F9 hv (by omega) fun t10 s10 F10 => r_gtI ?_))))))))
  by_cases hk : vs.length < k + 1
  · refine r_yesD (by omega) ?_
    refine wpAny_execs_cons (wpAny_Return_some (r_int F10 fun t11 s11 F11 => ?_))
    exact fin (r := 0) (by omega) F11 fun _ _ e => e
  · refine r_noD (by omega) (wpAny_execs_nil ?_)
    have hkl : k < vs.length := by omega
    obtain ⟨zv, tv, ev⟩ := hi _ (List.getElem_mem hkl)
    refine wpAny_execs_cons (wpAny_Return_some (wpAny_BinOp (Subscript_ (Subscript_ (r_name F10 (by rfl) (r_int F10 fun t9 s9 F9 => r_itemL (i := 0) F9 hg7 (by rfl) (by decide) (by rfl) ?_))))))
    refine wpAny_BinOp (Subscript_ (r_name F9 (by rfl) (r_int F9 fun t11 s11 F11 => r_itemL (i := 1) F11 hg7 (by rfl) (by decide) (by rfl) (r_int F11 fun t12 s12 F12 => r_subI F12 fun t13 s13 F13 => ?_))))
    refine r_itemL (i := k) F13 hv (by omega) (by omega) (by rw [List.getElem?_eq_getElem hkl, ev]) ?_
    refine r_name F13 (by rfl) (r_modI F13 (by omega) fun t14 s14 F14 => ?_)
    have e0 := Int.emod_nonneg zv (b := lim) (by omega)
    have e1 := Int.emod_lt_of_pos zv (b := lim) (by omega)
    obtain ⟨r, hr⟩ := Int.eq_ofNat_of_zero_le e0
    rw [hr] at e1 ⊢
    exact fin (by omega) F14 fun _ _ e => e
end
end Mine
end
section
open PySem PySem.Calls PySem.Spec PyProof.Rows PySem.W
set_option maxRecDepth 100000
namespace Mine

theorem St.keep {c : Cfg} {X : Addr → Prop} {s₀ s : Shared} {g₀ g : Heap} {L : Addr} {m : Str → Option Value} (F : St c X s₀ g₀ g L m s) {h' : Heap} {k : Nat}
    (hk : ∀ b o, s.heap.get? b = some o → h'.get? b = some o) : St c X s₀ g₀ g L m { s with heap := h', toks := k } where
  ns := by obtain ⟨o, es, ep, a, r⟩ := F.ns; exact ⟨o, es, ep, hk _ _ a, r⟩
  fz := ⟨fun b o e => hk _ _ (F.fz.le b o e), F.fz.base, F.fz.off, let ⟨ps, t⟩ := F.fz.tab; ⟨ps, t.step fun b o _ e => hk b o e⟩⟩
  offL := F.offL
  lo := F.lo
  ext := ⟨fun b o h1 h2 e => hk _ _ (F.ext.keep b o h1 h2 e), fun ps t => let ⟨mo, t'⟩ := F.ext.tab ps t; ⟨mo, t'.step fun b o _ e => hk b o e⟩,
    by obtain ⟨o, es, ep, a, r⟩ := F.ns
       exact Nat.le_of_lt (Nat.lt_of_le_of_lt F.lo (Heap.lt_size (hk _ _ a))), F.ext.os, F.ext.drawn, F.ext.gens, F.ext.bare, fun h => by
      obtain ⟨_, _, t, _⟩ := F.ext.hitS h
      exact ((hk _ _ t.obj).trans t.obj.symm).trans (F.ext.hit h)⟩
  sub := F.sub
  ltX := F.ltX

/-- small ints as values -/
def Octs (vs : List Value) (x : List UInt8) : Prop := IntsAre vs (x.map fun b => ((b.toNat : Nat) : Int))
theorem Octs.nil : Octs [] [] := IntsAre.nil
theorem Octs.cons {vs : List Value} {x : List UInt8} {n : Int} {t : Tok} {b : UInt8} (h : Octs vs x) (e : n = b.toNat) : Octs (.int n t :: vs) (b :: x) := by subst e; exact IntsAre.cons _ _ h
theorem Octs.length {vs : List Value} {x : List UInt8} (h : Octs vs x) : vs.length = x.length := by rw [IntsAre.length h, List.length_map]
theorem Octs.append {vs ws : List Value} {x y : List UInt8} (h : Octs vs x) (k : Octs ws y) : Octs (vs ++ ws) (x ++ y) := by
  unfold Octs at *; rw [List.map_append]; exact PyProof.Rows.IntsAre.append h k

theorem look_eq {x : Str} {v : Value} {m : Str → Option Value} : (fun z => if z = x then some v else m z) x = some v := if_pos rfl
theorem look_ne {x y : Str} {v : Value} {m : Str → Option Value} (h : (x == y) = false) : (fun z => if z = y then some v else m z) x = m x := by
  have : x ≠ y := by rintro rfl; simp at h
  simp [this]

section
variable {c : Cfg} {X : Addr → Prop} {A : Around} {E : Value → Shared → Prop} {s₀ s : Shared} {g₀ g : Heap} {L f : Addr} {m : Str → Option Value} {env : Env}

/-- bytes([...]) -/
theorem r_bytesOf {l : Addr} {vs : List Value} {x : List UInt8} {Q : Value → Shared → Prop} (F : St c X s₀ g₀ g L m s) (hl : Ls g l vs) (hv : Octs vs x) (hz : x.length ≤ 1000) (hh : A.handled = none)
    (h : ∀ t s', St c X s₀ g₀ g L m s' → Q (.bytes x.toArray t) s') : wpAny c.M A (call (.type "bytes") [.ref l]) Q E s := by
  refine call_bytes_ints (hl.mono F.fz.le) hv (fun n hn => ?_) (by rw [hv.length, sizeLine_eq]; omega) hh fun h' t k hk => ?_
  · obtain ⟨b, _, rfl⟩ := List.mem_map.mp hn
    have := b.toNat_lt
    omega
  · have e : byteArr (x.map fun b => ((b.toNat : Nat) : Int)) = x.toArray := by
      unfold byteArr
      rw [List.map_map]
      congr 1
      refine (List.map_congr_left fun b _ => ?_).trans (List.map_id _)
      simp
    rw [e]
    exact h _ _ (F.keep hk)

/-- list + list -/
theorem r_addL {l b : Addr} {vs ws : List Value} {Q : Value → Shared → Prop} (F : St c X s₀ g₀ g L m s) (hl : Ls g l vs) (hb : Ls g b ws) (hz : vs.length + ws.length ≤ 16777216)
    (h : ∀ a g' s', Le g g' → St c X s₀ g₀ g' L m s' → Ls g' a (vs ++ ws) → s.heap.objs.size ≤ a → Q (.ref a) s') : wpAny c.M A (binaryOp .Add (.ref l) (.ref b)) Q E s := by
  obtain ⟨⟨cls, dd, data, sl⟩, ho, hc, n, hd⟩ := hl.mono F.fz.le
  obtain ⟨⟨cls2, dd2, data2, sl2⟩, ho2, hc2, n2, hd2⟩ := hb.mono F.fz.le
  simp only at hc hd hc2 hd2
  subst hc hd hc2 hd2
  have e : vs.toArray ++ ws.toArray = (vs ++ ws).toArray := by simp
  have hz' : vs.toArray.size + ws.toArray.size ≤ sizeLine := by rw [sizeLine_eq]; simp; omega
  refine concat_meets ⟨_, ho, rfl⟩ ⟨_, ho2, rfl⟩ noFill_list_add seq_list_add PySem.F.slot_list_add PySem.F.entry_list_add (PySem.F.args_list_add_2 _ _) (list_addW l b vs.toArray ws.toArray n n2 dd dd2 sl sl2 hz') ⟨ho, ho2, ?_⟩
  rw [e]
  refine h _ _ _ (le_grow (F.stay (Ext.push (s := s) (tk := s.toks) _)).fz.le) (F.pex (Ext.push (s := s) (tk := s.toks) _)) ⟨{ cls := .type "list", data := .seq (vs ++ ws).toArray }, ?_, rfl, 0, rfl⟩ (Nat.le_refl _)
  rw [grow_new (Nat.le_refl _)]; exact Heap.get?_push_size _ rfl

theorem hea_ok {n : Nat} {t : Tok} {Q : Value → Shared → Prop} (ok : c.Ok) (hf : At c dHea f) (z : Fz c g s) (hroom : A.depth < recursionLimit) (hh : A.handled = none) (hn : n < 2 ^ 60)
    (h : ∀ t s', Pex c s s' → Q (.bytes (hd 192 n).toArray t) s') : wpAny c.M A (call (.ref f) [.int n t]) Q E s := by
  refine call_def (X := noX) (binds := [("size", .int n t)]) ok hf z (fun _ q => q.elim) (fun _ q => q.elim) hroom (fun _ _ _ => by rfl) (locs rfl) (fun cd s₁ _ F => ?_)
  refine wpAny_execs_cons (wpAny_If (wpAny_isTrue_Compare1 (r_name F (by rfl) (r_int F fun t2 s2 F2 => r_ltI ?_))))
  by_cases h0 : n < 56
  · refine r_yesD (by omega) ?_
    refine wpAny_execs_cons (wpAny_Return_some (r_call (r_builtin ok F2.fz (by rfl) (r_with_type (r_args_cons (r_list (r_args_cons (wpAny_BinOp (r_int F2 fun t3 s3 F3 => r_name F3 (by rfl) (r_addI F3 fun t4 s4 F4 => r_args_nil (r_newL F4 (by simp) fun a g5 s5 l5 F5 hl5 _ => r_args_nil ?_)))))))))))
    have e : hd 192 n = [UInt8.ofNat (192 + n)] := by rw [hd, if_pos h0]
    refine r_bytesOf (x := hd 192 n) F5 hl5 ?_ (by rw [e]; simp) hh fun t6 s6 F6 => h _ _ F6.ext
    rw [e]
    exact Octs.nil.cons (by rw [UInt8.toNat_ofNat']; omega)
  · refine r_noD (by omega) (wpAny_execs_nil ?_)
    refine wpAny_execs_cons (wpAny_Assign_Name (r_list (r_args_nil (r_newL F2 (by simp) fun a g3 s3 l3 F3 hl3 _ => r_store F3 fun s4 F4 => ?_))))
    refine wpAny_execs_cons (wpAny_While ?_)
    let I : Nat → Shared → Prop := fun k s5 => ∃ g5 m5 a vs D t, Le g g5 ∧ St c noX s g g5 s.heap.objs.size m5 s5 ∧ m5 "digits" = some (.ref a) ∧ m5 "size" = some (.int (k : Nat) t) ∧ Ls g5 a vs ∧ Octs vs D ∧ k < 2 ^ 60 ∧
      ((0 < k ∧ be k ++ D = be n) ∨ (k = 0 ∧ D = be n))
    refine codeAny_whileLoop I ?_ n ⟨g3, _, a, [], [], t, l3, F4, by rfl, by rfl, hl3, .nil, hn, .inl ⟨by omega, by simp⟩⟩
    rintro k s5 ⟨g5, m5, a5, vs, D, t5, l5, F5, hd5, hs5, hl5, hv5, hk5, hI⟩
    refine wpAny_isTrue_Compare1 (r_name F5 hs5 (r_int F5 fun t6 s6 F6 => r_gtI ?_))
    rcases hI with ⟨hk, hD⟩ | ⟨rfl, hD⟩
    · refine r_yesD (by omega) ?_
      have hDz : D.length ≤ 8 := by
        have h1 : (be n).length ≤ 8 := be_le (Nat.lt_of_lt_of_le hn (by decide)) (by decide)
        have h2 := be_pos k
        rw [← hD, List.length_append] at h1; omega
      refine wpAny_execs_cons (wpAny_Assign_Name (wpAny_BinOp (r_list (r_args_cons (wpAny_BinOp (r_name F6 hs5 (r_int F6 fun t7 s7 F7 => r_modI F7 (by decide) fun t8 s8 F8 => r_args_nil (r_newL F8 (by simp) fun a9 g9 s9 l9 F9 hl9 _ => r_name F9 hd5 ?_))))))))
      refine r_addL F9 hl9 (hl5.mono l9) (by rw [hv5.length]; simp; omega) fun a10 g10 s10 l10 F10 hl10 _ => r_store F10 fun s11 F11 => ?_
      refine wpAny_execs_cons (wpAny_Assign_Name (wpAny_BinOp (r_name F11 ((look_ne (by decide)).trans hs5) (r_int F11 fun t12 s12 F12 => r_divI F12 (by decide) (by omega) (by decide) fun t13 s13 F13 => r_store F13 fun s14 F14 => ?_))))
      refine wpAny_execs_nil ⟨k / 256, by omega, g10, _, a10, _, UInt8.ofNat (k % 256) :: D, t13, fun b o e => l10 _ _ (l9 _ _ (l5 _ _ e)), F14, ?_, ?_, hl10, ?_, by omega, ?_⟩
      · rw [if_neg (by decide), if_pos rfl]
      · exact if_pos rfl
      · exact (Octs.nil.cons (by rw [UInt8.toNat_ofNat']; omega)).append hv5
      · by_cases hb : k < 256
        · right
          refine ⟨by omega, ?_⟩
          rw [← hD, be_small hb, Nat.mod_eq_of_lt hb]; rfl
        · left
          refine ⟨by omega, ?_⟩
          rw [← hD, be_big hb, List.append_assoc]; rfl
    · refine r_noD (by omega) (wpAny_execs_nil ?_)
      subst hD
      have hl8 : (be n).length ≤ 8 := be_le (Nat.lt_of_lt_of_le hn (by decide)) (by decide)
      refine wpAny_execs_cons (wpAny_Return_some (r_call (r_builtin ok F6.fz (by rfl) (r_with_type (r_args_cons (wpAny_BinOp (r_list (r_args_cons (wpAny_BinOp (r_int F6 fun t7 s7 F7 => r_call (r_builtin ok F7.fz (by rfl) (r_with_builtin (r_args_cons (r_name F7 hd5 (r_args_nil (r_lenL F7 hl5 (by rw [hv5.length]; omega) fun t8 s8 F8 => r_addI F8 fun t9 s9 F9 => r_args_nil (r_newL F9 (by simp) fun a10 g10 s10 l10 F10 hl10 _ => r_name F10 hd5 (r_addL F10 hl10 (hl5.mono l10) (by rw [hv5.length]; simp; omega) fun a11 g11 s11 l11 F11 hl11 _ => r_args_nil ?_))))))))))))))))))
      have e : hd 192 n = UInt8.ofNat (192 + 55 + (be n).length) :: be n := by rw [hd, if_neg h0]
      refine r_bytesOf (x := hd 192 n) F11 hl11 ?_ (by rw [e]; simp; omega) hh fun t6 s6 F6 => h _ _ F6.ext
      rw [e]
      exact (Octs.nil.cons (by rw [UInt8.toNat_ofNat', hv5.length]; omega)).append hv5
end
end Mine
end
section
open PySem PySem.Calls PySem.Spec PyProof.Rows PySem.W
set_option maxRecDepth 100000
namespace Mine

/-! ## trees on a heap -/
mutual
noncomputable def Tr (g : Heap) : T → Value → Prop
  | .leaf b, v => ∃ t, v = .bytes b.toArray t
  | .node ts, v => ∃ a vs, v = .ref a ∧ Ls g a vs ∧ Trs g ts vs
noncomputable def Trs (g : Heap) : List T → List Value → Prop
  | [], vs => vs = []
  | t :: ts, vs => ∃ v ws, vs = v :: ws ∧ Tr g t v ∧ Trs g ts ws
end

mutual
theorem Tr.mono {g h : Heap} (hl : Le g h) : ∀ {t : T} {v : Value}, Tr g t v → Tr h t v
  | .leaf _, _, x => x
  | .node _, _, ⟨a, vs, e, l, k⟩ => ⟨a, vs, e, l.mono hl, Trs.mono hl k⟩
theorem Trs.mono {g h : Heap} (hl : Le g h) : ∀ {ts : List T} {vs : List Value}, Trs g ts vs → Trs h ts vs
  | [], _, x => x
  | _ :: _, _, ⟨v, ws, e, x, k⟩ => ⟨v, ws, e, Tr.mono hl x, Trs.mono hl k⟩
end
theorem Trs.append {g : Heap} : ∀ {ts us : List T} {vs ws : List Value}, Trs g ts vs → Trs g us ws → Trs g (ts ++ us) (vs ++ ws)
  | [], _, _, _, x, y => by subst x; exact y
  | _ :: _, _, _, _, ⟨v, ws, e, x, k⟩, y => by subst e; exact ⟨v, _, rfl, x, Trs.append k y⟩
theorem Trs.one {g : Heap} {t : T} {v : Value} (x : Tr g t v) : Trs g [t] [v] := ⟨v, [], rfl, x, rfl⟩
theorem Trs.length {g : Heap} : ∀ {ts : List T} {vs : List Value}, Trs g ts vs → vs.length = ts.length
  | [], _, x => by subst x; rfl
  | _ :: _, _, ⟨v, ws, e, _, k⟩ => by subst e; simp [Trs.length k]
theorem Trs.get {g : Heap} : ∀ {ts : List T} {vs : List Value}, Trs g ts vs → ∀ {i : Nat} {t : T}, ts[i]? = some t → ∃ v, vs[i]? = some v ∧ Tr g t v
  | [], _, _, i, _, h => by simp at h
  | _ :: _, _, ⟨v, ws, e, x, k⟩, 0, t, h => by subst e; simp at h; subst h; exact ⟨v, rfl, x⟩
  | _ :: _, _, ⟨v, ws, e, x, k⟩, i + 1, t, h => by subst e; simp at h; simpa using Trs.get k h
theorem Trs.take {g : Heap} : ∀ {ts : List T} {vs : List Value}, Trs g ts vs → ∀ n, Trs g (ts.take n) (vs.take n)
  | [], _, x, n => by subst x; simp [Trs]
  | _ :: _, _, ⟨v, ws, e, x, k⟩, 0 => by simp [Trs]
  | _ :: _, _, ⟨v, ws, e, x, k⟩, n + 1 => by subst e; exact ⟨v, _, rfl, x, Trs.take k n⟩
theorem Trs.drop {g : Heap} : ∀ {ts : List T} {vs : List Value}, Trs g ts vs → ∀ n, Trs g (ts.drop n) (vs.drop n)
  | [], _, x, n => by subst x; simp [Trs]
  | _ :: _, _, ⟨v, ws, e, x, k⟩, 0 => by subst e; exact ⟨v, _, rfl, x, k⟩
  | _ :: _, _, ⟨v, ws, e, x, k⟩, n + 1 => by subst e; simpa using Trs.drop k n
theorem Tr.size {g : Heap} {ts : List T} {a : Addr} (x : Tr g (.node ts) (.ref a)) : ∃ vs, Ls g a vs ∧ Trs g ts vs := by
  obtain ⟨a', vs, e, l, k⟩ := x
  cases e; exact ⟨vs, l, k⟩

theorem grow_mono {g G h : Heap} {n : Nat} (hl : Le g G) : Le (grow g n h) (grow G n h) := fun b o e => by
  rw [grow_get] at e
  split at e
  · rename_i q
    rw [grow_get, if_pos]
    · exact e
    · simp only [Bool.or_eq_true, decide_eq_true_eq] at q ⊢
      rcases q with q | q
      · obtain ⟨o', q⟩ := Option.isSome_iff_exists.mp q
        exact .inl (by rw [hl _ _ q]; rfl)
      · exact .inr q
  · cases e

section
variable {c : Cfg} {X : Addr → Prop} {A : Around} {E : Value → Shared → Prop} {s₀ s : Shared} {g₀ g : Heap} {L f : Addr} {m : Str → Option Value} {env : Env}

theorem r_eqS {x y : Str} {t u : Tok} {Q : Value → Shared → Prop} (h : Q (.bool (x == y)) s) : wpAny c.M A (compareOp .Eq (.str x t) (.str y u)) Q E s := PyProof.Rows.eq_str h

theorem no_bytes_iadd : typeLookup (.type "bytes") "__iadd__" = pure none := by rw [typeLookup_type, builtinLookup_eq_fast]; kernel_rfl
theorem r_iaddB {x y : List UInt8} {t u : Tok} {Q : Value → Shared → Prop} (F : St c X s₀ g₀ g L m s) (hz : x.length + y.length ≤ 16777216) (h : ∀ t s', St c X s₀ g₀ g L m s' → Q (.bytes (x ++ y).toArray t) s') :
    wpAny c.M A (inplaceOp .Add (.bytes x.toArray t) (.bytes y.toArray u)) Q E s := by
  refine iconcat_gives (PySem.W.typeIs_bytes s _ t) (PySem.W.typeIs_bytes s _ u) no_bytes_iadd KBy.noFill_bytes_add KBy.seq_bytes_add FB.slot_bytes_add FB.entry_bytes_add (FB.args_bytes_add_2 _ _) (KBy.gives_bytes_add (KBy.tooLong_not (by simpa using hz))) ?_
  have e : (x ++ y).toArray = x.toArray ++ y.toArray := by simp
  rw [e] at h
  split
  · rename_i hb
    have e : x.toArray = #[] := Array.isEmpty_iff.1 hb
    have h' := h u _ (F.toks s.toks)
    rw [e, Array.empty_append] at h'
    exact h'
  · split
    · rename_i hc
      have e : y.toArray = #[] := Array.isEmpty_iff.1 hc
      have h' := h t _ (F.toks s.toks)
      rw [e, Array.append_empty] at h'
      exact h'
    · exact ⟨by rw [Array.size_append, sizeLine_eq]; simpa using hz, h s.toks _ (F.toks _)⟩

/-- a, b, … = a tuple -/
theorem r_unpack {elts : List Expr} {k : Nat} {pos : Pos} {a : Addr} {vs : List Value} {Q : Unit → Shared → Prop} (F : St c X s₀ g₀ g L m s) (hh : A.handled = none) (ht : Tp g a vs)
    (hn : (assignEach elts env).length = vs.length) (hstar : (assignEach elts env).findIdx? (·.1) = none)
    (h : ∀ s', St c X s₀ g₀ g L m s' → wpAny c.M A (assignInOrder ((assignEach elts env).map (·.2)) vs) Q E s') :
    wpAny c.M A (assign (.Tuple elts k pos) env (.ref a)) Q E s := by
  refine assign_Tuple_tuple hh (ht.mono F.fz.le) (by simpa using hn) hstar fun h' he => ?_
  have hk : ∀ b o, s.heap.get? b = some o → h'.get? b = some o := fun b o e => he b o (Nat.ne_of_lt (Heap.lt_size e)) e
  exact h _ (F.keep (k := s.toks) hk)
theorem r_into {x : Str} {pos : Pos} {v : Value} {ts : List (Value → Sem Unit)} {xs : List Value} {Q : Unit → Shared → Prop} (h : wpAny c.M A (storeName env x v) (fun _ s' => wpAny c.M A (assignInOrder ts xs) Q E s') E s) :
    wpAny c.M A (assignInOrder ((assign (.Name x pos) env) :: ts) (v :: xs)) Q E s := assignInOrder_cons (assign_Name h)

/-! ## lists of a frame's own -/
def lobj (vs : List Value) (n : Nat) : Obj := { cls := .type "list", data := .seq vs.toArray n }

/-- a new list that is yet to be written into: not frozen -/
theorem r_newO {vs : List Value} {Q : Value → Shared → Prop} (F : St c X s₀ g₀ g L m s) (hz : vs.length ≤ 1000)
    (h : ∀ a s', St c X s₀ g₀ g L m s' → s'.heap.get? a = some (lobj vs 0) → g.get? a = none → s₀.heap.objs.size ≤ a → a = s.heap.objs.size → (∀ b o, s.heap.get? b = some o → s'.heap.get? b = some o) → Q (.ref a) s') : wpAny c.M A (newList vs) Q E s := by
  refine wpAny_newObj_type (h _ _ (F.stay (Ext.push (s := s) (tk := s.toks) _)) (Heap.get?_push_size _ rfl) ?_ F.ext.size rfl fun b o e => Heap.get?_push_of_some _ e) (by show vs.toArray.size ≤ sizeLine; rw [List.size_toArray, sizeLine_eq]; omega)
  cases q : g.get? s.heap.objs.size with
  | none => rfl
  | some o => exact absurd (Heap.lt_size (F.fz.le _ _ q)) (Nat.lt_irrefl _)

theorem lobj_ne {h : Heap} {ps : Array Value} {a : Addr} {vs : List Value} {n : Nat} (x : h.get? a = some (lobj vs n)) (t : Tab c h ps) : a ≠ c.eC ∧ a ≠ c.eP := t.ne x fun vs q => by cases q
theorem lobj_neL {a : Addr} {vs : List Value} {n : Nat} (x : s.heap.get? a = some (lobj vs n)) (F : St c X s₀ g₀ g L m s) : a ≠ L := by
  obtain ⟨o', es, ep, e', hd'⟩ := F.nsL
  rintro rfl
  rw [x] at e'; cases e'; cases hd'

/-- what a frame holds beside its own two lists -/
structure Two (gb G : Heap) (a1 a2 : Addr) (v1 v2 : List Value) : Prop where
  le : Le gb G
  off1 : gb.get? a1 = none
  off2 : gb.get? a2 = none
  at1 : ∃ n, G.get? a1 = some (lobj v1 n)
  at2 : ∃ n, G.get? a2 = some (lobj v2 n)
  ne : a1 ≠ a2

theorem Two.grow {gb G h : Heap} {a1 a2 : Addr} {v1 v2 : List Value} {n : Nat} (x : Two gb G a1 a2 v1 v2) (hl : Le G h) (h1 : a1 < n) (h2 : a2 < n) : Two (grow gb n h) (grow G n h) a1 a2 v1 v2 where
  le := grow_mono x.le
  off1 := grow_none x.off1 h1
  off2 := grow_none x.off2 h2
  at1 := let ⟨k, e⟩ := x.at1; ⟨k, le_grow hl _ _ e⟩
  at2 := let ⟨k, e⟩ := x.at2; ⟨k, le_grow hl _ _ e⟩
  ne := x.ne
theorem Two.swap {gb G : Heap} {a1 a2 : Addr} {v1 v2 : List Value} (x : Two gb G a1 a2 v1 v2) : Two gb G a2 a1 v2 v1 := ⟨x.le, x.off2, x.off1, x.at2, x.at1, Ne.symm x.ne⟩

/-- list.append on the first -/
theorem r_append2 {gb : Heap} {a1 a2 : Addr} {v1 v2 : List Value} {x : Value} {Q : Value → Shared → Prop} (F : St c X s₀ g₀ g L m s) (W : Two gb g a1 a2 v1 v2) (hb : Le c.G gb) (h1 : s₀.heap.objs.size ≤ a1) (h2 : s₀.heap.objs.size ≤ a2) (hz : v1.length ≤ 16777216)
    (h : ∀ G s', St c X s₀ g₀ G L m s' → Two gb G a1 a2 (v1 ++ [x]) v2 → Q .none s') : wpAny c.M A (call (.builtin "list.append") [.ref a1, x]) Q E s := by
  obtain ⟨n, e1⟩ := W.at1
  obtain ⟨n2, e2⟩ := W.at2
  have e1' := F.fz.le _ _ e1
  have e2' := F.fz.le _ _ e2
  obtain ⟨ps, tt⟩ := F.fz.tab
  have hn1 := lobj_ne e1' tt
  have hn2 := lobj_ne e2' tt
  have hL1 := lobj_neL e1' F
  have hL2 := lobj_neL e2' F
  refine append_at e1' (fun h' hs ho => ?_) (by rw [sizeLine_eq]; simp; omega)
  have F1 := ((F.less W.le hb).write (tk := s.toks) (.inl h1) hL1 hn1.1 hn1.2 W.off1 hs).put (.inl h1) hL1 hn1.2
  have F2 := F1.put (.inl h2) hL2 hn2.2
  have eo : ({ cls := .type "list", data := .seq (v1.toArray.push x) (n + 1) } : Obj) = lobj (v1 ++ [x]) (n + 1) := by simp [lobj]
  rw [eo] at ho
  refine h _ _ F2 ⟨fun b o e => le_put F1.fz.le _ _ (le_put ((F.less W.le hb).write (tk := s.toks) (.inl h1) hL1 hn1.1 hn1.2 W.off1 hs).fz.le _ _ e), W.off1, W.off2, ⟨n + 1, ?_⟩, ⟨n2, ?_⟩, W.ne⟩
  · exact le_put F1.fz.le _ _ (by rw [put_self]; exact ho)
  · rw [put_self]; exact (hs.2 _ (Ne.symm W.ne)).trans e2'

/-- list.insert(0, x) on the first -/
theorem r_insert2 {gb : Heap} {a1 a2 : Addr} {v1 v2 : List Value} {x : Value} {t : Tok} {Q : Value → Shared → Prop} (F : St c X s₀ g₀ g L m s) (W : Two gb g a1 a2 v1 v2) (hb : Le c.G gb) (h1 : s₀.heap.objs.size ≤ a1) (h2 : s₀.heap.objs.size ≤ a2) (hz : v1.length ≤ 16777216)
    (h : ∀ G s', St c X s₀ g₀ G L m s' → Two gb G a1 a2 (x :: v1) v2 → Q .none s') : wpAny c.M A (call (.builtin "list.insert") [.ref a1, .int 0 t, x]) Q E s := by
  obtain ⟨n, e1⟩ := W.at1
  obtain ⟨n2, e2⟩ := W.at2
  have e1' := F.fz.le _ _ e1
  have e2' := F.fz.le _ _ e2
  obtain ⟨ps, tt⟩ := F.fz.tab
  have hn1 := lobj_ne e1' tt
  have hn2 := lobj_ne e2' tt
  have hL1 := lobj_neL e1' F
  have hL2 := lobj_neL e2' F
  have hz1 : v1.toArray.size ≤ sizeLine := by rw [sizeLine_eq]; simp; omega
  refine call_meets PySem.F.slot_list_insert ⟨_, e1', rfl⟩ PySem.F.entry_list_insert (PySem.F.args_list_insert_3 _ _ _) (AutoSeq1.list_insert_list_int_val_1 a1 v1.toArray n 0 t x (by decide) hz1) ⟨e1', ?_⟩
  generalize hf : (fun xs : Array Value => have k := if (0 : Int) < 0 then ((0 : Int) + (xs.size : Int)).toNat else min (0 : Int).toNat xs.size; (xs.extract 0 k).push x ++ xs.extract k) = f
  have hs : Heap.SameBut a1 s.heap (s.heap.update a1 (Obj.mapSeq f)) := Heap.SameBut.update ..
  obtain ⟨n', hd'⟩ := Obj.data_mapSeq (o := lobj v1 n) rfl f
  have ef : f v1.toArray = (x :: v1).toArray := by subst hf; simp
  have ho : (s.heap.update a1 (Obj.mapSeq f)).get? a1 = some (lobj (x :: v1) n') := by
    rw [Heap.get?_update_self _ e1' (Obj.isFreed_of_seq hd')]
    rw [ef] at hd'
    unfold Obj.mapSeq lobj at hd' ⊢
    simp only at hd' ⊢
    rw [hd']
  have F1 := ((F.less W.le hb).write (tk := s.toks) (.inl h1) hL1 hn1.1 hn1.2 W.off1 hs).put (.inl h1) hL1 hn1.2
  have F2 := F1.put (.inl h2) hL2 hn2.2
  refine h _ _ F2 ⟨fun b o e => le_put F1.fz.le _ _ (le_put ((F.less W.le hb).write (tk := s.toks) (.inl h1) hL1 hn1.1 hn1.2 W.off1 hs).fz.le _ _ e), W.off1, W.off2, ⟨n', ?_⟩, ⟨n2, ?_⟩, W.ne⟩
  · exact le_put F1.fz.le _ _ (by rw [put_self]; exact ho)
  · rw [put_self]; exact (hs.2 _ (Ne.symm W.ne)).trans e2'
end
end Mine
end
section
open PySem PySem.Calls PySem.Spec PyProof.Rows PySem.W
set_option maxRecDepth 100000
namespace Mine

theorem enc_pos (t : T) : 0 < (enc t).length := by
  cases t with
  | leaf b =>
    simp only [enc]
    split
    · rename_i h
      unfold tiny at h
      simp only [Bool.and_eq_true, beq_iff_eq] at h
      omega
    · have := hd_pos 128 b.length
      simp; omega
  | node ts =>
    have := hd_pos 192 (encs ts).length
    simp [enc]; omega

theorem encs_len (ts : List T) : ts.length ≤ (encs ts).length := by
  induction ts with
  | nil => simp
  | cons t ts ih => have := enc_pos t; simp [encs]; omega
theorem pcss_len (ts : List T) : (pcss ts).length = ts.length := by
  induction ts with
  | nil => simp [pcss]
  | cons t ts ih => simp [pcss, ih]

/-- the answer of consume_payload and consume_item -/
def CP (g : Heap) (t : T) (e : Nat) (a : Addr) : Prop := ∃ v w tk, Tp g a [v, w, .int e tk] ∧ Tr g t v ∧ Tr g (pcs t) w
theorem CP.mono {g h : Heap} {t : T} {e : Nat} {a : Addr} (x : CP g t e a) (hl : Le g h) : CP h t e a := let ⟨v, w, tk, x1, x2, x3⟩ := x; ⟨v, w, tk, x1.mono hl, x2.mono hl, x3.mono hl⟩

section
variable {c : Cfg} {E : Value → Shared → Prop} {s : Shared} {g : Heap} {f : Addr}

theorem cpl_leaf (ok : c.Ok) (hf : At c dCpl f) {b : List UInt8} {A : Around} {E : Value → Shared → Prop} {s : Shared} {g : Heap} {pre post x : List UInt8} {st len : Nat} {t1 t2 t3 t4 t5 : Tok} {Q : Value → Shared → Prop}
    (z : Fz c g s) (hroom : A.depth < recursionLimit) (hx : x = pre ++ (enc (.leaf b) ++ post)) (hz : x.length ≤ 16777216) (hst : st = pre.length + (pfx (.leaf b)).length) (hlen : len = b.length)
    (h : ∀ a s', Pex c s s' → CP (grow g s.heap.objs.size s'.heap) (.leaf b) (pre.length + (enc (.leaf b)).length) a → Q (.ref a) s') :
    wpAny c.M A (call (.ref f) [.bytes x.toArray t1, .bytes (pfx (.leaf b)).toArray t2, .int st t3, .str (kindS false) t4, .int len t5]) Q E s := by
  have ep : enc (.leaf b) = pfx (.leaf b) ++ b := enc_eq _
  have hcut : (x.drop st).take (st + len - st) = b := by
    have e1 : st + len - st = b.length := by omega
    rw [e1, hx, ep, hst]
    have e2 : pre ++ (pfx (.leaf b) ++ b ++ post) = (pre ++ pfx (.leaf b)) ++ (b ++ post) := by simp
    rw [e2, ← List.length_append, List.drop_left, List.take_left]
  have hlx : (pfx (.leaf b)).length + b.length ≤ x.length := by rw [hx, ep]; simp; omega
  refine call_def (X := noX) (binds := [("rlp", .bytes x.toArray t1), ("prefix", .bytes (pfx (.leaf b)).toArray t2), ("start", .int st t3), ("type_", .str (kindS false) t4), ("length", .int len t5)]) ok hf z (fun _ q => q.elim) (fun _ q => q.elim) hroom (fun _ _ _ => by rfl) (locs rfl) (fun cd s₁ _ F => ?_)
  refine wpAny_execs_cons (wpAny_If (wpAny_isTrue_Compare1 (r_name F (by rfl) (r_str F fun t6 s6 F6 => r_eqS (r_yes (by rfl) ?_)))))
  refine wpAny_execs_cons (wpAny_Assign_Name (r_sl2 (r_name F6 (by rfl) (r_name F6 (by rfl) (wpAny_BinOp (r_name F6 (by rfl) (r_name F6 (by rfl) (r_addI F6 fun t7 s7 F7 => ?_))))))))
  refine ⟨x, _, st, st + len, _, _, _, _, _, _, _, _, _, _, rfl, hz, rfl, rfl, rfl, by push_cast; rfl, F7, fun t8 s8 F8 => r_store F8 fun s9 F9 => ?_⟩
  rw [hcut] at F9
  refine wpAny_execs_cons (wpAny_Return_some (r_tuple (r_args_cons (r_name F9 (by rfl) (r_args_cons (r_list (r_args_cons (wpAny_BinOp (r_name F9 (by rfl) (r_name F9 (by rfl) (r_addB F9 (by omega) fun t10 s10 F10 => r_args_nil (r_newL F10 (by simp) fun a11 g11 s11 l11 F11 hl11 _ => ?_))))))))))))
  refine r_args_cons (wpAny_BinOp (r_name F11 (by rfl) (r_name F11 (by rfl) (r_addI F11 fun t12 s12 F12 => r_args_nil (r_newT F12 (by simp) fun a13 g13 s13 l13 F13 hl13 _ => ?_)))))
  have e : (st : Int) + (len : Int) = ((pre.length + (enc (.leaf b)).length : Nat) : Int) := by rw [ep, List.length_append]; omega
  rw [e] at hl13
  rw [← ep] at hl11
  exact h _ _ F13.ext ⟨_, _, _, hl13.mono F13.le_end, ⟨_, rfl⟩, _, _, rfl, (hl11.mono l13).mono F13.le_end, _, [], rfl, ⟨_, rfl⟩, rfl⟩

set_option maxHeartbeats 8000000 in
theorem cpl_node (ok : c.Ok) (hf : At c dCpl f) {n : Nat} (ih : ∀ {t : T} {A : Around} {E : Value → Shared → Prop} {s : Shared} {g : Heap} {pre post x : List UInt8} {st len : Nat} {t1 t2 t3 t4 t5 : Tok} {Q : Value → Shared → Prop},
    ht t ≤ n → Fz c g s → A.depth + n + 2 < recursionLimit → A.handled = none → x = pre ++ (enc t ++ post) → x.length ≤ 16777216 → st = pre.length + (pfx t).length → len = (pay t).length →
    (∀ a s', Pex c s s' → CP (grow g s.heap.objs.size s'.heap) t (pre.length + (enc t).length) a → Q (.ref a) s') →
    wpAny c.M A (call (.ref f) [.bytes x.toArray t1, .bytes (pfx t).toArray t2, .int st t3, .str (kindS (isN t)) t4, .int len t5]) Q E s)
    {ts : List T} {A : Around} {E : Value → Shared → Prop} {s : Shared} {g : Heap} {pre post x : List UInt8} {st len : Nat} {t1 t2 t3 t4 t5 : Tok} {Q : Value → Shared → Prop}
    (hn : hts ts ≤ n) (z : Fz c g s) (hroom : A.depth + (n + 1) + 2 < recursionLimit) (hh : A.handled = none) (hx : x = pre ++ (enc (.node ts) ++ post)) (hz : x.length ≤ 16777216) (hst : st = pre.length + (pfx (.node ts)).length) (hlen : len = (encs ts).length)
    (h : ∀ a s', Pex c s s' → CP (grow g s.heap.objs.size s'.heap) (.node ts) (pre.length + (enc (.node ts)).length) a → Q (.ref a) s') :
    wpAny c.M A (call (.ref f) [.bytes x.toArray t1, .bytes (pfx (.node ts)).toArray t2, .int st t3, .str (kindS true) t4, .int len t5]) Q E s := by
  have ep : enc (.node ts) = pfx (.node ts) ++ encs ts := enc_eq _
  have hlx : (pfx (.node ts)).length + (encs ts).length ≤ x.length := by rw [hx, ep]; simp; omega
  obtain ⟨fL, hL⟩ := ok.at_ (d := dClp) (by rw [recs_eq]; simp)
  refine call_def (X := noX) (binds := [("rlp", .bytes x.toArray t1), ("prefix", .bytes (pfx (.node ts)).toArray t2), ("start", .int st t3), ("type_", .str (kindS true) t4), ("length", .int len t5)]) ok hf z (fun _ q => q.elim) (fun _ q => q.elim) (by omega) (fun _ _ _ => by rfl) (locs rfl) (fun cd s₁ _ F => ?_)
  refine wpAny_execs_cons (wpAny_If (wpAny_isTrue_Compare1 (r_name F (by rfl) (r_str F fun t6 s6 F6 => r_eqS (r_no (by rfl) ?_)))))
  refine wpAny_execs_cons (wpAny_If (wpAny_isTrue_Compare1 (r_name F6 (by rfl) (r_str F6 fun t7 s7 F7 => r_eqS (r_yes (by rfl) ?_)))))
  refine wpAny_execs_cons (wpAny_Assign_Name (r_list (r_args_nil (r_newO F7 (by simp) fun a1 s8 F8 e8 o8 lo8 _ k8 => r_store (F8.put (.inl lo8) (lobj_neL e8 F8) (let ⟨_, tt⟩ := F8.fz.tab; (lobj_ne e8 tt).2)) fun s9 F9 => ?_))))
  refine wpAny_execs_cons (wpAny_Assign_Name (r_list (r_args_nil (r_newO F9 (by simp) fun a2 s10 F10 e10 o10 lo10 z10 k10 => r_store (F10.put (.inl lo10) (lobj_neL e10 F10) (let ⟨_, tt⟩ := F10.fz.tab; (lobj_ne e10 tt).2)) fun s11 F11 => ?_))))
  have p1 : (put (put g a1 s8.heap) a2 s10.heap).get? a1 = some (lobj [] 0) := le_put F10.fz.le _ _ (by rw [put_self]; exact e8)
  have p2 : (put (put g a1 s8.heap) a2 s10.heap).get? a2 = some (lobj [] 0) := by rw [put_self]; exact e10
  have hne : a1 ≠ a2 := by rintro rfl; rw [put_self, e8] at o10; cases o10
  have W11 : Two g (put (put g a1 s8.heap) a2 s10.heap) a1 a2 [] [] := ⟨fun b o e => le_put F10.fz.le _ _ (le_put F8.fz.le _ _ e), o8, by
    cases q : g.get? a2 with
    | none => rfl
    | some o => exact absurd ((le_put F8.fz.le _ _ q).symm.trans o10) (by simp), ⟨0, p1⟩, ⟨0, p2⟩, hne⟩
  refine wpAny_execs_cons (wpAny_Assign_Name (r_name F11 (by rfl) (r_store F11 fun s12 F12 => ?_)))
  refine wpAny_execs_cons (wpAny_Assign_Name (r_name F12 (by rfl) (r_store F12 fun s13 F13 => ?_)))
  refine wpAny_execs_cons (wpAny_Assign_Name (wpAny_BinOp (r_name F13 (by rfl) (r_name F13 (by rfl) (r_addI F13 fun t14 s14 F14 => r_store F14 fun s15 F15 => ?_)))))
  refine wpAny_execs_cons (wpAny_While ?_)
  let I : Nat → Shared → Prop := fun k s5 => ∃ gb G m5 v1 v2 done todo tl tt te,
    ts = done ++ todo ∧ todo.length = k ∧ Le g gb ∧ Two gb G a1 a2 v1 v2 ∧ St c noX s g G s.heap.objs.size m5 s5 ∧ Trs gb done v1 ∧ Trs gb (pcss done) v2 ∧
    m5 "rlp" = some (.bytes x.toArray t1) ∧ m5 "items" = some (.ref a1) ∧ m5 "per_item_rlp" = some (.ref a2) ∧ m5 "list_rlp" = some (.bytes (pfx (.node ts) ++ encs done).toArray tl) ∧
    m5 "next_item_start" = some (.int (st + (encs done).length : Nat) tt) ∧ m5 "end" = some (.int (st + (encs ts).length : Nat) te)
  have e15 : (st : Int) + (len : Int) = ((st + (encs ts).length : Nat) : Int) := by omega
  rw [e15] at F15
  refine codeAny_whileLoop I ?_ ts.length ⟨g, _, _, [], [], [], ts, _, _, _, rfl, rfl, fun _ _ e => e, W11, F15, rfl, rfl, by rfl, by rfl, by rfl, by rw [encs, List.append_nil]; rfl, by rfl, by rfl⟩
  rintro k s5 ⟨gb, G, m5, v1, v2, done, todo, tl, tt, te, e5, hk5, lg5, W5, F5, T1, T2, m_rlp, m_items, m_per, m_lst, m_nis, m_end⟩
  have hbG : Le c.G gb := fun b o e => lg5 _ _ (F.fz.base b o e)
  refine wpAny_isTrue_Compare1 (r_name F5 m_nis (r_name F5 m_end (r_ltI ?_)))
  have esum : (encs ts).length = (encs done).length + (encs todo).length := by rw [e5, encs_append, List.length_append]
  cases todo with
  | nil =>
    refine r_noD (by rw [esum, encs]; simp) (wpAny_execs_nil ?_)
    have ed : done = ts := by rw [e5, List.append_nil]
    subst ed
    refine wpAny_execs_cons (wpAny_Expr_any (MethodCall_ (r_name F5 m_per ?_)))
    obtain ⟨n2, q2⟩ := W5.at2
    refine getMethod_list_of PySem.F.slot_list_insert PySem.F.type_list_insert ⟨_, F5.fz.le _ _ q2, rfl, n2, rfl⟩ ⟨_, F5.fz.le _ _ q2, rfl⟩ ?_
    refine callWith_method1 (r_args_cons (r_int F5 fun t6 s6 F6 => r_args_cons (r_name F6 m_lst (r_args_nil ?_))))
    refine r_insert2 F6 W5.swap hbG lo10 lo8 (by rw [T2.length, pcss_len]; have := encs_len done; omega) fun G7 s7 F7 W7 => ?_
    refine wpAny_execs_cons (wpAny_If (wpAny_isTrue_Compare1 (r_name F7 m_nis (r_name F7 m_end (r_gtI (r_noD (by omega) (wpAny_execs_nil ?_)))))))
    refine wpAny_execs_cons (wpAny_Return_some (r_tuple (r_args_cons (r_name F7 m_items (r_args_cons (r_name F7 m_per (r_args_cons (r_name F7 m_nis (r_args_nil (r_newT F7 (by simp) fun a8 g8 s8 l8 F8 hl8 _ => ?_))))))))))
    obtain ⟨n7, q7⟩ := W7.at1
    obtain ⟨n8, q8⟩ := W7.at2
    have lgb : Le gb g8 := fun b o e => l8 _ _ (W7.le _ _ e)
    have e : st + (encs done).length = pre.length + (enc (.node done)).length := by rw [ep, List.length_append]; omega
    rw [e] at hl8
    refine h _ _ F8.ext ⟨_, _, _, hl8.mono F8.le_end, ⟨_, _, rfl, Ls.mono ⟨_, l8 _ _ q8, rfl, n8, rfl⟩ F8.le_end, (T1.mono lgb).mono F8.le_end⟩, ?_⟩
    rw [pcs]
    exact ⟨_, _, rfl, Ls.mono ⟨_, l8 _ _ q7, rfl, n7, rfl⟩ F8.le_end, _, _, rfl, ⟨_, by rw [ep]⟩, (T2.mono lgb).mono F8.le_end⟩
  | cons t rest =>
    have e0 := enc_pos t
    have esum2 : (encs (t :: rest)).length = (enc t).length + (encs rest).length := by rw [encs, List.length_append]
    refine r_yesD (by omega) ?_
    have et : (enc t).length = (pfx t).length + (pay t).length := by rw [enc_eq t, List.length_append]
    have hxt : x = (pre ++ pfx (.node ts) ++ encs done) ++ (enc t ++ (encs rest ++ post)) := by
      rw [hx, ep, e5, encs_append, encs]; simp only [List.append_assoc]
    have hpl : (pre ++ pfx (.node ts) ++ encs done).length = st + (encs done).length := by simp only [List.length_append]; omega
    have hclp := clp_enc (pre := pre ++ pfx (.node ts) ++ encs done) (post := encs rest ++ post) (t := t) (by omega)
    rw [← hxt, hpl] at hclp
    have F5' := F5.less W5.le hbG
    refine wpAny_execs_cons (Assign_Tuple (r_call (r_global ok F5.fz hL.nm (r_with_def ok hL (r_args_cons (r_name F5 m_rlp (r_args_cons (r_name F5 m_nis (r_args_nil ⟨fun b o q => F5.fz.le b o (F5.fz.base b o q), ?_⟩)))))))))
    refine clp_ok ok hL F5'.fz (by simp only [depth_deeper]; omega) hz hclp fun aT t6 t7 t8 t9 s6 P6 T6 => ?_
    have F6 := F5.pex P6
    have W6 := W5.grow (F5.stay P6).fz.le (let ⟨_, q⟩ := W5.at1; Heap.lt_size (F5.fz.le _ _ q)) (let ⟨_, q⟩ := W5.at2; Heap.lt_size (F5.fz.le _ _ q))
    have l56 : Le gb (grow gb s5.heap.objs.size s6.heap) := le_grow (F5'.stay P6).fz.le
    refine r_unpack F6 hh (T6.mono W6.le) (by rfl) (by rfl) fun s7 F7 => r_into (r_store F7 fun s8 F8 => r_into (r_store F8 fun s9 F9 => r_into (r_store F9 fun s10 F10 => r_into (r_store F10 fun s11 F11 => assignInOrder_nil ?_))))
    clear F6 F7 F8 F9 F10
    have hb6 : Le c.G (grow gb s5.heap.objs.size s6.heap) := fun b o e => l56 _ _ (hbG _ _ e)
    have F11' := F11.less W6.le hb6
    refine wpAny_execs_cons (Assign_Tuple (r_call (r_global ok F11.fz hf.nm (r_with_def ok hf (r_args_cons (r_name F11 m_rlp (r_args_cons (r_name F11 (by rfl) (r_args_cons (r_name F11 (by rfl) (r_args_cons (r_name F11 (by rfl) (r_args_cons (r_name F11 (by rfl) (r_args_nil ⟨fun b o q => F11.fz.le b o (F11.fz.base b o q), ?_⟩)))))))))))))))
    refine ih (pre := pre ++ pfx (.node ts) ++ encs done) (post := encs rest ++ post) (by have := ht_mem (t := t) (ts := ts) (by rw [e5]; simp); omega) F11'.fz (by simp only [depth_deeper]; omega) hh hxt hz (by omega) rfl fun aC s12 P12 C12 => ?_
    have F12 := F11.pex P12
    have W12 := W6.grow (F11.stay P12).fz.le (let ⟨_, q⟩ := W6.at1; Heap.lt_size (F11.fz.le _ _ q)) (let ⟨_, q⟩ := W6.at2; Heap.lt_size (F11.fz.le _ _ q))
    have l612 : Le (grow gb s5.heap.objs.size s6.heap) (grow (grow gb s5.heap.objs.size s6.heap) s11.heap.objs.size s12.heap) := le_grow (F11'.stay P12).fz.le
    generalize grow (grow gb s5.heap.objs.size s6.heap) s11.heap.objs.size s12.heap = gb2 at *
    generalize grow (grow G s5.heap.objs.size s6.heap) s11.heap.objs.size s12.heap = G2 at *
    obtain ⟨v, w, tk, hT, hv, hw⟩ := C12
    have lgb2 : Le gb gb2 := fun b o e => l612 _ _ (l56 _ _ e)
    have hb2 : Le c.G gb2 := fun b o e => lgb2 _ _ (hbG _ _ e)
    refine r_unpack F12 hh (hT.mono W12.le) (by rfl) (by rfl) fun s13 F13 => r_into (r_store F13 fun s14 F14 => r_into (r_store F14 fun s15 F15 => r_into (r_store F15 fun s16 F16 => assignInOrder_nil ?_)))
    clear F11 F11' F12 F13 F14 F15
    refine wpAny_execs_cons (wpAny_Expr_any (MethodCall_ (r_name F16 m_per ?_)))
    obtain ⟨n2, q2⟩ := W12.at2
    refine getMethod_list_append (F16.fz.le _ _ q2) rfl rfl (callWith_method1 (r_args_cons (r_name F16 (by rfl) (r_args_nil ?_))))
    have hdl : done.length ≤ 16777216 := by have := encs_len done; omega
    refine r_append2 F16 W12.swap hb2 lo10 lo8 (by rw [T2.length, pcss_len]; omega) fun G17 s17 F17 W17 => ?_
    obtain ⟨r, er⟩ := pcs_head t
    have hw' := hw
    rw [er] at hw'
    obtain ⟨aw, vw, rfl, hlw, v0, wr, rfl, ⟨te0, rfl⟩, _⟩ := hw'
    refine wpAny_execs_cons (wpAny_AugAssign_Name (wpAny_loadName_local (by rfl) (by rfl) F17.ns m_lst (Subscript_ (r_name F17 (by rfl) (r_int F17 fun t18 s18 F18 => r_itemL (i := 0) F18 (hlw.mono W17.le) (by rfl) (by decide) (by rfl) ?_)))))
    refine r_iaddB F18 (by rw [List.length_append]; omega) fun t19 s19 F19 => r_store F19 fun s20 F20 => ?_
    refine wpAny_execs_cons (wpAny_Expr_any (MethodCall_ (r_name F20 m_items ?_)))
    obtain ⟨n1, q1⟩ := W17.at2
    refine getMethod_list_append (F20.fz.le _ _ q1) rfl rfl (callWith_method1 (r_args_cons (r_name F20 (by rfl) (r_args_nil ?_))))
    refine r_append2 F20 W17.swap hb2 lo8 lo10 (by rw [T1.length]; omega) fun G21 s21 F21 W21 => ?_
    have el : pfx (.node ts) ++ encs done ++ enc t = pfx (.node ts) ++ encs (done ++ [t]) := by rw [encs_append, encs, encs, List.append_nil, ← List.append_assoc]
    have en : (pre ++ pfx (.node ts) ++ encs done).length + (enc t).length = st + (encs (done ++ [t])).length := by rw [hpl, encs_append, encs, encs, List.append_nil, List.length_append]; omega
    have m_lst2 : some (Value.bytes (pfx (.node ts) ++ encs done ++ enc t).toArray t19) = some (Value.bytes (pfx (.node ts) ++ encs (done ++ [t])).toArray t19) := by rw [el]
    have m_nis2 : some (Value.int (((pre ++ pfx (.node ts) ++ encs done).length + (enc t).length : Nat) : Int) tk) = some (Value.int ((st + (encs (done ++ [t])).length : Nat) : Int) tk) := by rw [en]
    have T22 : Trs gb2 (pcss (done ++ [t])) (v2 ++ [Value.ref aw]) := by rw [pcss_append]; exact (T2.mono lgb2).append (Trs.one hw)
    exact wpAny_execs_nil ⟨rest.length, by simp at hk5; omega, gb2, G21, _, _, _, done ++ [t], rest, t19, tk, te, by rw [e5, List.append_assoc]; rfl, rfl, fun b o e => lgb2 _ _ (lg5 _ _ e), W21, F21, (T1.mono lgb2).append (Trs.one hv), T22, m_rlp, m_items, m_per, m_lst2, m_nis2, m_end⟩

theorem cpl_ok (ok : c.Ok) (hf : At c dCpl f) (n : Nat) : ∀ {t : T} {A : Around} {E : Value → Shared → Prop} {s : Shared} {g : Heap} {pre post x : List UInt8} {st len : Nat} {t1 t2 t3 t4 t5 : Tok} {Q : Value → Shared → Prop},
    ht t ≤ n → Fz c g s → A.depth + n + 2 < recursionLimit → A.handled = none → x = pre ++ (enc t ++ post) → x.length ≤ 16777216 → st = pre.length + (pfx t).length → len = (pay t).length →
    (∀ a s', Pex c s s' → CP (grow g s.heap.objs.size s'.heap) t (pre.length + (enc t).length) a → Q (.ref a) s') →
    wpAny c.M A (call (.ref f) [.bytes x.toArray t1, .bytes (pfx t).toArray t2, .int st t3, .str (kindS (isN t)) t4, .int len t5]) Q E s := by
  induction n with
  | zero =>
    intro t A E s g pre post x st len t1 t2 t3 t4 t5 Q hn z hroom hh hx hz hst hlen h
    cases t with
    | leaf b => exact cpl_leaf ok hf z (by omega) hx hz hst hlen h
    | node ts => rw [ht] at hn; omega
  | succ n ih =>
    intro t A E s g pre post x st len t1 t2 t3 t4 t5 Q hn z hroom hh hx hz hst hlen h
    cases t with
    | leaf b => exact cpl_leaf ok hf z (by omega) hx hz hst hlen h
    | node ts => exact cpl_node ok hf ih (by rw [ht] at hn; omega) z (by omega) hh hx hz hst hlen h

theorem cit_ok (ok : c.Ok) (hf : At c dCit f) {t : T} {A : Around} {E : Value → Shared → Prop} {s : Shared} {g : Heap} {pre post x : List UInt8} {t1 t2 : Tok} {Q : Value → Shared → Prop}
    (z : Fz c g s) (hroom : A.depth + ht t + 3 < recursionLimit) (hh : A.handled = none) (hx : x = pre ++ (enc t ++ post)) (hz : x.length ≤ 16777216)
    (h : ∀ a s', Pex c s s' → CP (grow g s.heap.objs.size s'.heap) t (pre.length + (enc t).length) a → Q (.ref a) s') :
    wpAny c.M A (call (.ref f) [.bytes x.toArray t1, .int pre.length t2]) Q E s := by
  obtain ⟨fL, hL⟩ := ok.at_ (d := dClp) (by rw [recs_eq]; simp)
  obtain ⟨fP, hP⟩ := ok.at_ (d := dCpl) (by rw [recs_eq]; simp)
  refine call_def (X := noX) (binds := [("rlp", .bytes x.toArray t1), ("start", .int pre.length t2)]) ok hf z (fun _ q => q.elim) (fun _ q => q.elim) (by omega) (fun _ _ _ => by rfl) (locs rfl) (fun cd s₁ _ F => ?_)
  have hlt : (pay t).length < 2 ^ 60 := by
    have : (enc t).length = (pfx t).length + (pay t).length := by rw [enc_eq t, List.length_append]
    rw [hx] at hz
    simp only [List.length_append] at hz
    omega
  have hclp := clp_enc (pre := pre) (post := post) (t := t) hlt
  rw [← hx] at hclp
  refine wpAny_execs_cons (Assign_Tuple (r_call (r_global ok F.fz hL.nm (r_with_def ok hL (r_args_cons (r_name F (by rfl) (r_args_cons (r_name F (by rfl) (r_args_nil ⟨fun b o q => F.fz.le b o (F.fz.base b o q), ?_⟩)))))))))
  refine clp_ok ok hL F.fz (by simp only [depth_deeper]; omega) hz hclp fun aT t6 t7 t8 t9 s6 P6 T6 => ?_
  refine r_unpack (F.pex P6) hh T6 (by rfl) (by rfl) fun s7 F7 => r_into (r_store F7 fun s8 F8 => r_into (r_store F8 fun s9 F9 => r_into (r_store F9 fun s10 F10 => r_into (r_store F10 fun s11 F11 => assignInOrder_nil ?_))))
  refine wpAny_execs_cons (wpAny_Return_some (r_call (r_global ok F11.fz hP.nm (r_with_def ok hP (r_args_cons (r_name F11 (by rfl) (r_args_cons (r_name F11 (by rfl) (r_args_cons (r_name F11 (by rfl) (r_args_cons (r_name F11 (by rfl) (r_args_cons (r_name F11 (by rfl) (r_args_nil ⟨fun b o q => F11.fz.le b o (F11.fz.base b o q), ?_⟩)))))))))))))))
  refine cpl_ok ok hP (ht t) (Nat.le_refl _) F11.fz (by simp only [depth_deeper]; omega) hh hx hz rfl rfl fun a s12 P12 C12 => ?_
  exact h _ _ (F11.ext.trans P12) (C12.mono (F11.pex P12).le_end)
end
end Mine
end
section
open PySem PySem.Calls PySem.Spec PyProof.Rows PySem.W
open Sem (wp)
set_option maxRecDepth 100000
namespace Mine

/-- what a turn of a generator does to the rest -/
structure Gs (C I : Addr) (s₀ s : Shared) : Prop where
  keep : ∀ b o, b ≠ C → b ≠ I → s₀.heap.get? b = some o → s.heap.get? b = some o
  gens : ∀ (i : Nat) (x : GenState), s₀.gens[i]? = some x → s.gens[i]? = some x
  bare : ∀ (i : Nat) (x : GenState), s₀.gens.size ≤ i → s.gens[i]? = some x → x.bare = true
  drawn : s.drawn = s₀.drawn
  os : s.os = s₀.os
theorem Gs.refl {C I : Addr} {s : Shared} : Gs C I s s := ⟨fun _ _ _ _ e => e, fun _ _ e => e, fun i x h e => by (rw [Array.getElem?_eq_none h] at e; cases e), rfl, rfl⟩
theorem Gs.trans {C I : Addr} {s s' s'' : Shared} (x : Gs C I s s') (y : Gs C I s' s'') : Gs C I s s'' where
  keep := fun b o h1 h2 e => y.keep b o h1 h2 (x.keep b o h1 h2 e)
  gens := fun i z e => y.gens i z (x.gens i z e)
  bare := fun i z h e => by
    by_cases h1 : s'.gens.size ≤ i
    · exact y.bare i z h1 e
    · have hlt : i < s'.gens.size := by omega
      have e1 : s'.gens[i]? = some s'.gens[i] := Array.getElem?_eq_getElem hlt
      have e2 := y.gens _ _ e1
      rw [e] at e2; cases e2
      exact x.bare i _ h e1
  drawn := y.drawn.trans x.drawn
  os := y.os.trans x.os
theorem Gs.heap {C I : Addr} {s : Shared} {h' : Heap} {tk : Nat} (hk : ∀ b o, b ≠ C → b ≠ I → s.heap.get? b = some o → h'.get? b = some o) : Gs C I s { s with heap := h', toks := tk } :=
  ⟨hk, fun _ _ e => e, fun i x h e => by (rw [Array.getElem?_eq_none h] at e; cases e), rfl, rfl⟩
theorem Gs.pex {c : Cfg} {C I : Addr} {s s' : Shared} (x : Pex c s s') (h : Hit c s.heap) : Gs C I s s' :=
  ⟨fun b o _ _ e => by
    by_cases q : b = c.eP
    · subst q; rw [x.hit h]; exact e
    · exact x.keep b o q (fun z => z) e, x.gens, x.bare, x.drawn, x.os⟩

/-- a generator at its i-th turn -/
structure GI (c : Cfg) (g : Heap) (C I la : Addr) (vs : List Value) (i : Nat) (s : Shared) : Prop where
  it : s.heap.IsListIter I la i
  li : s.heap.IsList la vs.toArray
  ns : ∃ m, s.heap.Ns C m
  fz : Fz c g s
  hit : Hit c s.heap

/-- the places of a generator -/
structure GP (c : Cfg) (g : Heap) (C I la : Addr) : Prop where
  ltI : I < C
  ltla : la < C
  nela : la ≠ I
  ltg : ∀ b o, g.get? b = some o → b < C
  offI : g.get? I = none
  ltC : c.eC < C
  ltP : c.eP < C
  neC : I ≠ c.eC
  neP : I ≠ c.eP

theorem GP.offC {c : Cfg} {g : Heap} {C I la : Addr} (p : GP c g C I la) : g.get? C = none := by
  cases q : g.get? C with
  | none => rfl
  | some o => exact absurd (p.ltg _ _ q) (Nat.lt_irrefl _)

theorem GI.move {c : Cfg} {g : Heap} {C I la : Addr} {vs : List Value} {i : Nat} {s s'' : Shared} (x : GI c g C I la vs i s) (p : GP c g C I la)
    (hk : ∀ b ∈ C :: List.range C, ∀ o, s.heap.get? b = some o → s''.heap.get? b = some o) : GI c g C I la vs i s'' where
  it := x.it.at fun o e => hk _ (List.mem_cons_of_mem _ (List.mem_range.mpr p.ltI)) o e
  li := x.li.at fun o e => hk _ (List.mem_cons_of_mem _ (List.mem_range.mpr p.ltla)) o e
  ns := let ⟨m, h⟩ := x.ns; ⟨m, h.at' fun o e => hk _ (List.mem_cons_self ..) o e⟩
  fz := ⟨fun b o e => hk b (List.mem_cons_of_mem _ (List.mem_range.mpr (p.ltg b o e))) o (x.fz.le b o e), x.fz.base, x.fz.off, let ⟨ps, t⟩ := x.fz.tab
    ⟨ps, t.step fun b o hb e => hk b (List.mem_cons_of_mem _ (List.mem_range.mpr (by rcases hb with rfl | rfl; exact p.ltC; exact p.ltP))) o e⟩⟩
  hit := let ⟨ps, c', t, q⟩ := x.hit
    ⟨ps, c', t.step fun b o hb e => hk b (List.mem_cons_of_mem _ (List.mem_range.mpr (by rcases hb with rfl | rfl; exact p.ltC; exact p.ltP))) o e, q⟩

def gR (C I : Addr) : GenEnd := fun m s₀ r s₁ => r = .ok .next ∧ (m = 0 ∧ Gs C I s₀ s₁)
noncomputable def gY (C I : Addr) (ts : List T) : Protocol := fun m s₀ v s kap =>
  (∃ t tk, ts[ts.length - 1 - m]? = some t ∧ v = .bytes (enc t).toArray tk) ∧ Gs C I s₀ s ∧
    ∀ s'' : Shared, (∀ b ∈ C :: List.range C, ∀ o, s.heap.get? b = some o → s''.heap.get? b = some o) → kap (.send .none) s''

section
variable {c : Cfg} {A : Around} {g : Heap} {I la : Addr} {vs : List Value} {ts : List T} {cenv : Env}

theorem seg_loop {elt iter : Expr} {x : Str} {px : Pos} {scope : Scope} {pos : Pos} (hh : A.handled = none) (p : GP c g cenv.locals I la) (hT : Trs g ts vs)
    (hx : cenv.kindOf x = some .local) (hp : (cenv.scope.kind == .class || (cenv.scope.kind == .module && cenv.locals != cenv.globals)) = false) (hco : cenv.scope.isCoroutine = false)
    (helt : ∀ (B : Around) (E' : Value → Shared → Prop) (i : Nat) (t : T) (v : Value) (s₂ : Shared) (m₂ : Str → Option Value), B.handled = none → B.depth ≤ A.depth + 1 → ts[i]? = some t → Tr g t v → Fz c g s₂ → Hit c s₂.heap → s₂.heap.Ns cenv.locals m₂ → m₂ x = some v →
      wpAny c.M B (eval elt cenv) (fun y s₃ => (∃ tk, y = .bytes (enc t).toArray tk) ∧ Pex c s₂ s₃) E' s₂) :
    ∀ (k i : Nat) (s₀ s : Shared), ts.length - i = k → i ≤ ts.length → GI c g cenv.locals I la vs i s → Gs cenv.locals I s₀ s →
      Seg c.M A (gR cenv.locals I) (gY cenv.locals I ts) (ts.length - i) s₀
        (.compLoop (.GeneratorExp elt [⟨.Name x px, iter, [], 0⟩] scope pos) 0 (.ref I) .none cenv)
        (c.M.den (.compLoop (.GeneratorExp elt [⟨.Name x px, iter, [], 0⟩] scope pos) 0 (.ref I) .none cenv)) [] s := by
  have hlen := hT.length
  have hCI : cenv.locals ≠ I := Nat.ne_of_gt p.ltI
  have hCla : cenv.locals ≠ la := Nat.ne_of_gt p.ltla
  intro k
  induction k with
  | zero =>
    intro i s₀ s hk hi hg hsince
    have hin : i = ts.length := by omega
    subst hin
    show Seg _ A _ _ _ s₀ _ ((compTurn (.GeneratorExp elt [⟨.Name x px, iter, [], 0⟩] scope pos) 0 (.ref I) .none cenv).onRaise (PySem.leaving cenv)) [] s
    rw [compTurn_gen, Sem.onRaise_eq_wrap]
    refine seg_bind_wrap (wpAny_standAt ?_)
    refine seg_bind_wrap (wpAny_pyNext_list_end hh hg.it hg.li (by simp [hlen]) fun h' he' => ?_)
    exact seg_end (.ok .next) ⟨rfl, by omega, hsince.trans (Gs.heap (tk := s.toks) fun b o _ h2 e => he' b o h2 e)⟩
  | succ k ih =>
    intro i s₀ s hk hi hg hsince
    have hlt : i < ts.length := by omega
    obtain ⟨t, ht⟩ : ∃ t, ts[i]? = some t := ⟨_, List.getElem?_eq_getElem hlt⟩
    obtain ⟨v, hv, hTr⟩ := hT.get ht
    show Seg _ A _ _ _ s₀ _ ((compTurn (.GeneratorExp elt [⟨.Name x px, iter, [], 0⟩] scope pos) 0 (.ref I) .none cenv).onRaise (PySem.leaving cenv)) [] s
    rw [compTurn_gen, Sem.onRaise_eq_wrap]
    refine seg_bind_wrap (wpAny_standAt ?_)
    refine seg_bind_wrap (wpAny_pyNext_list_item hg.it hg.li (x := v) (by simpa using hv) fun h₁ hit₁ hs₁ => ?_)
    refine seg_bind_wrap (wpAny_of_eq (rfl : letOwnedTupleGo (.Name x px) (.ref I) v = pure ()) ?_)
    obtain ⟨m, hn⟩ := hg.ns
    refine seg_bind_wrap (wpAny_assign_Name (wpAny_storeName_local hx (hn.at' fun o e => (hs₁.2 _ hCI).trans e) (fun h₂ hn₂ hs₂ => ?_) hp))
    have up : ∀ b o, b ≠ cenv.locals → b ≠ I → s.heap.get? b = some o → h₂.get? b = some o := fun b o hbC hbI e => (hs₂.2 b hbC).trans ((hs₁.2 b hbI).trans e)
    have fz₂ : Fz c g { s with heap := h₂, toks := s.toks + 1 } := ⟨fun b o e => up b o (Nat.ne_of_lt (p.ltg b o e)) (by rintro rfl; rw [p.offI] at e; cases e) (hg.fz.le b o e), hg.fz.base, hg.fz.off,
      let ⟨ps, tt⟩ := hg.fz.tab; ⟨ps, tt.step fun b o hb e => up b o (by rcases hb with rfl | rfl; exact Nat.ne_of_lt p.ltC; exact Nat.ne_of_lt p.ltP) (by rcases hb with rfl | rfl; exact Ne.symm p.neC; exact Ne.symm p.neP) e⟩⟩
    have hit₂ : Hit c h₂ := let ⟨ps, c', tt, q⟩ := hg.hit; ⟨ps, c', tt.step fun b o hb e => up b o (by rcases hb with rfl | rfl; exact Nat.ne_of_lt p.ltC; exact Nat.ne_of_lt p.ltP) (by rcases hb with rfl | rfl; exact Ne.symm p.neC; exact Ne.symm p.neP) e, q⟩
    have since₂ : Gs cenv.locals I s₀ { s with heap := h₂, toks := s.toks + 1 } := hsince.trans (Gs.heap up)
    have li₂ : h₂.IsList la vs.toArray := hg.li.at fun o e => up la o (Ne.symm hCla) p.nela e
    have it₂ : h₂.IsListIter I la (i + 1) := hit₁.at fun o e => (hs₂.2 _ (Ne.symm hCI)).trans e
    have hd : (A.over (.compLoop (.GeneratorExp elt [⟨.Name x px, iter, [], 0⟩] scope pos) 0 (.ref I) .none cenv) []).depth ≤ A.depth + 1 := by
      show A.depth + frameCount ([].map Frame.where_) + Code.weight (.compLoop (.GeneratorExp elt [⟨.Name x px, iter, [], 0⟩] scope pos) 0 (.ref I) .none cenv) ≤ A.depth + 1
      have : Code.weight (.compLoop (.GeneratorExp elt [⟨.Name x px, iter, [], 0⟩] scope pos) 0 (.ref I) .none cenv) = 1 := by rfl
      rw [this]; exact Nat.le_refl _
    simp only [List.forIn_nil]
    show Seg _ A _ _ _ s₀ _ (Sem.wrap _ _ _ _ (pure true >>= _)) [] _
    refine seg_bind_wrap (wpAny_pure ?_)
    simp only [if_true]
    have hy : ∀ v, yieldOut cenv v = yieldValue v := fun v => by simp only [yieldOut, hco, Bool.false_eq_true, if_false]
    simp only [hy]
    rw [Sem.bind_eq_wrap', Sem.bind_eq_wrap', Sem.wrap_wrap, Sem.wrap_wrap]
    refine seg_wrap (wpAny_mono (helt _ _ i t v _ _ hh hd ht hTr fz₂ hit₂ hn₂ (by simp)) (fun y s₄ h₄ => ?_) fun _ _ e => e)
    obtain ⟨⟨tk, rfl⟩, P₄⟩ := h₄
    have since₄ := since₂.trans (Gs.pex P₄ hit₂)
    have kp₄ : ∀ b o, h₂.get? b = some o → s₄.heap.get? b = some o := fun b o e => by
      by_cases q : b = c.eP
      · subst q; rw [P₄.hit hit₂]; exact e
      · exact P₄.keep b o q (fun z => z) e
    have gi₄ : GI c g cenv.locals I la vs (i + 1) s₄ := ⟨it₂.at fun o e => kp₄ _ o e, li₂.at fun o e => kp₄ _ o e, ⟨_, hn₂.at' fun o e => kp₄ _ o e⟩, fz₂.ext P₄ (fun _ q => q.elim), P₄.hitS hit₂⟩
    have e1 : ts.length - i = (ts.length - (i + 1)) + 1 := by omega
    rw [e1]
    refine seg_at (seg_yield rfl rfl rfl ⟨⟨t, tk, ?_, rfl⟩, since₄, fun s'' hal => ?_⟩)
    · have e2 : ts.length - 1 - (ts.length - (i + 1)) = i := by omega
      rw [e2]; exact ht
    · exact seg_again rfl (ih (i + 1) s'' s'' (by omega) hlt (gi₄.move p hal) Gs.refl)
end
end Mine
end
section
open PySem PySem.Calls PySem.Spec PyProof.Rows PySem.W
open Sem (wp)
set_option maxRecDepth 100000
namespace Mine

section
variable {c : Cfg} {A : Around} {g : Heap} {I la : Addr} {vs : List Value} {ts : List T} {cenv : Env}

theorem seg_begin {elt iter : Expr} {x : Str} {px : Pos} {scope : Scope} {pos : Pos} (hh : A.handled = none) (p : GP c g cenv.locals I la) (hT : Trs g ts vs)
    (hx : cenv.kindOf x = some .local) (hp : (cenv.scope.kind == .class || (cenv.scope.kind == .module && cenv.locals != cenv.globals)) = false) (hco : cenv.scope.isCoroutine = false)
    (helt : ∀ (B : Around) (E' : Value → Shared → Prop) (i : Nat) (t : T) (v : Value) (s₂ : Shared) (m₂ : Str → Option Value), B.handled = none → B.depth ≤ A.depth + 1 → ts[i]? = some t → Tr g t v → Fz c g s₂ → Hit c s₂.heap → s₂.heap.Ns cenv.locals m₂ → m₂ x = some v →
      wpAny c.M B (eval elt cenv) (fun y s₃ => (∃ tk, y = .bytes (enc t).toArray tk) ∧ Pex c s₂ s₃) E' s₂)
    (s₀ s : Shared) (hg : GI c g cenv.locals I la vs 0 s) (hs : Gs cenv.locals I s₀ s) :
      Seg c.M A (gR cenv.locals I) (gY cenv.locals I ts) ts.length s₀
        (.compStart (.GeneratorExp elt [⟨.Name x px, iter, [], 0⟩] scope pos) 0 (.ref I) .none cenv)
        (c.M.den (.compStart (.GeneratorExp elt [⟨.Name x px, iter, [], 0⟩] scope pos) 0 (.ref I) .none cenv)) [] s := by
  have loop := seg_loop (iter := iter) (px := px) (scope := scope) (pos := pos) hh p hT hx hp hco helt ts.length 0 s₀ s (Nat.sub_zero _) (Nat.zero_le _) hg hs
  rw [Nat.sub_zero] at loop
  show Seg _ A _ _ _ s₀ _ ((compStart (.GeneratorExp elt [⟨.Name x px, iter, [], 0⟩] scope pos) 0 (.ref I) .none cenv).onRaise (PySem.leaving cenv)) [] s
  unfold compStart
  rw [Sem.onRaise_eq_wrap]
  show Seg _ A _ _ _ s₀ _ ((ask >>= _).wrap _ _ _ _) [] s
  refine seg_bind_wrap (wpAny_askSetting ?_)
  split
  · exact seg_again rfl loop
  · refine seg_bind_wrap (wpAny_rule ?_)
    show Seg _ A _ _ _ s₀ _ ((standAt iter.pos >>= _).wrap _ _ _ _) [] s
    exact seg_bind_wrap (wpAny_standAt (seg_bind_wrap (wpAny_pyIter_listiter hg.it (seg_again rfl loop))))
end

/-- the generators, one of them woken -/
structure GQ (gi : Nat) (a b : Array GenState) : Prop where
  old : ∀ (i : Nat) (x : GenState), i ≠ gi → a[i]? = some x → b[i]? = some x
  new : ∀ (i : Nat) (x : GenState), a.size ≤ i → i ≠ gi → b[i]? = some x → x.bare = true
  own : b[gi]? = a[gi]? ∨ ∀ x, b[gi]? = some x → x.bare = true
theorem GQ.refl {gi : Nat} {a : Array GenState} : GQ gi a a := ⟨fun _ _ _ e => e, fun i x h _ e => by (rw [Array.getElem?_eq_none h] at e; cases e), .inl rfl⟩
theorem GQ.trans {gi : Nat} {a b c : Array GenState} (x : GQ gi a b) (y : GQ gi b c) : GQ gi a c where
  old := fun i z h e => y.old i z h (x.old i z h e)
  new := fun i z h h2 e => by
    by_cases h1 : b.size ≤ i
    · exact y.new i z h1 h2 e
    · have hlt : i < b.size := by omega
      have e1 : b[i]? = some b[i] := Array.getElem?_eq_getElem hlt
      have e2 := y.old _ _ h2 e1
      rw [e] at e2; cases e2
      exact x.new i _ h h2 e1
  own := by
    rcases y.own with q | q
    · rw [q]; exact x.own
    · exact .inr q

theorem GQ.of {C I : Addr} {gi : Nat} {s s₁ : Shared} {gs x y : GenState} (h : s.gens[gi]? = some x) (hs : Gs C I (s.setGen gi y) s₁) (hb : gs.bare = true) : GQ gi s.gens (s₁.setGen gi gs).gens where
  old := fun i z hi e => by
    have h1 : (s.setGen gi y).gens[i]? = some z := by simp [Shared.setGen, Ne.symm hi, e]
    have h2 := hs.gens i z h1
    simp [Shared.setGen, Ne.symm hi, h2]
  new := fun i z hz hi e => by
    simp [Shared.setGen, Ne.symm hi] at e
    exact hs.bare i z (by simpa [Shared.setGen] using hz) e
  own := .inr fun z e => by
    have h1 := setGen_self (x := y) h
    have h2 := hs.gens gi _ h1
    have h3 := setGen_self (x := gs) h2
    rw [h3] at e; cases e; exact hb

/-- a generator that has been asked j times -/
def GA (c : Cfg) (A : Around) (a : Addr) (gi : Nat) (C I : Addr) (ts : List T) (j : Nat) (s : Shared) : Prop :=
  s.heap.IsGen a gi ∧ s.heap.NoLimit ∧ ∃ gs, s.gens[gi]? = some gs ∧ ∀ s'' : Shared, (∀ b ∈ C :: List.range C, ∀ o, s.heap.get? b = some o → s''.heap.get? b = some o) →
    gs.Goes c.M A.in1 (gR C I) (gY C I ts) (ts.length - j) (.send .none) s''

theorem walks_gen {c : Cfg} {A : Around} (hh : A.handled = none) (a : Addr) (gi : Nat) (C I : Addr) (ts : List T) (hCa : C < a) (hI : I < C) (hroom : A.depth < recursionLimit) (hcC : cStatics < C) (hcI : cStatics ≠ I) :
    WalksS pw c.w A a (a :: C :: List.range C) [C, I] (GQ gi) ts.length (fun j y => ∃ t tk, ts[j]? = some t ∧ y = .bytes (enc t).toArray tk) (GA c A a gi C I ts) where
  sub := fun b hb => by
    rcases List.mem_cons.mp hb with rfl | hb
    · simp
    · rcases List.mem_cons.mp hb with rfl | hb
      · exact List.mem_cons_of_mem _ (List.mem_cons_of_mem _ (List.mem_range.mpr hI))
      · cases hb
  grefl := fun _ => GQ.refl
  gtrans := fun _ _ _ x y => x.trans y
  frame := fun j s h' tk st _ hk =>
    ⟨let ⟨o, nm, qn, ho, r⟩ := st.1; ⟨o, nm, qn, hk a (List.mem_cons_self ..) o ho, r⟩,
     (let ⟨mc, hns, hnn⟩ := st.2.1; ⟨mc, hns.at' fun o e => hk cStatics (List.mem_cons_of_mem _ (List.mem_cons_of_mem _ (List.mem_range.mpr hcC))) o e, hnn⟩),
     let ⟨gs, hgs, hgo⟩ := st.2.2; ⟨gs, hgs, fun s'' hal => hgo s'' fun b hb o e => hal b hb o (hk b (List.mem_cons_of_mem _ hb) o e)⟩⟩
  item := fun j s Q E hj st hQ => by
    obtain ⟨hg, hl, gs, hgs, hgo⟩ := st
    obtain ⟨m, hm⟩ : ∃ m, ts.length - j = m + 1 := ⟨ts.length - j - 1, by omega⟩
    rw [hm] at hgo
    refine wpAny_with_toks (Nat.le_refl s.toks) ?_
    refine wpAny_pyNext_genexpQ (P := fun n s₀ s₁ => n = 0 ∧ Gs C I s₀ s₁) hh hl hroom hg hgs (hgo _ fun _ _ _ e => e) (fun v s₁ gs' hb hv => ?_) (fun s₁ hp h' hk => ?_)
    · obtain ⟨⟨t, tk, hi, hF⟩, hS, hkap⟩ := hv
      have hidx : ts.length - 1 - (m + 1 - 1) = j := by omega
      rw [hidx] at hi
      intro htk
      have haC : a ≠ C := Nat.ne_of_gt hCa
      have haI : a ≠ I := Nat.ne_of_gt (Nat.lt_trans hI hCa)
      refine hQ v _ ⟨t, tk, hi, hF⟩ ⟨let ⟨o, nm, qn, ho, r⟩ := hg; ⟨o, nm, qn, hS.keep a o haC haI ho, r⟩, (let ⟨mc, hns, hnn⟩ := hl; ⟨mc, hns.at' fun o e => hS.keep cStatics o (Nat.ne_of_lt hcC) hcI e, hnn⟩), gs', ?_, fun s'' hal => ?_⟩
        ⟨fun b o hb e => hS.keep b o (fun h => hb (h ▸ List.mem_cons_self ..)) (fun h => hb (h ▸ List.mem_cons_of_mem _ (List.mem_cons_self ..))) e, GQ.of hgs hS hb, hS.drawn, hS.os, htk⟩
      · exact setGen_self (hS.gens gi _ (setGen_self hgs))
      · have e : ts.length - (j + 1) = m := by omega
        rw [e]
        exact hkap s'' hal
    · exact absurd hp.1 (Nat.succ_ne_zero m)
  done := fun s Q E st hQ => by
    obtain ⟨hg, hl, gs, hgs, hgo⟩ := st
    rw [Nat.sub_self] at hgo
    refine wpAny_with_toks (Nat.le_refl s.toks) ?_
    refine wpAny_pyNext_genexpQ (P := fun n s₀ s₁ => n = 0 ∧ Gs C I s₀ s₁) hh hl hroom hg hgs (hgo _ fun _ _ _ e => e) (fun v s₁ gs' hb hv => ?_) (fun s₁ hp h' hk => ?_)
    · obtain ⟨_, _, hkap⟩ := hv
      exact False.elim (hkap s₁ fun _ _ _ e => e)
    · obtain ⟨_, hS⟩ := hp
      intro htk
      exact hQ _ ⟨fun b o hb e => hk b o (hS.keep b o (fun h => hb (h ▸ List.mem_cons_self ..)) (fun h => hb (h ▸ List.mem_cons_of_mem _ (List.mem_cons_self ..))) e), GQ.of hgs hS rfl, hS.drawn, hS.os, htk⟩
  self := fun _ _ _ _ st hQ => wpAny_pyIter_gen st.1 hQ
end Mine
end
section
open PySem PySem.Calls PySem.Spec PyProof.Rows PySem.W
set_option maxRecDepth 100000
namespace Mine

theorem wp_range {β : Type} {M : Model} {A : Around} {E : Value → Shared → Prop} {n : Nat} {f : Nat → β → Sem (ForInStep β)} (I : Nat → β → Shared → Prop) {Q : β → Shared → Prop}
    (turn : ∀ i c s, i < n → I i c s → wpAny M A (f i c) (fun r s' => ∃ c', r = .yield c' ∧ I (i + 1) c' s') E s)
    (fin : ∀ c s, I n c s → Q c s) {c : β} {s : Shared} (h : I 0 c s) : wpAny M A (forIn [0:n] c f) Q E s := by
  rw [Std.Legacy.Range.forIn_eq_forIn_range']
  have hsz : ([0:n] : Std.Legacy.Range).size = n := by simp [Std.Legacy.Range.size]
  show wpAny M A (forIn (List.range' 0 ([0:n] : Std.Legacy.Range).size 1) c f) Q E s
  rw [hsz]
  have gen : ∀ (k i : Nat) (c : β) (s : Shared), i + k = n → I i c s → wpAny M A (forIn (List.range' i k 1) c f) Q E s := by
    intro k
    induction k with
    | zero =>
      intro i c s hk hI
      have : i = n := by omega
      subst this
      exact wpAny_pure (fin _ _ hI)
    | succ k ih =>
      intro i c s hk hI
      rw [List.range'_succ, List.forIn_cons]
      refine wpAny_bind (wpAny_mono (turn i c s (by omega) hI) (fun r s' h' => ?_) fun _ _ q => q)
      obtain ⟨c', rfl, h'⟩ := h'
      exact ih (i + 1) c' s' (by omega) h'
  exact gen n 0 c s (by omega) h

section
open PySem.Builtin.Bytes
theorem buf_eq (b : Array UInt8) (t : Tok) : takeBufferQuiet? "bytes.join" (.bytes b t) 0 = pure (some (b, none)) := by kernel_rfl
theorem slot_bytes_join : Slot "bytes" "join" "bytes.join" :=
  .of (owner := "bytes") (n := "join") (by rw [typeLookup_type, builtinLookup_eq_fast]; kernel_rfl) (by decide +kernel) (by decide +kernel) (by decide +kernel)
    (by first | exact .inl (by decide +kernel) | exact .inr (by decide +kernel)) (by rw [isSubtype_type]; kernel_rfl)
theorem entry_bytes_join : entryFor table "bytes.join" = some Builtin.«bytes.join» := entryFor_of_tree (by kernel_rfl)
theorem args_bytes_join (a b : Value) : argsOk "bytes.join" ⟨[a, b], []⟩ := by unfold argsOk; kernel_rfl
theorem type_bytes_join : typeOf (.builtin "bytes.join") = pure (.type "method_descriptor") := by show builtinType _ = _; rw [builtinType_eq_fast]; kernel_rfl

theorem joined_nil (parts : List (Array UInt8)) : joined #[] parts = parts.foldl (· ++ ·) #[] := by
  unfold joined
  have gen : ∀ (l : List (Array UInt8)) (k : Nat) (out : Array UInt8), (l.zipIdx k).foldl (fun out (x : Array UInt8 × Nat) => (if x.2 > 0 then out ++ #[] else out) ++ x.1) out = l.foldl (· ++ ·) out := by
    intro l
    induction l with
    | nil => intro k out; rfl
    | cons a l ih =>
      intro k out
      rw [List.zipIdx_cons, List.foldl_cons, List.foldl_cons, ih]
      congr 1
      split <;> simp
  exact gen parts 0 #[]
theorem foldl_size (l : List (Array UInt8)) : ∀ (k : Nat), l.foldl (fun n a => n + a.size) k = k + (l.map Array.size).sum := by
  induction l with
  | nil => intro k; simp
  | cons a l ih => intro k; rw [List.foldl_cons, ih, List.map_cons, List.sum_cons]; omega
end

theorem wp_seqItems {M : Model} {A : Around} {E : Value → Shared → Prop} {s : Shared} {a : Addr} {o : Obj} {items : Array Value} {n : Nat} {Q : Option (Array Value) → Shared → Prop} (ho : s.heap.get? a = some o) (hd : o.data = .seq items n) (h : Q (some items) s) :
    wpAny M A (seqItems? (.ref a)) Q E s := by
  unfold seqItems?
  refine wpAny_bind (wpAny_load ho ?_)
  rw [hd]
  exact wpAny_pure h

theorem wp_letGo {M : Model} {A : Around} {E : Value → Shared → Prop} {s : Shared} {keep : List Value} {Q : Unit → Shared → Prop} (h : Q () s) : ∀ (l : List (Value × Option Value)), (∀ p ∈ l, p.2 = none) → wpAny M A (Builtin.Bytes.joinLetGo l keep) Q E s
  | [], _ => wpAny_pure h
  | (x, w) :: rest, hl => by
    have hw : w = none := hl _ (List.mem_cons_self ..)
    subst hw
    unfold Builtin.Bytes.joinLetGo
    dsimp only
    refine wpAny_bind (wpAny_letGo ?_)
    exact wp_letGo h rest fun p hp => hl p (List.mem_cons_of_mem _ hp)

theorem encs_flat (ts : List T) : encs ts = (ts.map enc).flatten := by
  induction ts with
  | nil => simp [encs]
  | cons t ts ih => simp [encs, ih]
theorem foldl_flat (l : List (List UInt8)) : ∀ (a : Array UInt8), (l.map List.toArray).foldl (· ++ ·) a = a ++ l.flatten.toArray := by
  induction l with
  | nil => intro a; simp
  | cons x l ih => intro a; rw [List.map_cons, List.foldl_cons, ih]; simp

/-- what list() has taken from a generator, joined -/
theorem join_ok {c : Cfg} {A : Around} {E : Value → Shared → Prop} {s : Shared} {I : Addr} {fp wr : List Addr} {G : Array GenState → Array GenState → Prop} {St : Nat → Shared → Prop} {ts : List T} {t : Tok} {Q : Value → Shared → Prop}
    (W : WalksS pw c.w A.in1.in1.in1 I fp wr G ts.length (fun j y => ∃ t tk, ts[j]? = some t ∧ y = .bytes (enc t).toArray tk) St) (hT : ∀ i s, St i s → s.TypeIs (.ref I) "generator") (hst : St 0 s) (hfp : ∀ b ∈ fp, b < s.heap.objs.size) (hI : I ∈ fp)
    (hz : (encs ts).length ≤ 16777216)
    (hQ : ∀ s' t k, Moved (s.heap.objs.size :: wr) G { s with heap := s.heap.push { cls := .type "list", data := .seq #[] } } s' → (∃ o, s'.heap.get? s.heap.objs.size = some o) → Q (.bytes (encs ts).toArray t) { s' with toks := k }) :
    wpAny c.M A (call (.builtin "bytes.join") [.bytes #[] t, .ref I]) Q E s := by
  refine wpAny_call_entry slot_bytes_join (PySem.W.typeIs_bytes _ _ _) entry_bytes_join ?_ (args_bytes_join _ _)
  unfold Builtin.«bytes.join» Builtin.Bytes.joinM
  refine wpAny_bind (wpAny_of_eq (a := (.bytes #[] t, .ref I)) (by first | rfl | kernel_rfl) ?_)
  dsimp only
  rw [if_pos (by decide)]
  have hn : ts.length ≤ sizeLine := by have := encs_len ts; rw [sizeLine_eq]; omega
  unfold Builtin.Bytes.joinItems
  refine wpAny_bind (wpAny_bind (wpAny_typeOf (hT 0 s hst) ?_))
  rw [if_neg (by decide)]
  refine wpAny_bind (wpAny_tryCatch (W.of_in1.of_in1.self 0 s _ _ hst ?_))
  refine call_list_gen (hn := hn) W hT hst hfp hI fun s' acc' c' hm hS hacc => ?_
  refine wpAny_bind (wp_seqItems hS rfl ?_)
  dsimp only
  have hget : ∀ i, i < ts.length → ∃ t tk, ts[i]? = some t ∧ acc'[i]? = some (.bytes (enc t).toArray tk) := fun i hi => by
    have hlt : i < acc'.size := by rw [hacc.1]; exact hi
    obtain ⟨t, tk, h1, h2⟩ := hacc.2 i _ (Array.getElem?_eq_getElem hlt)
    exact ⟨t, tk, h1, by rw [Array.getElem?_eq_getElem hlt, h2]⟩
  rw [if_pos (by decide)]
  by_cases h1 : ts.length = 1
  · obtain ⟨t', tk, h2, h3⟩ := hget 0 (by omega)
    have ets : ts = [t'] := by
      match ts, h1 with
      | [u], _ => simp at h2; rw [h2]
    have ex : acc' = #[.bytes (enc t').toArray tk] := by
      have hs1 : acc'.size = 1 := hacc.1.trans h1
      refine Array.ext (by simpa using hs1) fun i hi _ => ?_
      have : i = 0 := by omega
      subst this
      rw [Array.getElem?_eq_getElem hi] at h3
      simpa using h3
    subst ex
    refine wpAny_bind (m := typeOf _) (wpAny_typeOf (PySem.W.typeIs_bytes _ _ _) ?_)
    rw [if_pos (by decide)]
    refine wpAny_bind (wpAny_rule (wpAny_pure ⟨_, rfl, ?_⟩))
    have e : encs ts = enc t' := by rw [ets, encs, encs, List.append_nil]
    rw [← e]
    exact hQ s' _ s'.toks hm ⟨_, hS⟩
  · unfold Builtin.Bytes.joinM.match_1
    rw [dif_neg (by rw [hacc.1]; exact h1)]
    simp only [hacc.1]
    refine wpAny_bind (wp_range (fun i (st : Array (Array UInt8) × List (Value × Option Value)) s₂ => s₂ = s' ∧ st.1.toList = (ts.take i).map (fun t => (enc t).toArray) ∧ ∀ p ∈ st.2, p.2 = none ∧ p.1.onHeap = false) ?_ ?_ ⟨rfl, by simp, by simp⟩)
    · rintro i ⟨parts, taken⟩ s₂ hi ⟨rfl, hp, ht⟩
      obtain ⟨t', tk, h2, h3⟩ := hget i hi
      refine wpAny_bind (wp_seqItems hS rfl ?_)
      dsimp only at hp ht ⊢
      have eg : acc'.getD i Value.none = .bytes (enc t').toArray tk := by
        rw [Array.getD_eq_getD_getElem?, h3]; rfl
      rw [eg]
      have hany : (taken.any fun x => x.fst.onHeap) = false := by
        rw [List.any_eq_false]; intro p hp; rw [(ht p hp).2]; simp
      rw [hany, if_neg (by decide)]
      refine wpAny_bind (wpAny_holding (wpAny_of_eq (buf_eq (enc t').toArray tk) ?_))
      dsimp only
      refine wpAny_bind (wp_seqItems hS rfl ?_)
      dsimp only
      rw [if_neg (by simp [hacc.1])]
      refine wpAny_pure ⟨_, rfl, rfl, ?_, ?_⟩
      · rw [List.take_add_one, h2]; simp [hp]
      · intro p hp
        rcases List.mem_append.mp hp with hp | hp
        · exact ht p hp
        · rw [List.mem_singleton] at hp; subst hp; exact ⟨rfl, rfl⟩
    · rintro ⟨parts, taken⟩ s₂ ⟨rfl, hp, ht⟩
      rw [List.take_length] at hp
      refine wpAny_bind (wpAny_of_eq (a := #[]) rfl ?_)
      have hsum : (parts.toList.map Array.size).sum = (encs ts).length := by
        have hp' : parts.toList = ts.map fun t => (enc t).toArray := hp
        rw [hp', encs_flat, List.length_flatten, List.map_map, List.map_map]
        congr 1
      have hl : Builtin.Bytes.tooLong (parts.foldl (fun n a => n + a.size) ((#[] : Array UInt8).size * (parts.size - 1))) = false := by
        rw [← Array.foldl_toList, foldl_size, hsum]
        unfold Builtin.Bytes.tooLong
        rw [sizeLine_eq]
        simpa using hz
      dsimp only at hl ⊢
      rw [hl, if_neg (by decide)]
      have ej : Builtin.Bytes.joined #[] parts.toList = (encs ts).toArray := by
        have hp' : parts.toList = (ts.map enc).map List.toArray := by rw [List.map_map]; exact hp
        rw [joined_nil, hp', foldl_flat, ← encs_flat]; simp
      rw [ej]
      refine wpAny_bind (wpAny_mkBytes ?_ (by rw [sizeLine_eq]; simpa using hz))
      refine wpAny_bind (wpAny_holding (wpAny_point ?_))
      refine wpAny_bind (wp_letGo ?_ _ fun p hp => (ht p hp).1)
      exact wpAny_pure ⟨_, rfl, hQ _ _ _ hm ⟨_, hS⟩⟩
end Mine
end
section
open PySem PySem.Calls PySem.Spec PyProof.Rows PySem.W
set_option maxRecDepth 100000
namespace Mine

section
variable {c : Cfg} {X : Addr → Prop} {A : Around} {E : Value → Shared → Prop} {s₀ s : Shared} {g₀ g : Heap} {L f : Addr} {m : Str → Option Value} {env : Env}

theorem nilIn (h : Heap) : Frag.In [] h := fun _ _ e => by cases e

/-- isinstance of bytes, in a tuple of types -/
theorem r_isT_bytes {x : List UInt8} {t : Tok} {tp : Addr} {its : List Value} {b : Bool} {Q : Value → Shared → Prop} (F : St c X s₀ g₀ g L m s) (ht : Tp g tp its) (e : kitAny [] (.type "bytes") its = some b)
    (h : ∀ s', St c X s₀ g₀ g L m s' → Q (.bool b) s') : wpAny c.M A (call (.builtin "isinstance") [.bytes x.toArray t, .ref tp]) Q E s := by
  obtain ⟨⟨cls, dd, data, sl⟩, ho, hc, n, hd⟩ := ht.mono F.fz.le
  simp only at hc hd
  subst hc hd
  exact kia_tup kitx_bytes (nilIn _) trivial ho e (by simp) fun tk => h _ (F.toks tk)
theorem r_isT_list {a : Addr} {vs : List Value} {tp : Addr} {its : List Value} {b : Bool} {Q : Value → Shared → Prop} (F : St c X s₀ g₀ g L m s) (hl : Ls g a vs) (ht : Tp g tp its) (e : kitAny [] (.type "list") its = some b)
    (h : ∀ s', St c X s₀ g₀ g L m s' → Q (.bool b) s') : wpAny c.M A (call (.builtin "isinstance") [.ref a, .ref tp]) Q E s := by
  obtain ⟨⟨cls, dd, data, sl⟩, ho, hc, n, hd⟩ := ht.mono F.fz.le
  simp only at hc hd
  subst hc hd
  obtain ⟨o, ho', hc', _⟩ := hl.mono F.fz.le
  exact kia_tup kitx_list (nilIn _) ⟨o, ho', hc'⟩ ho e (by simp) fun tk => h _ (F.toks tk)
theorem r_is_bytes {x : List UInt8} {t : Tok} {T' : Value} {b : Bool} {Q : Value → Shared → Prop} (F : St c X s₀ g₀ g L m s) (e : kitOne [] (.type "bytes") T' = some b)
    (h : ∀ s', St c X s₀ g₀ g L m s' → Q (.bool b) s') : wpAny c.M A (call (.builtin "isinstance") [.bytes x.toArray t, T']) Q E s :=
  kia_one kitx_bytes (nilIn _) trivial e (by simp) fun tk => h _ (F.toks tk)
theorem r_is_list {a : Addr} {vs : List Value} {T' : Value} {b : Bool} {Q : Value → Shared → Prop} (F : St c X s₀ g₀ g L m s) (hl : Ls g a vs) (e : kitOne [] (.type "list") T' = some b)
    (h : ∀ s', St c X s₀ g₀ g L m s' → Q (.bool b) s') : wpAny c.M A (call (.builtin "isinstance") [.ref a, T']) Q E s := by
  obtain ⟨o, ho', hc', _⟩ := hl.mono F.fz.le
  exact kia_one kitx_list (nilIn _) ⟨o, ho', hc'⟩ e (by simp) fun tk => h _ (F.toks tk)
theorem k1 : kitAny [] (.type "bytes") [.type "bytes", .type "bytearray"] = some true := by kernel_rfl
theorem k2 : kitAny [] (.type "list") [.type "bytes", .type "bytearray"] = some false := by kernel_rfl
theorem k3 : kitAny [] (.type "list") [.type "list", .type "tuple"] = some true := by kernel_rfl
theorem k4 : kitOne [] (.type "list") (.type "bytes") = some false := by kernel_rfl
theorem k5 : kitOne [] (.type "bytes") (.type "bytes") = some true := by kernel_rfl

/-- the code of the generator, made or found -/
theorem gen_code {qn : Str} {sc : Scope} {Q : Value → Shared → Prop} (hc : env.code = .ref c.eC) (z : Fz c g s)
    (h : ∀ cv s', Pex c s s' → Hit c s'.heap → s'.gens = s.gens → Q cv s') : wpAny c.M A (genexprCode env c.gp qn sc) Q E s := by
  obtain ⟨ps, t⟩ := z.tab
  cases hnf : codeAmong c.gp ps.toList with
  | some c' => exact wpAny_genexprCode_hit hc t.1 hnf (h _ _ Ext.refl ⟨ps, c', t, hnf⟩ rfl)
  | none =>
    obtain ⟨_, _, _, _, _, _, _, _, _, _, _, _, _, _, _, _, _, _, _, htr, _⟩ := id t.1
    refine wpAny_genexprCodeX hc t.1 t.2 hnf fun c' h' tk hk hlo hhi hcode _ htab _ => ?_
    refine h _ _ ⟨fun b o h1 _ e => hk b o h1 e, fun qs t' => ⟨#[rawInt c.gp.line, rawInt c.gp.col, .ref c'], ?_⟩, Nat.le_of_lt (Nat.lt_of_le_of_lt hlo hhi), rfl, rfl, fun _ _ e => e, fun i x h e => by (rw [Array.getElem?_eq_none h] at e; cases e), fun hh => ?_⟩
      ⟨_, .ref c', ⟨hcode, htab⟩, ?_⟩ rfl
    · have : qs = ps := t.eq t' rfl
      subst this
      exact ⟨hcode, htab⟩
    · obtain ⟨qs, c2, t', q⟩ := hh
      have : qs = ps := t.eq t' rfl
      subst this
      rw [hnf] at q; cases q
    · have e : (ps ++ #[rawInt c.gp.line, rawInt c.gp.col, .ref c']).toList = ps.toList ++ [rawInt c.gp.line, rawInt c.gp.col, .ref c'] := by simp
      rw [e]
      exact codeAmong_snoc _ htr hnf

theorem r_builtinsFor {Q : Addr → Shared → Prop} {rn : Addr} (ok : c.Ok) (z : Fz c g s) (h : Q builtinsNs s) : wpAny c.M A (builtinsFor mainGlobals rn) Q E s := by
  obtain ⟨bm, ob, h1, h2, h3, h4, h5, h6⟩ := ok.bi
  exact wpAny_builtinsFor (ok.g.keeps fun b o q => z.le b o (z.base b o q)) h1 h2 (z.le _ _ (z.base _ _ h3)) h4 h5 h6 h
end
end Mine
end
section
open PySem PySem.Calls PySem.Spec PyProof.Rows PySem.W
set_option maxRecDepth 100000
namespace Mine

section
variable {c : Cfg} {A : Around} {E : Value → Shared → Prop} {s₀ s : Shared} {g₀ g : Heap} {f : Addr} {m : Str → Option Value} {env : Env}

set_option maxHeartbeats 4000000 in
theorem gen_make {la : Addr} {vs : List Value} {ts : List T} {elt iter : Expr} {x : Str} {px : Pos} {scope : Scope} {pos : Pos} {Q : Value → Shared → Prop} (ok : c.Ok) (F : St c noX s₀ g₀ g env.locals m s)
    (hh : A.handled = none) (hroom : A.depth < recursionLimit) (hl : Ls g la vs) (hT : Trs g ts vs)
    (hcode : env.code = .ref c.eC) (hgl : env.globals = mainGlobals) (hpos : pos = c.gp)
    (hco : scope.isCoroutine = false) (hclos : closureFor scope env = pure []) (hcell : ∀ y ∈ scope.names, y.2 ≠ .cell) (h0 : scope.names.lookup (".0" : Str) = some NameKind.local)
    (hx : scope.names.lookup x = some .local) (hkind : scope.kind = .function) (hs : ∀ x, genFold iter env x = pure x)
    (hiter : ∀ (Q : Value → Shared → Prop), Q (.ref la) s → wpAny c.M A (eval iter env) Q E s)
    (helt : ∀ (cenv : Env) (B : Around) (E' : Value → Shared → Prop) (i : Nat) (t : T) (v : Value) (s₂ : Shared) (m₂ : Str → Option Value), cenv.scope = scope → cenv.globals = mainGlobals → cenv.builtins = builtinsNs → B.handled = none → B.depth ≤ A.depth + 1 → ts[i]? = some t → Tr g t v → Fz c g s₂ → Hit c s₂.heap → s₂.heap.Ns cenv.locals m₂ → m₂ x = some v →
      wpAny c.M B (eval elt cenv) (fun y s₃ => (∃ tk, y = .bytes (enc t).toArray tk) ∧ Pex c s₂ s₃) E' s₂)
    (hQ : ∀ a C I s', s.heap.objs.size ≤ I → I < C → C < a → s'.heap.objs.size = a + 1 → Pex c s s' → s'.gens.size = s.gens.size + 1 → cStatics < C → cStatics ≠ I → c.eC < s.heap.objs.size → c.eP < s.heap.objs.size →
      (∀ B : Around, B.handled = none → B.depth = A.depth → GA c B a s.gens.size C I ts 0 s') → Q (.ref a) s') :
    wpAny c.M A (eval (.GeneratorExp elt [⟨.Name x px, iter, [], 0⟩] scope pos) env) Q E s := by
  obtain ⟨ps₀, tt⟩ := F.fz.tab
  have hlts := tt.lt
  have hcs : cStatics < s.heap.objs.size := by
    obtain ⟨mc, hn, _⟩ := ok.lim
    exact (hn.keeps fun b o q => F.fz.le b o (F.fz.base b o q)).lt
  refine wpAny_GeneratorExp_make hco hclos hcell h0 hkind hroom (hiter _ ?_) hs
  refine wpAny_pyIter_list (hl.mono F.fz.le) ?_
  have P1 : Pex c s { s with heap := s.heap.push { cls := .type "list_iterator", data := .fields #[.ref la, .int 0 0] } } := Ext.push (tk := s.toks) _
  have F1 := F.stay P1
  have hit1 : (s.heap.push { cls := .type "list_iterator", data := .fields #[.ref la, .int 0 0] }).IsListIter s.heap.objs.size la 0 := ⟨_, Heap.get?_push_size _ rfl, rfl, rfl⟩
  have hsz1 : (s.heap.push { cls := .type "list_iterator", data := .fields #[.ref la, .int 0 0] }).objs.size = s.heap.objs.size + 1 := Heap.size_push ..
  generalize s.heap.push { cls := .type "list_iterator", data := .fields #[.ref la, .int 0 0] } = h1 at *
  refine ⟨ok.lim.keeps fun b o q => F1.fz.le b o (F1.fz.base b o q), ?_⟩
  rw [hpos]
  refine gen_code hcode F1.fz fun cv s3 P3 H3 g3 => ?_
  have F3 := F1.stay P3
  rw [hgl]
  refine r_builtinsFor ok F3.fz ?_
  intro h' hn' hs'
  have hsz3 : s.heap.objs.size + 1 ≤ s3.heap.objs.size := by have := P3.size; dsimp only at this; omega
  have hsz : h'.objs.size = s3.heap.objs.size + 1 := by rw [hs'.1, Heap.size_push]
  have keep' : ∀ b o, s3.heap.get? b = some o → h'.get? b = some o := fun b o e => hs'.extBut b o (Nat.ne_of_lt (Heap.lt_size e)) (Heap.get?_push_of_some _ e)
  generalize hgen : ({ cls := .type "generator", data := .fields #[.int s3.gens.size 0, .str "<genexpr>" (s3.toks + 1), .str (env.qual ++ "<genexpr>") (s3.toks + 1 + 1)] } : Obj) = ob
  have hob : ob.isFreed = false := by subst hgen; rfl
  have hg3 : s3.gens.size = s.gens.size := by rw [g3]
  have hle : s.heap.objs.size ≤ s3.heap.objs.size := Nat.le_of_succ_le hsz3
  have hob2 : ∃ nm qn, ob.cls = .type "generator" ∧ ob.data = .fields #[.int s.gens.size 0, nm, qn] ∧ ob.slots = #[] :=
    ⟨.str "<genexpr>" (s3.toks + 1), .str (env.qual ++ "<genexpr>") (s3.toks + 1 + 1), by rw [← hgen], by rw [← hgen, ← hg3], by rw [← hgen]⟩
  have keep5 : ∀ b o, s3.heap.get? b = some o → (h'.push ob).get? b = some o := fun b o e => Heap.get?_push_of_some _ (keep' b o e)
  generalize hcodeE : Code.compStart (.GeneratorExp elt [⟨.Name x px, iter, [], 0⟩] scope c.gp) 0 (.ref s.heap.objs.size) .none (genEnv scope [] s3.heap.objs.size cv builtinsNs env) = cs
  have P5 : Pex c s3 { s3 with gens := s3.gens.push (.fresh cs), toks := s3.toks + 1 + 1 + 1, heap := h'.push ob } :=
    ⟨fun b o _ _ e => keep5 b o e, fun ps t => ⟨#[], by simpa using t.step fun b o _ e => keep5 b o e⟩, by show _ ≤ (h'.push ob).objs.size; rw [Heap.size_push]; omega, rfl, rfl,
      fun i x e => by
        show (s3.gens.push _)[i]? = some x
        have hlt := (Array.getElem?_eq_some_iff.mp e).1
        rw [Array.getElem?_push_lt hlt, ← e, Array.getElem?_eq_getElem hlt],
      fun i x hi e => by
        have e' : (s3.gens.push (.fresh cs))[i]? = some x := e
        rcases Nat.lt_or_ge s3.gens.size i with h | h
        · rw [Array.getElem?_eq_none (by simp; omega)] at e'; cases e'
        · have : i = s3.gens.size := by omega
          subst this
          rw [Array.getElem?_push_size] at e'; cases e'; rfl,
      fun ⟨_, _, t, _⟩ => (keep5 _ _ t.obj).trans t.obj.symm⟩
  have F5 := F3.stay P5
  have p : GP c g s3.heap.objs.size s.heap.objs.size la := ⟨hsz3, Nat.lt_of_lt_of_le (hl.mono F.fz.le).lt hle, Nat.ne_of_lt (hl.mono F.fz.le).lt, fun b o e => Nat.lt_of_lt_of_le (Heap.lt_size (F.fz.le _ _ e)) hle, by
      cases q : g.get? s.heap.objs.size with
      | none => rfl
      | some o => exact absurd (Heap.lt_size (F.fz.le _ _ q)) (Nat.lt_irrefl _), Nat.lt_of_lt_of_le hlts.1 hle, Nat.lt_of_lt_of_le hlts.2 hle, Nat.ne_of_gt hlts.1, Nat.ne_of_gt hlts.2⟩
  have gi : GI c g s3.heap.objs.size s.heap.objs.size la vs 0 { s3 with gens := s3.gens.push (.fresh cs), toks := s3.toks + 1 + 1 + 1, heap := h'.push ob } :=
    ⟨hit1.at fun o e => keep5 _ _ (P3.keep _ _ (Nat.ne_of_gt hlts.2) (fun z => z) e), (hl.mono F5.fz.le), ⟨_, hn'.push _⟩, F5.fz, P5.hitS H3⟩
  refine hQ h'.objs.size s3.heap.objs.size s.heap.objs.size _ (Nat.le_refl _) hsz3 (by rw [hsz]; exact Nat.lt_succ_self _) (by show (h'.push ob).objs.size = _; rw [Heap.size_push]) ((P1.trans P3).trans P5) (by show (s3.gens.push _).size = _; rw [Array.size_push, hg3]) (Nat.lt_of_lt_of_le hcs hle) (Nat.ne_of_lt hcs) hlts.1 hlts.2 fun B hB hd => ?_
  obtain ⟨nm, qn, o1, o2, o3⟩ := hob2
  refine ⟨⟨ob, nm, qn, Heap.get?_push_size _ hob, o1, o2, o3⟩, ok.lim.keeps fun b o q => F5.fz.le b o (F5.fz.base b o q), .fresh cs, by rw [← hg3]; exact Array.getElem?_push_size .., fun s'' hal => ⟨rfl, ?_⟩⟩
  subst hcodeE
  exact seg_begin (A := B.in1) (cenv := genEnv scope [] s3.heap.objs.size cv builtinsNs env) hB p hT hx (by simp [genEnv, hkind]) hco
    (fun B' E' i t v s₂ m₂ q1 q2 q3 q4 q5 q6 q7 q8 => helt (genEnv scope [] s3.heap.objs.size cv builtinsNs env) B' E' i t v s₂ m₂ rfl hgl rfl q1 (by rw [← hd]; exact q2) q3 q4 q5 q6 q7 q8) s'' s'' (gi.move p hal) Gs.refl
end
end Mine
end
section
open PySem PySem.Calls PySem.Spec PyProof.Rows PySem.W
set_option maxRecDepth 100000
namespace Mine

theorem join_pex {c : Cfg} {s s6 s9 : Shared} {C I k : Nat} (P : Pex c s s6) (hg : s6.gens.size = s.gens.size + 1) (hI : s.heap.objs.size ≤ I) (hC : s.heap.objs.size ≤ C) (h1 : c.eC < s.heap.objs.size) (h2 : c.eP < s.heap.objs.size) (t0 : ∃ ps, Tab c s.heap ps)
    (M : Moved (s6.heap.objs.size :: [C, I]) (GQ s.gens.size) { s6 with heap := s6.heap.push { cls := .type "list", data := .seq #[] } } s9) (hS : ∃ o, s9.heap.get? s6.heap.objs.size = some o) : Pex c s { s9 with toks := k } := by
  have hz := P.size
  have hk : ∀ b o, b < s.heap.objs.size → s6.heap.get? b = some o → s9.heap.get? b = some o := fun b o hb e => by
    refine M.heap b o ?_ (Heap.get?_push_of_some _ e)
    intro hm
    rcases List.mem_cons.mp hm with q | hm
    · exact absurd (q ▸ hb) (Nat.not_lt.mpr hz)
    · rcases List.mem_cons.mp hm with q | hm
      · exact absurd (q ▸ hb) (Nat.not_lt.mpr hC)
      · rcases List.mem_cons.mp hm with q | hm
        · exact absurd (q ▸ hb) (Nat.not_lt.mpr hI)
        · cases hm
  refine ⟨fun b o hb _ e => hk b o (Heap.lt_size e) (P.keep b o hb (fun z => z) e), fun ps t => ?_, ?_, M.os.trans P.os, M.drawn.trans P.drawn, fun i x e => ?_, fun i x hi e => ?_, fun hh => ?_⟩
  · obtain ⟨more, t'⟩ := P.tab ps t
    exact ⟨more, t'.step fun b o hb e => hk b o (by rcases hb with rfl | rfl; exact h1; exact h2) e⟩
  · obtain ⟨o, e⟩ := hS
    exact Nat.le_of_lt (Nat.lt_of_le_of_lt hz (Heap.lt_size e))
  · have hlt := (Array.getElem?_eq_some_iff.mp e).1
    exact M.gens.old i x (by omega) (P.gens i x e)
  · have e' : s9.gens[i]? = some x := e
    by_cases q : i = s.gens.size
    · subst q
      rcases M.gens.own with r | r
      · rw [r] at e'; exact P.bare _ x (Nat.le_refl _) e'
      · exact r x e'
    · exact M.gens.new i x (by show s6.gens.size ≤ i; omega) q e'
  · have e := P.hit hh
    obtain ⟨ps, c', t, _⟩ := hh
    have := hk c.eP _ h2 (e.trans t.obj)
    exact this.trans t.obj.symm

theorem GA.typeIs {c : Cfg} {A : Around} {a : Addr} {gi : Nat} {C I : Addr} {ts : List T} (j : Nat) (s : Shared) (h : GA c A a gi C I ts j s) : s.TypeIs (.ref a) "generator" := h.1.typeIs

section
variable {c : Cfg} {f : Addr}

theorem tiny_len {b : List UInt8} (h : tiny b = true) : b.length = 1 ∧ (b.getD 0 0).toNat < 128 := by
  unfold tiny at h
  simpa using h

theorem enc_leaf (ok : c.Ok) (hf : At c dEnc f) {b : List UInt8} {t : Tok} {A : Around} {E : Value → Shared → Prop} {s : Shared} {g : Heap} {Q : Value → Shared → Prop}
    (z : Fz c g s) (hroom : A.depth + 3 < recursionLimit) (hz : (enc (.leaf b)).length ≤ 16777216)
    (h : ∀ tk s', Pex c s s' → Q (.bytes (enc (.leaf b)).toArray tk) s') : wpAny c.M A (call (.ref f) [.bytes b.toArray t]) Q E s := by
  have hbz : b.length ≤ (enc (.leaf b)).length := by rw [enc_eq]; simp [pay]
  obtain ⟨fP, hP⟩ := ok.at_ (d := dPre) (by rw [recs_eq]; simp)
  refine call_def (X := noX) (binds := [("item", .bytes b.toArray t)]) ok hf z (fun _ q => q.elim) (fun _ q => q.elim) (by omega) (fun _ _ _ => by rfl) (locs rfl) (fun cd s₁ _ F => ?_)
  refine wpAny_execs_cons (wpAny_If (wpAny_isTrue_value (r_call (r_builtin ok F.fz (by rfl) (r_with_builtin (r_args_cons (r_name F (by rfl) (r_args_cons (r_tuple (r_args_cons (r_builtin ok F.fz (by rfl) (r_args_cons (r_builtin ok F.fz (by rfl) (r_args_nil (r_newT F (by simp) fun tp g2 s2 l2 F2 ht2 _ => r_args_nil (r_isT_bytes F2 ht2 k1 fun s3 F3 => r_yes rfl ?_))))))))))))))))
  clear F
  refine wpAny_execs_cons (wpAny_If (wpAny_mono (Q := fun v s' => v = tiny b ∧ St c noX s g g2 s.heap.objs.size (fun x => List.lookup x [(Str.ofString "item", Value.bytes b.toArray t)].reverse) s') ?_ (fun v s4 q => ?_) (fun _ _ q => q)))
  · refine wpAny_isTrue_BoolOp (wpAny_allTrue_And_cons (wpAny_isTrue_Compare1 (r_call (r_builtin ok F3.fz (by rfl) (r_with_builtin (r_args_cons (r_name F3 (by rfl) (r_args_nil (r_lenB F3 (by omega) fun t4 s4 F4 => r_int F4 fun t5 s5 F5 => r_eqI ?_)))))))))
    by_cases h1 : b.length = 1
    · refine r_yes (by rw [h1]; rfl) ?_
      refine wpAny_allTrue_And_cons (wpAny_isTrue_Compare1 (Subscript_ (r_name F5 (by rfl) (r_int F5 fun t6 s6 F6 => r_itemB F6 (by omega) (by decide) (by omega) fun t7 s7 F7 => r_int F7 fun t8 s8 F8 => r_ltI ?_))))
      have e : ((0 : Int).toNat) = 0 := rfl
      rw [e]
      by_cases h2 : (b.getD 0 0).toNat < 128
      · exact r_yesD (by omega) (wpAny_allTrue_And_nil ⟨by unfold tiny; rw [h1, decide_eq_true h2]; rfl, F8⟩)
      · exact r_noD (by omega) ⟨by unfold tiny; rw [h1, decide_eq_false h2]; rfl, F8⟩
    · exact r_no (by simp; omega) ⟨by unfold tiny; simp [h1], F5⟩
  obtain ⟨rfl, F4⟩ := q
  by_cases ht : tiny b = true
  · rw [if_pos ht]
    have e : enc (.leaf b) = b := by rw [enc, if_pos ht]
    refine wpAny_execs_cons (wpAny_Return_some (r_name F4 (by rfl) ?_))
    rw [e] at h
    exact h _ _ F4.ext
  · rw [if_neg ht]
    have e : enc (.leaf b) = hd 128 b.length ++ b := by rw [enc, if_neg ht]
    refine wpAny_execs_nil ?_
    refine wpAny_execs_cons (wpAny_Assign_Name (r_name F4 (by rfl) (r_store F4 fun s5 F5 => ?_)))
    refine wpAny_execs_cons (wpAny_Assign_Name (r_int F5 fun t6 s6 F6 => r_store F6 fun s7 F7 => ?_))
    refine wpAny_execs_nil ?_
    refine wpAny_execs_cons (wpAny_Try_except (wpAny_execs_cons (wpAny_Assign_Name (r_call (r_global ok F7.fz hP.nm (r_with_def ok hP (r_args_cons (r_call (r_builtin ok F7.fz (by rfl) (r_with_builtin (r_args_cons (r_name F7 (by rfl) (r_args_nil (r_lenB F7 (by omega) fun t8 s8 F8 => r_args_cons (r_name F8 (by rfl) (r_args_nil ⟨fun b o q => F8.fz.le b o (F8.fz.base b o q), ?_⟩))))))))))))))))
    refine pre_ok (off := 128) ok hP F8.fz (by simp only [depth_deeper]; omega) (by omega) (by decide) fun t9 s9 P9 => r_store (F8.pex P9) fun s10 F10 => ?_
    refine wpAny_execs_nil (wpAny_execs_nil ?_)
    refine wpAny_execs_cons (wpAny_Return_some (wpAny_BinOp (r_name F10 (by rfl) (r_name F10 (by rfl) (r_addB F10 (by rw [e, List.length_append] at hz; omega) fun t11 s11 F11 => ?_)))))
    rw [← e]
    exact h _ _ F11.ext
end
end Mine
end
section
open PySem PySem.Calls PySem.Spec PyProof.Rows PySem.W
set_option maxRecDepth 100000
namespace Mine

section
variable {c : Cfg} {f : Addr}

theorem no_self (ts : List T) : (encs ts).length ≤ (enc (.node ts)).length := by rw [enc]; simp

theorem getm_join {M : Model} {A : Around} {E : Value → Shared → Prop} {s : Shared} {b : Array UInt8} {t : Tok} {pl : Sem Bool} {Q : Value × List Value → Shared → Prop} (h : Q (.builtin "bytes.join", [.bytes b t]) s) :
    wpAny M A (getMethod (.bytes b t) (PySem.Str.ofString "join") pl) Q E s :=
  getMethod_builtin (PySem.W.typeIs_bytes _ _ _) FB.plainAttrs_bytes slot_bytes_join type_bytes_join (by intro _ x; cases x) h

set_option maxHeartbeats 4000000 in
theorem enc_node (ok : c.Ok) (hf : At c dEnc f) {n : Nat}
    (ih : ∀ {t : T} {v : Value} {A : Around} {E : Value → Shared → Prop} {s : Shared} {g : Heap} {Q : Value → Shared → Prop}, ht t ≤ n → Tr g t v → Fz c g s → A.depth + 2 * n + 3 < recursionLimit → A.handled = none → (enc t).length ≤ 16777216 →
      (∀ tk s', Pex c s s' → Q (.bytes (enc t).toArray tk) s') → wpAny c.M A (call (.ref f) [v]) Q E s)
    {ts : List T} {a : Addr} {vs : List Value} {A : Around} {E : Value → Shared → Prop} {s : Shared} {g : Heap} {Q : Value → Shared → Prop} (hn : hts ts ≤ n) (hl : Ls g a vs) (hT : Trs g ts vs)
    (z : Fz c g s) (hroom : A.depth + 2 * (n + 1) + 3 < recursionLimit) (hh : A.handled = none) (hz : (enc (.node ts)).length ≤ 16777216)
    (h : ∀ tk s', Pex c s s' → Q (.bytes (enc (.node ts)).toArray tk) s') : wpAny c.M A (call (.ref f) [.ref a]) Q E s := by
  have hez := no_self ts
  obtain ⟨fP, hP⟩ := ok.at_ (d := dPre) (by rw [recs_eq]; simp)
  refine call_def (X := noX) (binds := [("item", .ref a)]) ok hf z (fun _ q => q.elim) (fun _ q => q.elim) (by omega) (fun _ _ _ => by rfl) (locs rfl) (fun cd s₁ hcd F => ?_)
  have hcd' : cd = .ref c.eC := hcd rfl
  refine wpAny_execs_cons (wpAny_If (wpAny_isTrue_value (r_call (r_builtin ok F.fz (by rfl) (r_with_builtin (r_args_cons (r_name F (by rfl) (r_args_cons (r_tuple (r_args_cons (r_builtin ok F.fz (by rfl) (r_args_cons (r_builtin ok F.fz (by rfl) (r_args_nil (r_newT F (by simp) fun tp g2 s2 l2 F2 ht2 _ => r_args_nil (r_isT_list F2 (hl.mono l2) ht2 k2 fun s3 F3 => r_no rfl ?_))))))))))))))))
  refine wpAny_execs_cons (wpAny_If (wpAny_isTrue_value (r_call (r_builtin ok F3.fz (by rfl) (r_with_builtin (r_args_cons (r_name F3 (by rfl) (r_args_cons (r_tuple (r_args_cons (r_builtin ok F3.fz (by rfl) (r_args_cons (r_builtin ok F3.fz (by rfl) (r_args_nil (r_newT F3 (by simp) fun tp g4 s4 l4 F4 ht4 _ => r_args_nil (r_isT_list F4 ((hl.mono l2).mono l4) ht4 k3 fun s5 F5 => r_yes rfl ?_))))))))))))))))
  have l5 : Le g g4 := fun b o e => l4 _ _ (l2 _ _ e)
  refine wpAny_execs_cons (wpAny_Assign_Name (MethodCall_ (r_bytesC F5 fun t6 s6 F6 => getm_join (callWith_method1 (r_args_cons ?_)))))
  refine gen_make (m := fun x => List.lookup x [(Str.ofString "item", Value.ref a)].reverse) ok F6 hh (by simp only [depth_deeper]; omega) (hl.mono l5) (hT.mono l5) (by exact hcd') (by rfl) (by rw [ok.gp]; rfl) (by rfl) (by rfl) (by decide) (by rfl) (by rfl) (by rfl) (fun _ => by rfl) (fun Q' k => r_name F6 (by rfl) k) ?_ ?_
  · intro cenv B E' i t v s₂ m₂ hsc hgl hbi hB hBd hti hTv hz₂ hit hns hmx
    have hk : ht t ≤ n := Nat.le_trans (ht_mem (List.mem_of_getElem? hti)) hn
    have hlen : (enc t).length ≤ (encs ts).length := by
      have : ∀ (us : List T) (j : Nat), us[j]? = some t → (enc t).length ≤ (encs us).length := by
        intro us
        induction us with
        | nil => intro j q; simp at q
        | cons u us ihu =>
          intro j q
          rw [encs, List.length_append]
          cases j with
          | zero => simp at q; subst q; omega
          | succ j => have := ihu j (by simpa using q); omega
      exact this ts i hti
    refine r_call (r_global (env := cenv) ok hz₂ hf.nm (r_with_def ok hf (r_args_cons (wpAny_Name (wpAny_loadName_local (by rw [hsc]) (by unfold Env.kindOf; rw [hsc]; rfl) hns hmx (r_args_nil ⟨fun b o q => hz₂.le b o (hz₂.base b o q), ?_⟩)) (by decide)))) (by rw [hsc]) (by unfold Env.kindOf; rw [hsc]; rfl) hgl)
    refine ih hk hTv hz₂ ?_ hB (by omega) fun tk s₃ P₃ => ⟨⟨tk, rfl⟩, P₃⟩
    simp only [depth_deeper] at hBd
    omega
  · intro a7 C I s7 hI hIC hCa hsz P7 hg7 hcC hcI h1 h2 hGA
    refine r_args_nil ?_
    refine join_ok (walks_gen (A := (A.deeper (envOf dEnc.name dEnc.scope s.heap.objs.size f cd)).in1.in1.in1) hh a7 s6.gens.size C I ts hCa hIC (by simp only [Around.in1_depth, depth_deeper]; omega) hcC hcI) (fun j s h => GA.typeIs j s h) (hGA _ hh rfl) ?_ (List.mem_cons_self ..) (by omega) fun s9 t9 k9 M9 S9 => ?_
    · intro b hb
      rw [hsz]
      rcases List.mem_cons.mp hb with q | hb
      · rw [q]; exact Nat.lt_succ_self _
      · rcases List.mem_cons.mp hb with q | hb
        · rw [q]; exact Nat.lt_succ_of_lt hCa
        · exact Nat.lt_succ_of_lt (Nat.lt_trans (List.mem_range.mp hb) hCa)
    have P9 : Pex c s6 { s9 with toks := k9 } := join_pex P7 hg7 hI (Nat.le_of_lt (Nat.lt_of_le_of_lt hI hIC)) h1 h2 F6.fz.tab M9 S9
    refine r_store (F6.pex P9) fun s10 F10 => ?_
    refine wpAny_execs_cons (wpAny_Assign_Name (r_int F10 fun t11 s11 F11 => r_store F11 fun s12 F12 => ?_))
    refine wpAny_execs_nil (wpAny_execs_nil ?_)
    refine wpAny_execs_cons (wpAny_Try_except (wpAny_execs_cons (wpAny_Assign_Name (r_call (r_global ok F12.fz hP.nm (r_with_def ok hP (r_args_cons (r_call (r_builtin ok F12.fz (by rfl) (r_with_builtin (r_args_cons (r_name F12 (by rfl) (r_args_nil (r_lenB F12 (by omega) fun t13 s13 F13 => r_args_cons (r_name F13 (by rfl) (r_args_nil ⟨fun b o q => F13.fz.le b o (F13.fz.base b o q), ?_⟩))))))))))))))))
    refine pre_ok (off := 192) ok hP F13.fz (by simp only [depth_deeper]; omega) (by omega) (by decide) fun t14 s14 P14 => r_store (F13.pex P14) fun s15 F15 => ?_
    refine wpAny_execs_nil (wpAny_execs_nil ?_)
    have e : enc (.node ts) = hd 192 (encs ts).length ++ encs ts := by rw [enc]
    refine wpAny_execs_cons (wpAny_Return_some (wpAny_BinOp (r_name F15 (by rfl) (r_name F15 (by rfl) (r_addB F15 (by rw [e, List.length_append] at hz; omega) fun t16 s16 F16 => ?_)))))
    rw [← e]
    exact h _ _ F16.ext

theorem enc_ok (ok : c.Ok) (hf : At c dEnc f) (n : Nat) : ∀ {t : T} {v : Value} {A : Around} {E : Value → Shared → Prop} {s : Shared} {g : Heap} {Q : Value → Shared → Prop}, ht t ≤ n → Tr g t v → Fz c g s → A.depth + 2 * n + 3 < recursionLimit → A.handled = none → (enc t).length ≤ 16777216 →
      (∀ tk s', Pex c s s' → Q (.bytes (enc t).toArray tk) s') → wpAny c.M A (call (.ref f) [v]) Q E s := by
  induction n with
  | zero =>
    intro t v A E s g Q hn hT z hroom hh hz h
    cases t with
    | leaf b => obtain ⟨tk, rfl⟩ := hT; exact enc_leaf ok hf z (by omega) hz h
    | node ts => rw [ht] at hn; omega
  | succ n ih =>
    intro t v A E s g Q hn hT z hroom hh hz h
    cases t with
    | leaf b => obtain ⟨tk, rfl⟩ := hT; exact enc_leaf ok hf z (by omega) hz h
    | node ts =>
      obtain ⟨a, vs, rfl, hl, hTs⟩ := hT
      exact enc_node ok hf ih (by rw [ht] at hn; omega) hl hTs z hroom hh hz h
end
end Mine
end
section
open PySem PySem.Calls PySem.Spec PyProof.Rows PySem.W
set_option maxRecDepth 100000
namespace Mine

/-- an iterator at work in a comprehension or a for statement -/
structure ItOk (c : Cfg) (X : Addr → Prop) (s₀ s : Shared) (g : Heap) (L I : Addr) (n : Nat) (P : Nat → Value → Prop) (fp : List Addr) (Stt : Nat → Heap → Prop) : Prop where
  W : ∀ A : Around, A.handled = none → Walks pw c.w A I fp [I] n P Stt
  st : Stt 0 s.heap
  off : g.get? I = none
  lo : s₀.heap.objs.size ≤ I
  hi : I < s.heap.objs.size
  neL : I ≠ L
  neC : I ≠ c.eC
  neP : I ≠ c.eP
  fpl : ∀ b ∈ fp, b ≤ I ∧ b ≠ c.eP ∧ b ≠ L ∧ ¬ X b
  own : ∀ b ∈ fp, b = I ∨ (g.get? b).isSome = true

/-- with the iterator frozen for a while -/
theorem ItOk.put {c : Cfg} {X : Addr → Prop} {s₀ s : Shared} {g : Heap} {L I : Addr} {n : Nat} {P : Nat → Value → Prop} {fp : List Addr} {Stt : Nat → Heap → Prop} (Io : ItOk c X s₀ s g L I n P fp Stt) {A : Around} (hh : A.handled = none) {j : Nat} {h : Heap} (hS : Stt j h) : Stt j (put g I h) :=
  (Io.W A hh).frame _ _ _ hS fun b hb o e => by
    rw [put_get, if_pos]
    · exact e
    · rcases Io.own b hb with q | q
      · simp [q]
      · simp [q]

theorem St.writeI {c : Cfg} {X : Addr → Prop} {s₀ s : Shared} {g₀ g : Heap} {L : Addr} {m : Str → Option Value} (F : St c X s₀ g₀ g L m s) {I : Addr} {h' : Heap} {tk : Nat} (hI : s₀.heap.objs.size ≤ I) (hL : I ≠ L) (hC : I ≠ c.eC) (hP : I ≠ c.eP) (hg : g.get? I = none)
    (hk : ∀ b o, b ∉ [I] → s.heap.get? b = some o → h'.get? b = some o) : St c X s₀ g₀ g L m { s with heap := h', toks := tk } where
  ns := by
    obtain ⟨o, es, ep, x, r⟩ := F.ns
    exact ⟨o, es, ep, hk _ _ (by simpa using Ne.symm hL) x, r⟩
  fz := ⟨fun b o e => hk b o (by simp; rintro rfl; rw [hg] at e; cases e) (F.fz.le b o e), F.fz.base, F.fz.off,
    let ⟨ps, t⟩ := F.fz.tab; ⟨ps, t.step fun b o hb e => hk b o (by rcases hb with rfl | rfl; simpa using Ne.symm hC; simpa using Ne.symm hP) e⟩⟩
  offL := F.offL
  lo := F.lo
  ext := ⟨fun b o h1 h2 e => hk b o (by simp; rintro rfl; exact Nat.lt_irrefl _ (Nat.lt_of_lt_of_le (Heap.lt_size e) hI)) (F.ext.keep b o h1 h2 e),
    fun ps t => let ⟨mo, t'⟩ := F.ext.tab ps t; ⟨mo, t'.step fun b o hb e => hk b o (by rcases hb with rfl | rfl; simpa using Ne.symm hC; simpa using Ne.symm hP) e⟩,
    by obtain ⟨o, es, ep, a, r⟩ := F.ns
       exact Nat.le_of_lt (Nat.lt_of_le_of_lt F.lo (Heap.lt_size (hk _ _ (by simpa using Ne.symm hL) a))), F.ext.os, F.ext.drawn, F.ext.gens, F.ext.bare, fun h => by
      obtain ⟨_, _, t, _⟩ := F.ext.hitS h
      exact ((hk _ _ (by simpa using Ne.symm hP) t.obj).trans t.obj.symm).trans (F.ext.hit h)⟩
  sub := F.sub
  ltX := F.ltX

theorem get_none_of_ge {g h : Heap} (hl : Le g h) {a : Addr} (ha : h.objs.size ≤ a) : g.get? a = none := by
  cases q : g.get? a with
  | none => rfl
  | some o => exact absurd (Heap.lt_size (hl _ _ q)) (Nat.not_lt.mpr ha)

section
variable {c : Cfg} {X : Addr → Prop} {A : Around} {E : Value → Shared → Prop} {s₀ s : Shared} {g₀ g : Heap} {m : Str → Option Value} {env : Env}

set_option maxHeartbeats 4000000 in
/-- a comprehension of one clause -/
theorem comp_ok {elt iter : Expr} {x : Str} {px : Pos} {scope : Scope} {cl : List (Str × Addr)} {pos : Pos} {Q : Value → Shared → Prop} (J : Nat → List Value → Heap → Heap → Prop)
    (hclos : closureFor scope env = pure cl) (hcell : ∀ y ∈ scope.names, y.2 ≠ .cell) (hkind : scope.kind = .function)
    (hnames : ∀ y ∈ scope.names, y.2 = .local → scope.names.lookup y.1 = some .local) (hx : scope.names.lookup x = some .local) (hh : A.handled = none) (hXg : ∀ b, X b → g₀.get? b = none)
    (h : wpAny c.M A (eval iter env) (fun xv s₁ => wpAny c.M A (pyIter xv) (fun it s₂ => ∃ g I n P fp Stt, it = .ref I ∧ ItOk c X s₀ s₂ g env.locals I n P fp Stt ∧ n ≤ 16777216 ∧ (∀ b, X b → g.get? b = none) ∧
      St c X s₀ g₀ g env.locals m s₂ ∧ J 0 [] g s₂.heap ∧
      (∀ {j ys g h g' h'}, J j ys g h → Le g g' → (∀ b o, b < I → b ≠ env.locals → h.get? b = some o → h'.get? b = some o) → J j ys g' h') ∧
      (∀ (B : Around) j ys v g' s₃ C mC, B.handled = none → B.depth = A.depth → J j ys g' s₃.heap → Le g g' → P j v → j < n → St c X s₀ g₀ g' env.locals m s₃ → (∀ b, X b → g'.get? b = none) → s₃.heap.Ns C mC → mC x = some v →
        wpAny c.M B (eval elt (compEnvC scope cl C env)) (fun y s₄ => Ext c X s₃ s₄ ∧ J (j + 1) (ys ++ [y]) (grow g' s₃.heap.objs.size s₄.heap) s₄.heap) (fun _ _ => False) s₃) ∧
      (∀ D ys g' s₅, J n ys g' s₅.heap → Le g g' → (∀ b, X b → g'.get? b = none) → St c X s₀ g₀ g' env.locals m s₅ → Ls g' D ys → ys.length = n → Q (.ref D) s₅)) E s₁) E s)
    (hs : ∀ x, foldedSetIterable iter env x = pure x := by intro _; rfl) :
    wpAny c.M A (eval (.ListComp elt [⟨.Name x px, iter, [], 0⟩] scope pos) env) Q E s := by
  rw [eval_ListComp]
  refine wpAny_comprehension_free (use := none) rfl hs hclos hkind hnames (wpAny_mono h (fun xv s₁ h₁ => wpAny_mono h₁ (fun it s₂ h₂ => ?_) fun _ _ e => e) fun _ _ e => e)
  clear h
  obtain ⟨g, I, n, P, fp, Stt, rfl, Io, hn, hXo, F, hJ0, hJm, helt, hfin⟩ := h₂
  refine wpAny_newObj_type (wpAny_newFunctionEnv hcell (by intro y hy; simp at hy) (fun h₁ hns₁ hsb₁ => ?_) hkind)
  dsimp only at hns₁ hsb₁ ⊢
  have hDa : (s₂.heap.push { cls := .type "list", data := .seq ([] : List Value).toArray }).get? s₂.heap.objs.size = some { cls := .type "list", data := .seq ([] : List Value).toArray } := Heap.get?_push_size _ rfl
  have hold : ∀ b o, s₂.heap.get? b = some o → (s₂.heap.push { cls := .type "list", data := .seq ([] : List Value).toArray }).get? b = some o := fun b o e => Heap.get?_push_of_some _ e
  have hC : (s₂.heap.push { cls := .type "list", data := .seq ([] : List Value).toArray }).objs.size = s₂.heap.objs.size + 1 := Heap.size_push ..
  generalize (s₂.heap.push { cls := .type "list", data := .seq ([] : List Value).toArray }) = H2 at *
  generalize hDd : s₂.heap.objs.size = D at *
  generalize hCc : H2.objs.size = C at *
  have hDC : D ≠ C := by rw [hC]; exact Nat.ne_of_lt (Nat.lt_succ_self _)
  have hlt : ∀ b o, s₂.heap.get? b = some o → b < D := fun b o e => hDd ▸ Heap.lt_size e
  have hDlC : D < C := by rw [hC]; exact Nat.lt_succ_self _
  have keep1 : ∀ b o, s₂.heap.get? b = some o → h₁.get? b = some o := fun b o e => hsb₁.extBut b o (Nat.ne_of_lt (Nat.lt_trans (hlt b o e) hDlC)) (Heap.get?_push_of_some _ (hold b o e))
  have hD1 : h₁.IsList D ([] : List Value).toArray := ⟨_, hsb₁.extBut _ _ hDC (Heap.get?_push_of_some _ hDa), rfl, 0, rfl⟩
  have F1 : St c X s₀ g₀ g env.locals m { s₂ with heap := h₁, toks := s₂.toks + ([] : List (Str × Value)).length } := F.keep keep1
  have hID : I < D := hDd ▸ Io.hi
  have hsD : s₀.heap.objs.size ≤ D := Nat.le_of_lt (Nat.lt_of_le_of_lt Io.lo hID)
  have hsC : s₀.heap.objs.size ≤ C := Nat.le_trans hsD (Nat.le_of_lt hDlC)
  have hLD : env.locals < D := let ⟨_, _, _, q, _⟩ := F.ns; hlt _ _ q
  obtain ⟨ps, tt⟩ := F.fz.tab
  have hecD : c.eC < D := hDd ▸ tt.lt.1
  have hepD : c.eP < D := hDd ▸ tt.lt.2
  have hgD : g.get? D = none := get_none_of_ge F.fz.le (by rw [hDd]; exact Nat.le_refl _)
  have hgC : g.get? C = none := get_none_of_ge F.fz.le (by rw [hDd]; exact Nat.le_of_lt hDlC)
  let Inv : Nat → Shared → Prop := fun k s₃ => ∃ j ys g', k + j = n ∧ Le g g' ∧ (∀ b, X b → g'.get? b = none) ∧ g'.get? D = none ∧ g'.get? C = none ∧ g'.get? I = none ∧ ys.length = j ∧
    St c X s₀ g₀ g' env.locals m s₃ ∧ J j ys g' s₃.heap ∧ Stt j s₃.heap ∧ s₃.heap.IsList D ys.toArray ∧ ∃ mC, s₃.heap.Ns C mC
  have loop : ∀ s₃, s₃ = ({ s₂ with heap := h₁, toks := s₂.toks + ([] : List (Str × Value)).length } : Shared) →
      codeAny c.M A (.compLoop (.ListComp elt [⟨.Name x px, iter, [], 0⟩] scope pos) 0 (.ref I) (.ref D) (compEnvC scope cl C env)) (compPost c.M A E none Q (.ref D) C) s₃ := by
    rintro s₃ rfl
    refine codeAny_compLoop_list Inv ?_ n ⟨0, [], g, rfl, fun _ _ e => e, hXo, hgD, hgC, Io.off, rfl, F1, hJm hJ0 (fun _ _ e => e) (fun b o _ _ e => keep1 b o e), (Io.W A hh).frame _ _ _ Io.st (fun b _ o e => keep1 b o e), hD1, ⟨_, hns₁⟩⟩
    rintro k s₃ ⟨j, ys, g', hkj, lg, hX', oD, oC, oI, hys, F3, hJ, hSt, hDl, mC, hnC⟩
    have hnI : C ≠ I := Nat.ne_of_gt (Nat.lt_trans hID hDlC)
    rcases Nat.eq_zero_or_pos k with rfl | hk
    · have hjn : j = n := by omega
      subst hjn
      refine (Io.W A hh).done s₃ _ _ hSt fun h' tk hk' => ?_
      have F4 : St c X s₀ g₀ g' env.locals m { s₃ with heap := h', toks := tk } := F3.writeI Io.lo Io.neL Io.neC Io.neP oI hk'
      refine ⟨mC, hnC.at' fun o e => hk' _ o (by simpa using hnI) e, fun h'' hs'' => ?_⟩
      have F5 := F4.write (tk := tk) (.inl hsC) (Ne.symm (Nat.ne_of_lt (Nat.lt_trans hLD hDlC))) (Ne.symm (Nat.ne_of_lt (Nat.lt_trans hecD hDlC))) (Ne.symm (Nat.ne_of_lt (Nat.lt_trans hepD hDlC))) oC hs''
      have F6 := F5.put (.inl hsD) (Ne.symm (Nat.ne_of_lt hLD)) (Ne.symm (Nat.ne_of_lt hepD))
      have kk : ∀ b o, b ≠ C → b ≠ I → s₃.heap.get? b = some o → h''.get? b = some o := fun b o h1 h2 e => hs''.extBut b o h1 (hk' b o (by simpa using h2) e)
      have hDl' : h''.IsList D ys.toArray := hDl.at fun o e => kk D o hDC (Ne.symm (Nat.ne_of_lt hID)) e
      refine hfin D ys (put g' D h'') _ (hJm hJ (le_put F5.fz.le) fun b o hb _ e => kk b o (Nat.ne_of_lt (Nat.lt_trans hb (Nat.lt_trans hID hDlC))) (Nat.ne_of_lt hb) e) (fun b o e => le_put F5.fz.le _ _ (lg _ _ e)) (fun b q => put_none (hX' b q) (fun e => ?_)) F6 (Ls.put hDl') hys
      subst e
      exact absurd (F3.ltX _ q) (Nat.not_lt.mpr hsD)
    · have hjn : j < n := by omega
      refine (Io.W A hh).item j s₃ _ _ hjn hSt fun v h' tk hP hSt' hk' => ?_
      have F4 : St c X s₀ g₀ g' env.locals m { s₃ with heap := h', toks := tk } := F3.writeI Io.lo Io.neL Io.neC Io.neP oI hk'
      refine wpAny_assign_Name (wpAny_storeName_local (env := compEnvC scope cl C env) (lookup_relabel_local hx) (hnC.at' fun o e => hk' _ o (by simpa using hnI) e) (fun h2 hn2 hs2 => ?_) (by simp [compEnvC, relabel, hkind]))
      have hs2' : Heap.SameBut C h' h2 := hs2
      have F5 := F4.write (tk := tk + 1) (.inl hsC) (Ne.symm (Nat.ne_of_lt (Nat.lt_trans hLD hDlC))) (Ne.symm (Nat.ne_of_lt (Nat.lt_trans hecD hDlC))) (Ne.symm (Nat.ne_of_lt (Nat.lt_trans hepD hDlC))) oC hs2'
      have kk : ∀ b o, b ≠ C → b ≠ I → s₃.heap.get? b = some o → h2.get? b = some o := fun b o h1 h2' e => hs2'.extBut b o h1 (hk' b o (by simpa using h2') e)
      have hJ5 := hJm hJ (fun _ _ e => e) (fun b o hb _ e => kk b o (Nat.ne_of_lt (Nat.lt_trans hb (Nat.lt_trans hID hDlC))) (Nat.ne_of_lt hb) e)
      have hDl5 : h2.IsList D ys.toArray := hDl.at fun o e => kk D o hDC (Ne.symm (Nat.ne_of_lt hID)) e
      have hSt5 : Stt (j + 1) h2 := (Io.W A hh).frame _ _ _ hSt' fun b hb o e => hs2'.extBut b o (Nat.ne_of_lt (Nat.lt_of_le_of_lt (Io.fpl b hb).1 (Nat.lt_trans hID hDlC))) e
      refine wpAny_mono (helt A j ys v g' _ C _ hh rfl hJ5 lg hP hjn F5 hX' hn2 (if_pos rfl)) (fun y s₄ h₄ => ?_) fun _ _ q => q.elim
      obtain ⟨X4, hJ6⟩ := h₄
      have F6 := F5.grow X4 hX'
      have nX : ∀ b, s₀.heap.objs.size ≤ b → ¬ X b := fun b hb q => absurd (F5.ltX b q) (Nat.not_lt.mpr hb)
      have ltD5 : D < h2.objs.size := let ⟨_, q, _⟩ := hDl5; Heap.lt_size q
      have ltC5 : C < h2.objs.size := hn2.lt
      have ltI5 : I < h2.objs.size := Nat.lt_trans hID ltD5
      have hDl6 : s₄.heap.IsList D ys.toArray := hDl5.at fun o e => X4.keep D o (Ne.symm (Nat.ne_of_lt hepD)) (nX D hsD) e
      have hnC6 := hn2.at' fun o e => X4.keep C o (Ne.symm (Nat.ne_of_lt (Nat.lt_trans hepD hDlC))) (nX C hsC) e
      have hSt6 : Stt (j + 1) s₄.heap := (Io.W A hh).frame _ _ _ hSt5 fun b hb o e => X4.keep b o (Io.fpl b hb).2.1 (Io.fpl b hb).2.2.2 e
      refine wpAny_list_append hDl6 (fun h7 hl7 hs7 => ?_) (by rw [sizeLine_eq]; simp; omega)
      have oD6 : (grow g' h2.objs.size s₄.heap).get? D = none := grow_none oD ltD5
      have F7 := F6.write (tk := s₄.toks) (.inl hsD) (Ne.symm (Nat.ne_of_lt hLD)) (Ne.symm (Nat.ne_of_lt hecD)) (Ne.symm (Nat.ne_of_lt hepD)) oD6 hs7
      refine ⟨k - 1, by omega, j + 1, ys ++ [y], grow g' h2.objs.size s₄.heap, by omega, fun b o e => le_grow (F5.fz.ext X4 hX').le _ _ (lg _ _ e), fun b q => grow_none (hX' b q) (Nat.lt_of_lt_of_le (F5.ltX b q) (Nat.le_trans hsD (Nat.le_of_lt ltD5))), oD6, grow_none oC ltC5, grow_none oI ltI5, by simp [hys], F7,
        hJm hJ6 (fun _ _ e => e) (fun b o hb _ e => hs7.extBut b o (Nat.ne_of_lt (Nat.lt_trans hb hID)) e),
        (Io.W A hh).frame _ _ _ hSt6 (fun b hb o e => hs7.extBut b o (Nat.ne_of_lt (Nat.lt_of_le_of_lt (Io.fpl b hb).1 hID)) e), by simpa using hl7, _, hnC6.sameBut hs7 (Ne.symm hDC)⟩
  refine codeAny_compStart_list (loop _ rfl) ((Io.W A hh).self 0 _ _ _ ((Io.W A hh).frame _ _ _ Io.st (fun b _ o e => keep1 b o e)) (loop _ rfl))
end
end Mine
end
section
open PySem PySem.Calls PySem.Spec PyProof.Rows PySem.W
set_option maxRecDepth 100000
namespace Mine

section
variable {c : Cfg} {X : Addr → Prop} {A : Around} {E : Value → Shared → Prop} {s₀ s : Shared} {g₀ g : Heap} {L : Addr} {m : Str → Option Value} {env : Env}

/-- an iterator on a list -/
theorem r_iterL {la : Addr} {vs : List Value} {Q : Value → Shared → Prop} (F : St c X s₀ g₀ g L m s) (hl : Ls g la vs) (hX : ∀ b, X b → g.get? b = none)
    (h : ∀ I fp Stt s', ItOk c X s₀ s' g L I vs.length (fun i v => vs[i]? = some v) fp Stt → St c X s₀ g₀ g L m s' → (∀ b o, s.heap.get? b = some o → s'.heap.get? b = some o) → s.heap.objs.size ≤ I → Q (.ref I) s') :
    wpAny c.M A (pyIter (.ref la)) Q E s := by
  have hl' := hl.mono F.fz.le
  refine wpAny_pyIter_list hl' ?_
  have hk : ∀ b o, s.heap.get? b = some o → (s.heap.push { cls := .type "list_iterator", data := .fields #[.ref la, .int 0 0] }).get? b = some o := fun b o e => Heap.get?_push_of_some _ e
  have F' := F.keep (k := s.toks) hk
  obtain ⟨ps, tt⟩ := F.fz.tab
  have hla : la < s.heap.objs.size := hl'.lt
  have hL : L < s.heap.objs.size := F.ns.lt
  refine h s.heap.objs.size [s.heap.objs.size, la] (fun i h => h.IsListIter s.heap.objs.size la i ∧ h.IsList la vs.toArray) _ ⟨fun B hB => ?_, ⟨⟨_, Heap.get?_push_size _ rfl, rfl, rfl⟩, Heap.IsList.push hl' _⟩, get_none_of_ge F.fz.le (Nat.le_refl _), F.ext.size,
    by show _ < (s.heap.push _).objs.size; rw [Heap.size_push]; exact Nat.lt_succ_self _, Nat.ne_of_gt hL, Nat.ne_of_gt tt.lt.1, Nat.ne_of_gt tt.lt.2, fun b hb => ?_, fun b hb => ?_⟩ F' hk (Nat.le_refl _)
  · have W := Walks.list (prog := pw) (w := c.w) hB s.heap.objs.size la (Nat.ne_of_lt hla) vs.toArray
    rw [List.size_toArray] at W
    refine ⟨W.sub, W.frame, fun i s Q E hi st hQ => W.item i s Q E hi st fun v h' tk hp => hQ v h' tk (by simpa using hp), W.done, W.self⟩
  · rcases List.mem_cons.mp hb with rfl | hb
    · exact ⟨Nat.le_refl _, Nat.ne_of_gt tt.lt.2, Nat.ne_of_gt hL, fun q => Nat.lt_irrefl _ (Nat.lt_of_lt_of_le (F.ltX _ q) F.ext.size)⟩
    · rcases List.mem_cons.mp hb with rfl | hb
      · exact ⟨Nat.le_of_lt hla, (hl'.ne_code tt).2, hl'.ne_L F, fun q => hl.ne_none (hX _ q)⟩
      · cases hb
  · rcases List.mem_cons.mp hb with rfl | hb
    · exact .inl rfl
    · rcases List.mem_cons.mp hb with rfl | hb
      · exact .inr (let ⟨o, e, _⟩ := hl; by rw [e]; rfl)
      · cases hb

/-- an iterator on range(n) -/
theorem r_range {n : Nat} {t : Tok} {Q : Value → Shared → Prop} (F : St c X s₀ g₀ g L m s) (hn : n < 2 ^ 60)
    (h : ∀ r s', St c X s₀ g₀ g L m s' → (∀ b o, s.heap.get? b = some o → s'.heap.get? b = some o) → s.heap.objs.size = r → (∃ t u v, IsRange s'.heap r 0 n 1 t u v) → Q (.ref r) s') :
    wpAny c.M A (call (.type "range") [.int n t]) Q E s := by
  refine call_range_1 (h _ _ (F.keep fun b o e => Heap.get?_push_of_some _ e) (fun b o e => Heap.get?_push_of_some _ e) rfl ⟨_, _, _, IsRange.new ..⟩)
theorem r_iterR {r : Addr} {n : Nat} {t u v : Tok} {Q : Value → Shared → Prop} (F : St c X s₀ g₀ g L m s) (hr : IsRange s.heap r 0 n 1 t u v) (hn : n < 2 ^ 60)
    (h : ∀ I fp Stt s', ItOk c X s₀ s' g L I n (fun i v => ∃ t, v = .int (i : Nat) t) fp Stt → St c X s₀ g₀ g L m s' → (∀ b o, s.heap.get? b = some o → s'.heap.get? b = some o) → s.heap.objs.size ≤ I → Q (.ref I) s') :
    wpAny c.M A (pyIter (.ref r)) Q E s := by
  refine wpAny_pyIter_range hr (small_one (by decide) (by decide) (by omega) (by omega)) ?_
  have hk : ∀ b o, s.heap.get? b = some o → (s.heap.push { cls := .type "range_iterator", data := .fields #[rawInt 0, rawInt (Builtin.Range.rangeSize 0 n 1), rawInt 1] }).get? b = some o := fun b o e => Heap.get?_push_of_some _ e
  have F' := F.keep (k := s.toks) hk
  obtain ⟨ps, tt⟩ := F.fz.tab
  have hL : L < s.heap.objs.size := F.ns.lt
  refine h s.heap.objs.size [s.heap.objs.size] (fun i h => IsRangeIter h s.heap.objs.size (0 + (i : Nat) * 1) ((n : Int) - (i : Nat)) 1) _ ⟨fun B hB => ?_, ?_, get_none_of_ge F.fz.le (Nat.le_refl _), F.ext.size,
    by show _ < (s.heap.push _).objs.size; rw [Heap.size_push]; exact Nat.lt_succ_self _, Nat.ne_of_gt hL, Nat.ne_of_gt tt.lt.1, Nat.ne_of_gt tt.lt.2, fun b hb => ?_, fun b hb => .inl (List.mem_singleton.mp hb)⟩ F' hk (Nat.le_refl _)
  · have W := Walks.range (prog := pw) (w := c.w) hB s.heap.objs.size 0 1 n
    refine ⟨W.sub, W.frame, fun i s Q E hi st hQ => W.item i s Q E hi st fun v h' tk hp => hQ v h' tk (by simpa using hp), W.done, W.self⟩
  · have e : Builtin.Range.rangeSize 0 (n : Int) 1 = n := by rw [rangeSize_nat]; omega
    show IsRangeIter _ _ _ _ _
    rw [e]
    simpa [IsRangeIter, rawInt] using Heap.get?_push_size s.heap (o := { cls := .type "range_iterator", data := .fields #[rawInt 0, rawInt (n : Int), rawInt 1] }) rfl
  · rw [List.mem_singleton] at hb; subst hb
    exact ⟨Nat.le_refl _, Nat.ne_of_gt tt.lt.2, Nat.ne_of_gt hL, fun q => Nat.lt_irrefl _ (Nat.lt_of_lt_of_le (F.ltX _ q) F.ext.size)⟩

/-! ## slices of lists -/
theorem pick_run0 (vs : List Value) (b : Nat) : (slicePick vs.toArray none (some b) none).toList = vs.take b := by
  rcases Nat.le_total b vs.length with h | h
  · rw [slicePick_upto _ _ (by simpa using h)]
  · have e : slicePick vs.toArray none (some (b : Int)) none = slicePick vs.toArray none none none := by
      unfold slicePick
      have : sliceBounds none (some (b : Int)) none vs.toArray.size = sliceBounds none none none vs.toArray.size := by
        simp only [sliceBounds, Option.getD_none]
        have h2 : ¬ ((b : Int) < 0) := by omega
        simp only [h2, if_false, show (1 : Int) > 0 by decide, if_true]
        congr 2
        simp; omega
      rw [this]
    rw [e, slicePick_all, List.take_of_length_le h]

theorem r_sliceL {value : Expr} {lower upper : Option Expr} {p pos : Pos} {Q : Value → Shared → Prop}
    (h : wpAny c.M A (eval value env) (fun o s₁ => wpAny c.M A (evalPart lower env) (fun vl s₂ => wpAny c.M A (evalPart upper env) (fun vu s₃ =>
      ∃ (la : Addr) (vs : List Value) (lo hi : Option Int) (X : Addr → Prop) (s₀ : Shared) (g₀ g : Heap) (L : Addr) (m : Str → Option Value), o = .ref la ∧ Ls g la vs ∧ vs.length ≤ 16777216 ∧ IsPart vl lo ∧ IsPart vu hi ∧ St c X s₀ g₀ g L m s₃ ∧
        ∀ a g' s', Le g g' → St c X s₀ g₀ g' L m s' → Ls g' a (slicePick vs.toArray lo hi none).toList → Q (.ref a) s') E s₂) E s₁) E s) (hn : ∀ o r, letTemporaryGo value o r = pure () := by intro _ _; rfl) :
    wpAny c.M A (eval (.Subscript value (.Slice lower upper none p) pos) env) Q E s := by
  refine wpAny_Subscript_list_slice (wpAny_mono h (fun o s₁ h₁ => wpAny_mono h₁ (fun vl s₂ h₂ => wpAny_mono h₂ (fun vu s₃ h₃ => ?_) fun _ _ q => q) fun _ _ q => q) fun _ _ q => q) hn
  obtain ⟨la, vs, lo, hi, X, s₀, g₀, g, L, m, rfl, hl, hz, pl, pu, F, k⟩ := h₃
  refine ⟨la, vs.toArray, lo, hi, rfl, hl.mono F.fz.le, by rw [sizeLine_eq]; simpa using hz, pl, pu, ?_⟩
  have P1 : Pex c s₃ { s₃ with heap := s₃.heap.push { cls := .type "slice", data := .fields #[vl, vu, .none] } } := Ext.push (tk := s₃.toks) _
  have P2 : Pex c { s₃ with heap := s₃.heap.push { cls := .type "slice", data := .fields #[vl, vu, .none] } } { s₃ with heap := (s₃.heap.push { cls := .type "slice", data := .fields #[vl, vu, .none] }).push { cls := .type "list", data := .seq (slicePick vs.toArray lo hi none) } } := Ext.push (tk := s₃.toks) _
  have F2 := F.pex (P1.trans P2)
  refine k _ _ _ (le_grow (F.stay (P1.trans P2)).fz.le) F2 ⟨{ cls := .type "list", data := .seq (slicePick vs.toArray lo hi none) }, ?_, rfl, 0, by simp⟩
  rw [grow_new (Nat.le_succ _)]
  have := Heap.get?_push_size (s₃.heap.push { cls := .type "slice", data := .fields #[vl, vu, .none] }) (o := { cls := .type "list", data := .seq (slicePick vs.toArray lo hi none) }) rfl
  rw [Heap.size_push] at this
  exact this
/-- l[:b] -/
theorem r_sl0L {value upper : Expr} {p pos : Pos} {Q : Value → Shared → Prop}
    (h : wpAny c.M A (eval value env) (fun o s₁ => wpAny c.M A (eval upper env) (fun vu s₃ =>
      ∃ (la : Addr) (vs : List Value) (b : Nat) (ib : Int) (tb : Tok) (X : Addr → Prop) (s₀ : Shared) (g₀ g : Heap) (L : Addr) (m : Str → Option Value), o = .ref la ∧ Ls g la vs ∧ vs.length ≤ 16777216 ∧ vu = .int ib tb ∧ ib = b ∧ St c X s₀ g₀ g L m s₃ ∧
        ∀ a g' s', Le g g' → St c X s₀ g₀ g' L m s' → Ls g' a (vs.take b) → Q (.ref a) s') E s₁) E s) (hn : ∀ o r, letTemporaryGo value o r = pure () := by intro _ _; rfl) :
    wpAny c.M A (eval (.Subscript value (.Slice none (some upper) none p) pos) env) Q E s := by
  refine r_sliceL (wpAny_mono h (fun o s₁ h₁ => wpAny_evalPart_none (wpAny_evalPart_some (wpAny_mono h₁ (fun vu s₃ h₃ => ?_) fun _ _ q => q))) fun _ _ q => q) hn
  obtain ⟨la, vs, b, ib, tb, X, s₀, g₀, g, L, m, rfl, hl, hz, rfl, rfl, F, k⟩ := h₃
  refine ⟨la, vs, none, some b, X, s₀, g₀, g, L, m, rfl, hl, hz, .none, .int _ _, F, fun a g' s' hle F' hl' => ?_⟩
  rw [pick_run0] at hl'
  exact k _ _ _ hle F' hl'
/-- l[a:] -/
theorem r_slL0 {value lower : Expr} {p pos : Pos} {Q : Value → Shared → Prop}
    (h : wpAny c.M A (eval value env) (fun o s₁ => wpAny c.M A (eval lower env) (fun vu s₃ =>
      ∃ (la : Addr) (vs : List Value) (b : Nat) (ib : Int) (tb : Tok) (X : Addr → Prop) (s₀ : Shared) (g₀ g : Heap) (L : Addr) (m : Str → Option Value), o = .ref la ∧ Ls g la vs ∧ vs.length ≤ 16777216 ∧ vu = .int ib tb ∧ ib = b ∧ b ≤ vs.length ∧ St c X s₀ g₀ g L m s₃ ∧
        ∀ a g' s', Le g g' → St c X s₀ g₀ g' L m s' → Ls g' a (vs.drop b) → Q (.ref a) s') E s₁) E s) (hn : ∀ o r, letTemporaryGo value o r = pure () := by intro _ _; rfl) :
    wpAny c.M A (eval (.Subscript value (.Slice (some lower) none none p) pos) env) Q E s := by
  refine r_sliceL (wpAny_mono h (fun o s₁ h₁ => wpAny_evalPart_some (wpAny_mono h₁ (fun vu s₃ h₃ => wpAny_evalPart_none ?_) fun _ _ q => q)) fun _ _ q => q) hn
  obtain ⟨la, vs, b, ib, tb, X, s₀, g₀, g, L, m, rfl, hl, hz, rfl, rfl, hb, F, k⟩ := h₃
  refine ⟨la, vs, some b, none, X, s₀, g₀, g, L, m, rfl, hl, hz, .int _ _, .none, F, fun a g' s' hle F' hl' => ?_⟩
  rw [slicePick_from _ _ (by simpa using hb)] at hl'
  exact k _ _ _ hle F' hl'
end
end Mine
end
section
open PySem PySem.Calls PySem.Spec PyProof.Rows PySem.W
set_option maxRecDepth 100000
namespace Mine

theorem enc_mem {t : T} {ts : List T} {i : Nat} (h : ts[i]? = some t) : (enc t).length ≤ (encs ts).length := by
  induction ts generalizing i with
  | nil => simp at h
  | cons u us ih =>
    rw [encs, List.length_append]
    cases i with
    | zero => simp at h; subst h; omega
    | succ i => have := ih (i := i) (by simpa using h); omega
theorem pcss_take (ts : List T) {j : Nat} {t : T} (h : ts[j]? = some t) : pcss (ts.take (j + 1)) = pcss (ts.take j) ++ [pcs t] := by
  rw [List.take_add_one, h, pcss_append]; rfl

section
variable {c : Cfg} {f : Addr}

set_option maxHeartbeats 4000000 in
theorem pie_ok (ok : c.Ok) (hf : At c dPie f) (n : Nat) : ∀ {t : T} {v : Value} {A : Around} {E : Value → Shared → Prop} {s : Shared} {g : Heap} {Q : Value → Shared → Prop}, ht t ≤ n → Tr g t v → Fz c g s → A.depth + 2 * n + 4 < recursionLimit → A.handled = none → (enc t).length ≤ 16777216 →
      (∀ w s', Pex c s s' → Tr (grow g s.heap.objs.size s'.heap) (pcs t) w → Q w s') → wpAny c.M A (call (.ref f) [v]) Q E s := by
  obtain ⟨fE, hE⟩ := ok.at_ (d := dEnc) (by rw [recs_eq]; simp)
  induction n with
  | zero =>
    intro t v A E s g Q hn hT z hroom hh hz h
    cases t with
    | leaf b =>
      have hT' := hT
      obtain ⟨tk, rfl⟩ := hT
      refine call_def (X := noX) (binds := [("tree", .bytes b.toArray tk)]) ok hf z (fun _ q => q.elim) (fun _ q => q.elim) (by omega) (fun _ _ _ => by rfl) (locs rfl) (fun cd s₁ _ F => ?_)
      refine wpAny_execs_cons (wpAny_If (wpAny_isTrue_value (r_call (r_builtin ok F.fz (by rfl) (r_with_builtin (r_args_cons (r_name F (by rfl) (r_args_cons (r_builtin ok F.fz (by rfl) (r_args_nil (r_is_bytes F k5 fun s3 F3 => r_yes rfl ?_)))))))))))
      refine wpAny_execs_cons (wpAny_Return_some (r_list (r_args_cons (r_call (r_global ok F3.fz hE.nm (r_with_def ok hE (r_args_cons (r_name F3 (by rfl) (r_args_nil ⟨fun b o q => F3.fz.le b o (F3.fz.base b o q), ?_⟩)))))))))
      refine enc_ok ok hE 0 (t := .leaf b) (by rw [ht]; exact Nat.le_refl _) hT' F3.fz (by simp only [depth_deeper]; omega) hh hz fun t4 s4 P4 => ?_
      refine r_args_nil (r_newL (F3.pex P4) (by simp) fun a5 g5 s5 l5 F5 hl5 _ => ?_)
      exact h _ _ F5.ext ⟨_, _, rfl, hl5.mono F5.le_end, _, [], rfl, ⟨_, rfl⟩, rfl⟩
    | node ts => rw [ht] at hn; omega
  | succ n ih =>
    intro t v A E s g Q hn hT z hroom hh hz h
    cases t with
    | leaf b =>
      have hT' := hT
      obtain ⟨tk, rfl⟩ := hT
      refine call_def (X := noX) (binds := [("tree", .bytes b.toArray tk)]) ok hf z (fun _ q => q.elim) (fun _ q => q.elim) (by omega) (fun _ _ _ => by rfl) (locs rfl) (fun cd s₁ _ F => ?_)
      refine wpAny_execs_cons (wpAny_If (wpAny_isTrue_value (r_call (r_builtin ok F.fz (by rfl) (r_with_builtin (r_args_cons (r_name F (by rfl) (r_args_cons (r_builtin ok F.fz (by rfl) (r_args_nil (r_is_bytes F k5 fun s3 F3 => r_yes rfl ?_)))))))))))
      refine wpAny_execs_cons (wpAny_Return_some (r_list (r_args_cons (r_call (r_global ok F3.fz hE.nm (r_with_def ok hE (r_args_cons (r_name F3 (by rfl) (r_args_nil ⟨fun b o q => F3.fz.le b o (F3.fz.base b o q), ?_⟩)))))))))
      refine enc_ok ok hE 0 (t := .leaf b) (by rw [ht]; exact Nat.le_refl _) hT' F3.fz (by simp only [depth_deeper]; omega) hh hz fun t4 s4 P4 => ?_
      refine r_args_nil (r_newL (F3.pex P4) (by simp) fun a5 g5 s5 l5 F5 hl5 _ => ?_)
      exact h _ _ F5.ext ⟨_, _, rfl, hl5.mono F5.le_end, _, [], rfl, ⟨_, rfl⟩, rfl⟩
    | node ts =>
      have hT' := hT
      obtain ⟨a, vs, rfl, hl, hTs⟩ := hT
      have hez := no_self ts
      refine call_def (X := noX) (binds := [("tree", .ref a)]) ok hf z (fun _ q => q.elim) (fun _ q => q.elim) (by omega) (fun _ _ _ => by rfl) (locs rfl) (fun cd s₁ _ F => ?_)
      refine wpAny_execs_cons (wpAny_If (wpAny_isTrue_value (r_call (r_builtin ok F.fz (by rfl) (r_with_builtin (r_args_cons (r_name F (by rfl) (r_args_cons (r_builtin ok F.fz (by rfl) (r_args_nil (r_is_list F hl k4 fun s3 F3 => r_no rfl (wpAny_execs_nil ?_))))))))))))
      refine wpAny_execs_cons (wpAny_Return_some (wpAny_BinOp (r_list (r_args_cons (r_call (r_global ok F3.fz hE.nm (r_with_def ok hE (r_args_cons (r_name F3 (by rfl) (r_args_nil ⟨fun b o q => F3.fz.le b o (F3.fz.base b o q), ?_⟩))))))))))
      refine enc_ok ok hE (n + 1) (t := .node ts) hn hT' F3.fz (by simp only [depth_deeper]; omega) hh hz fun t4 s4 P4 => ?_
      have l4 : Le g (grow g s3.heap.objs.size s4.heap) := le_grow (F3.stay P4).fz.le
      refine r_args_nil (r_newL (F3.pex P4) (by simp) fun a5 g5 s5 l5 F5 hl5 _ => ?_)
      have l05 : Le g g5 := fun b o e => l5 _ _ (l4 _ _ e)
      refine comp_ok (X := noX) (s₀ := s) (g₀ := g) (m := fun x => List.lookup x [(Str.ofString "tree", Value.ref a)].reverse) (fun j ys g' _ => Trs g' (pcss (ts.take j)) ys) (by rfl) (by decide) (by rfl) (by decide) (by rfl) hh (fun _ q => q.elim) ?_
      refine r_name F5 (by rfl) (r_iterL F5 (hl.mono l05) (fun _ q => q.elim) fun I fp Stt s6 Io F6 k6 _ => ?_)
      refine ⟨g5, I, _, _, fp, Stt, rfl, Io, by rw [hTs.length]; have := encs_len ts; omega, fun _ q => q.elim, F6, by rw [List.take_zero, pcss]; rfl, fun hJ hle _ => hJ.mono hle, ?_, ?_⟩
      · intro B j ys v g' s7 C mC hB hBd hJ hle hP hj F7 _ hnC hmx
        obtain ⟨t', ht'⟩ : ∃ t', ts[j]? = some t' := ⟨_, List.getElem?_eq_getElem (by rw [← hTs.length]; exact hj)⟩
        obtain ⟨v', hv', hTv⟩ := (hTs.mono l05).get ht'
        have ev : v' = v := by rw [hP] at hv'; cases hv'; rfl
        subst ev
        refine r_call (r_global ok F7.fz hf.nm (r_with_def ok hf (r_args_cons (wpAny_Name (wpAny_loadName_local (by rfl) (by rfl) hnC hmx (r_args_nil ⟨fun b o q => F7.fz.le b o (F7.fz.base b o q), ?_⟩)) (by decide)))))
        refine ih (t := t') (Nat.le_trans (ht_mem (List.mem_of_getElem? ht')) (by rw [ht] at hn; omega)) (hTv.mono hle) F7.fz (by rw [hBd]; simp only [depth_deeper]; omega) hB (by have := enc_mem ht'; omega) fun w s8 P8 hw => ⟨P8, ?_⟩
        rw [pcss_take ts ht']
        exact (hJ.mono (le_grow (F7.stay P8).fz.le)).append (Trs.one hw)
      · intro D ys g' s7 hJ hle _ F7 hD _
        have e1 : ts.take vs.length = ts := by rw [hTs.length, List.take_length]
        rw [e1] at hJ
        refine r_addL F7 (hl5.mono hle) hD (by rw [hJ.length, pcss_len]; have := encs_len ts; have := hd_pos 192 (encs ts).length; rw [enc, List.length_append] at hz; simp only [List.length_cons, List.length_nil]; omega) fun a8 g8 s8 l8 F8 hl8 _ => ?_
        refine h _ _ F8.ext ?_
        rw [pcs]
        exact ⟨_, _, rfl, hl8.mono F8.le_end, _, _, rfl, ⟨_, rfl⟩, (hJ.mono l8).mono F8.le_end⟩
end
end Mine
end
section
namespace Mine

/-- a tree edited at a way: 0 in place of, 1 ahead of, 2 left out -/
noncomputable def ed (p : T) (how : Nat) : List Nat → T → T
  | [], _ => p
  | k :: w, .node ts =>
    match w with
    | [] => .node (ts.take k ++ (if how = 2 then [] else [p]) ++ ts.drop (k + if how = 1 then 0 else 1))
    | _ :: _ => .node (ts.take k ++ [ed p how w (ts.getD k (.leaf []))] ++ ts.drop (k + 1))
  | _ :: _, .leaf b => .leaf b

/-- the way is there -/
noncomputable def vld (how : Nat) : List Nat → T → Prop
  | [], _ => True
  | k :: w, .node ts =>
    match w with
    | [] => k < ts.length ∨ (k = ts.length ∧ how = 1)
    | _ :: _ => k < ts.length ∧ vld how w (ts.getD k (.leaf []))
  | _ :: _, .leaf _ => False
end Mine
end
section
open PySem PySem.Calls PySem.Spec PyProof.Rows PySem.W
open PySem.SeqAt
set_option maxRecDepth 100000
namespace Mine

/-- a way on the heap -/
def Wy (g : Heap) (w : List Nat) (a : Addr) : Prop := ∃ vs, Ls g a vs ∧ IntsAre vs (w.map fun (k : Nat) => (k : Int))
theorem Wy.mono {g h : Heap} {w : List Nat} {a : Addr} (x : Wy g w a) (hl : Le g h) : Wy h w a := let ⟨vs, x1, x2⟩ := x; ⟨vs, x1.mono hl, x2⟩
theorem ints_take {vs : List Value} {ns : List Int} (h : IntsAre vs ns) : ∀ n, IntsAre (vs.take n) (ns.take n) := by
  induction h with
  | nil => intro n; simp; exact IntsAre.nil
  | cons k t _ ih => intro n; cases n with
    | zero => simp; exact IntsAre.nil
    | succ n => simp; exact IntsAre.cons _ _ (ih n)
theorem ints_drop {vs : List Value} {ns : List Int} (h : IntsAre vs ns) : ∀ n, IntsAre (vs.drop n) (ns.drop n) := by
  induction h with
  | nil => intro n; simp; exact IntsAre.nil
  | cons k t h ih => intro n; cases n with
    | zero => simp; exact IntsAre.cons _ _ h
    | succ n => simp; exact ih n
theorem Wy.cons {g : Heap} {k : Nat} {w : List Nat} {a : Addr} (x : Wy g (k :: w) a) : ∃ t r, Ls g a (.int k t :: r) ∧ IntsAre r (w.map fun (k : Nat) => (k : Int)) := by
  obtain ⟨vs, hl, hi⟩ := x
  rw [List.map_cons] at hi
  cases hi with
  | cons n t hr => exact ⟨t, _, hl, hr⟩

section
variable {c : Cfg} {X : Addr → Prop} {A : Around} {E : Value → Shared → Prop} {s₀ s : Shared} {g₀ g : Heap} {L f : Addr} {m : Str → Option Value} {env : Env}

/-- a list against [] -/
theorem r_eqNil {a b : Addr} {vs : List Value} {Q : Value → Shared → Prop} (F : St c X s₀ g₀ g L m s) (hl : Ls g a vs) (hb : Ls g b []) (hu : A.units < cLine) (h : Q (.bool vs.isEmpty) s) : wpAny c.M A (compareOp .Eq (.ref a) (.ref b)) Q E s := by
  cases vs with
  | nil => exact eq_listAt (e := fun _ => true) (hl.mono F.fz.le).isList (hb.mono F.fz.le).isList rfl hu (fun j h1 _ => by simp at h1) (by simpa using h)
  | cons v r => exact eq_list_lengthsAt (hl.mono F.fz.le).isList (hb.mono F.fz.le).isList (by simp) hu h

set_option maxHeartbeats 4000000 in
theorem edi_ok (ok : c.Ok) (hf : At c dEdi f) {p : T} {how : Nat} : ∀ (w : List Nat) {t : T} {v pv : Value} {wa : Addr} {th : Tok} {A : Around} {E : Value → Shared → Prop} {s : Shared} {g : Heap} {Q : Value → Shared → Prop}, vld how w t → Tr g t v → Wy g w wa → Tr g p pv → Fz c g s →
      A.depth + w.length + 1 < recursionLimit → A.units + 3 * w.length + 10 < cLine → A.handled = none → (enc t).length ≤ 16777215 →
      (∀ r s', Pex c s s' → Tr (grow g s.heap.objs.size s'.heap) (ed p how w t) r → Q r s') → wpAny c.M A (call (.ref f) [v, .ref wa, pv, .int how th]) Q E s := by
  intro w
  induction w with
  | nil =>
    intro t v pv wa th A E s g Q hv hT hw hp z hroom hu hh hz h
    obtain ⟨ws, hwl, hwi⟩ := hw
    have hws : ws = [] := by cases hwi; rfl
    subst hws
    refine call_def (X := noX) (binds := [("tree", v), ("way", .ref wa), ("part", pv), ("how", .int how th)]) ok hf z (fun _ q => q.elim) (fun _ q => q.elim) (by omega) (fun _ _ _ => by rfl) (locs rfl) (fun cd s₁ _ F => ?_)
    refine wpAny_execs_cons (wpAny_If (wpAny_isTrue_Compare1 (r_name F (by rfl) (r_list (r_args_nil (r_newL F (by simp) fun a2 g2 s2 l2 F2 hl2 _ => r_eqNil F2 (hwl.mono l2) hl2 (by simp only [Around.deeper_units]; omega) (r_yes rfl ?_)))))))
    refine wpAny_execs_cons (wpAny_Return_some (r_name F2 (by rfl) ?_))
    exact h _ _ F2.ext ((hp.mono l2).mono F2.le_end)
  | cons k w ih =>
    intro t v pv wa th A E s g Q hv hT hw hp z hroom hu hh hz h
    cases t with
    | leaf b => cases w <;> exact hv.elim
    | node ts =>
      obtain ⟨a, vs, rfl, hl, hTs⟩ := hT
      obtain ⟨tk, r, hwl, hwi⟩ := hw.cons
      have hrl : r.length = w.length := by rw [hwi.length, List.length_map]
      have htl := encs_len ts
      have hez := no_self ts
      refine call_def (X := noX) (binds := [("tree", .ref a), ("way", .ref wa), ("part", pv), ("how", .int how th)]) ok hf z (fun _ q => q.elim) (fun _ q => q.elim) (by simp at hroom; omega) (fun _ _ _ => by rfl) (locs rfl) (fun cd s₁ _ F => ?_)
      refine wpAny_execs_cons (wpAny_If (wpAny_isTrue_Compare1 (r_name F (by rfl) (r_list (r_args_nil (r_newL F (by simp) fun a2 g2 s2 l2 F2 hl2 _ => r_eqNil F2 (hwl.mono l2) hl2 (by simp only [Around.deeper_units]; simp at hu; omega) (r_no rfl (wpAny_execs_nil ?_))))))))
      have hk : k ≤ ts.length := by
        cases w with
        | nil => rcases hv with q | q; omega; omega
        | cons k2 w2 => exact Nat.le_of_lt hv.1
      have hwz : w.length < 2000 := by simp [recursionLimit] at hroom; omega
      refine wpAny_execs_cons (wpAny_Assign_Name (Subscript_ (r_name F2 (by rfl) (r_int F2 fun t3 s3 F3 => r_itemL (i := 0) F3 (hwl.mono l2) (by rfl) (by decide) (by rfl) (r_store F3 fun s4 F4 => ?_)))))
      obtain ⟨m4, F4, n_k, n_tree, n_way, n_part, n_how⟩ : ∃ m4, St c noX s g g2 s.heap.objs.size m4 s4 ∧ m4 (Str.ofString "k") = some (.int (k : Nat) tk) ∧ m4 (Str.ofString "tree") = some (.ref a) ∧ m4 (Str.ofString "way") = some (.ref wa) ∧ m4 (Str.ofString "part") = some pv ∧ m4 (Str.ofString "how") = some (.int how th) := ⟨_, F4, by rfl, by rfl, by rfl, by rfl, by rfl⟩
      refine wpAny_execs_cons (wpAny_If (wpAny_isTrue_Compare1 (r_call (r_builtin ok F4.fz (by rfl) (r_with_builtin (r_args_cons (r_name F4 n_way (r_args_nil (r_lenL F4 (hwl.mono l2) (by simp; omega) fun t5 s5 F5 => r_int F5 fun t6 s6 F6 => r_gtI ?_)))))))))
      have hvz : vs.length = ts.length := hTs.length
      cases w with
      | nil =>
        have hr : r = [] := List.length_eq_zero_iff.mp hrl
        subst hr
        refine r_noD (by simp) (wpAny_execs_nil ?_)
        refine wpAny_execs_cons (wpAny_Return_some (wpAny_BinOp (wpAny_BinOp (r_sl0L (r_name F6 n_tree (r_name F6 n_k ⟨a, vs, k, k, tk, noX, s, g, g2, _, _, rfl, hl.mono l2, by omega, rfl, rfl, F6, fun a7 g7 s7 l7 F7 hl7 => ?_⟩))))))
        have l27 : Le g g7 := fun b o e => l7 _ _ (l2 _ _ e)
        refine wpAny_mono (Q := fun v8 s8 => ∃ a8 g8 v8s, v8 = .ref a8 ∧ Le g7 g8 ∧ St c noX s g g8 s.heap.objs.size m4 s8 ∧ Ls g8 a8 v8s ∧ Trs g8 (if how = 2 then [] else [p]) v8s) ?_ (fun v8 s8 q => ?_) fun _ _ q => q
        · refine wpAny_IfExp (wpAny_isTrue_Compare1 (r_name F7 n_how (r_int F7 fun t8 s8 F8 => r_eqI ?_)))
          by_cases h2 : how = 2
          · refine r_yes (by subst h2; rfl) (r_list (r_args_nil (r_newL F8 (by simp) fun a9 g9 s9 l9 F9 hl9 _ => ⟨a9, g9, [], rfl, l9, F9, hl9, ?_⟩)))
            rw [if_pos h2]; rfl
          · refine r_no (by simp; omega) (r_list (r_args_cons (r_name F8 n_part (r_args_nil (r_newL F8 (by simp) fun a9 g9 s9 l9 F9 hl9 _ => ⟨a9, g9, _, rfl, l9, F9, hl9, ?_⟩)))))
            rw [if_neg h2]; exact Trs.one ((hp.mono l27).mono l9)
        obtain ⟨a8, g8, v8s, rfl, l8, F8, hl8, hT8⟩ := q
        have hv8 : v8s.length ≤ 1 := by rw [hT8.length]; split <;> simp
        refine r_addL F8 (hl7.mono l8) hl8 (by rw [List.length_take]; omega) fun a9 g9 s9 l9 F9 hl9 _ => ?_
        refine r_slL0 (r_name F9 n_tree (wpAny_BinOp (r_name F9 n_k ?_)))
        refine wpAny_mono (Q := fun v s' => ∃ tt, v = .int ((if how = 1 then 0 else 1 : Nat) : Int) tt ∧ St c noX s g g9 s.heap.objs.size m4 s') ?_ (fun v10 s10 q => ?_) fun _ _ q => q
        case refine_1 =>
          refine wpAny_IfExp (wpAny_isTrue_Compare1 (r_name F9 n_how (r_int F9 fun t10 s10 F10 => r_eqI ?_)))
          by_cases h1 : how = 1
          · refine r_yes (by subst h1; rfl) (r_int F10 fun t11 s11 F11 => ⟨t11, ?_, F11⟩)
            rw [if_pos h1]; rfl
          · refine r_no (by simp; omega) (r_int F10 fun t11 s11 F11 => ⟨t11, ?_, F11⟩)
            rw [if_neg h1]; rfl
        obtain ⟨t10, rfl, F10⟩ := q
        refine r_addI F10 fun t10 s10 F10 => ?_
        have l29 : Le g g9 := fun b o e => l9 _ _ (l8 _ _ (l27 _ _ e))
        have hd1 : k + (if how = 1 then 0 else 1) ≤ vs.length := by
          rw [hvz]
          rcases hv with q | ⟨q1, q2⟩
          · split <;> omega
          · rw [if_pos q2]; omega
        refine ⟨a, vs, k + (if how = 1 then 0 else 1), _, t10, noX, s, g, g9, _, _, rfl, hl.mono l29, by omega, rfl, by push_cast; rfl, hd1, F10, fun a11 g11 s11 l11 F11 hl11 => ?_⟩
        refine r_addL F11 (hl9.mono l11) hl11 (by rw [List.length_append, List.length_take, List.length_drop]; omega) fun a12 g12 s12 l12 F12 hl12 _ => ?_
        refine h _ _ F12.ext ?_
        have l2c : Le g g12 := fun b o e => l12 _ _ (l11 _ _ (l29 _ _ e))
        have l8c : Le g8 g12 := fun b o e => l12 _ _ (l11 _ _ (l9 _ _ e))
        exact ⟨_, _, rfl, hl12.mono F12.le_end, ((((hTs.mono l2c).take k).append (hT8.mono l8c)).append ((hTs.mono l2c).drop _)).mono F12.le_end⟩
      | cons k2 w2 =>
        obtain ⟨hk', hv'⟩ := hv
        refine r_yesD (by simp [hrl]; omega) ?_
        obtain ⟨t', ht'⟩ : ∃ t', ts[k]? = some t' := ⟨_, List.getElem?_eq_getElem hk'⟩
        obtain ⟨v', hv'', hTv⟩ := hTs.get ht'
        have eg : ts.getD k (.leaf []) = t' := by rw [List.getD_eq_getElem?_getD, ht']; rfl
        refine wpAny_execs_cons (wpAny_Return_some (wpAny_BinOp (wpAny_BinOp (r_sl0L (r_name F6 n_tree (r_name F6 n_k ⟨a, vs, k, k, tk, noX, s, g, g2, _, _, rfl, hl.mono l2, by omega, rfl, rfl, F6, fun a7 g7 s7 l7 F7 hl7 => ?_⟩))))))
        have l27 : Le g g7 := fun b o e => l7 _ _ (l2 _ _ e)
        refine r_list (r_args_cons (r_call (r_global ok F7.fz hf.nm (r_with_def ok hf (r_args_cons (Subscript_ (r_name F7 n_tree (r_name F7 n_k (r_itemL (i := k) F7 (hl.mono l27) (by rfl) (by omega) hv'' (r_args_cons ?_))))))))))
        refine r_slL0 (r_name F7 n_way (r_int F7 fun t8 s8 F8 => ⟨wa, _, 1, _, t8, noX, s, g, g7, _, _, rfl, hwl.mono l27, by simp; omega, rfl, rfl, by simp, F8, fun a9 g9 s9 l9 F9 hl9 => ?_⟩))
        have l29 : Le g g9 := fun b o e => l9 _ _ (l27 _ _ e)
        refine r_args_cons (r_name F9 n_part (r_args_cons (r_name F9 n_how (r_args_nil ⟨fun b o q => F9.fz.le b o (F9.fz.base b o q), ?_⟩))))
        rw [eg] at hv'
        have hez2 := enc_mem ht'
        refine ih (t := t') hv' (hTv.mono l29) ⟨_, hl9, hwi⟩ (hp.mono l29) F9.fz (by simp only [depth_deeper]; simp at hroom; simp; omega) (by simp only [Around.deeper_units]; simp at hu; simp; omega) hh (by omega) fun r10 s10 P10 hr10 => ?_
        have l910 : Le g9 (grow g9 s9.heap.objs.size s10.heap) := le_grow (F9.stay P10).fz.le
        refine r_args_nil (r_newL (F9.pex P10) (by simp) fun a11 g11 s11 l11 F11 hl11 _ => ?_)
        refine r_addL F11 ((hl7.mono l9).mono fun b o e => l11 _ _ (l910 _ _ e)) hl11 (by rw [List.length_take]; simp; omega) fun a12 g12 s12 l12 F12 hl12 _ => ?_
        have l2c : Le g g12 := fun b o e => l12 _ _ (l11 _ _ (l910 _ _ (l29 _ _ e)))
        refine r_slL0 (r_name F12 n_tree (wpAny_BinOp (r_name F12 n_k (r_int F12 fun t13 s13 F13 => r_addI F13 fun t14 s14 F14 => ⟨a, vs, k + 1, _, t14, noX, s, g, g12, _, _, rfl, hl.mono l2c, by omega, rfl, by push_cast; rfl, by omega, F14, fun a15 g15 s15 l15 F15 hl15 => ?_⟩))))
        refine r_addL F15 (hl12.mono l15) hl15 (by rw [List.length_append, List.length_take, List.length_drop]; simp; omega) fun a16 g16 s16 l16 F16 hl16 _ => ?_
        refine h _ _ F16.ext ?_
        have l2d : Le g g16 := fun b o e => l16 _ _ (l15 _ _ (l2c _ _ e))
        have l10d : Le (grow g9 s9.heap.objs.size s10.heap) g16 := fun b o e => l16 _ _ (l15 _ _ (l12 _ _ (l11 _ _ e)))
        rw [ed]
        refine ⟨_, _, rfl, hl16.mono F16.le_end, ((((hTs.mono l2d).take k).append (Trs.one ?_)).append ((hTs.mono l2d).drop _)).mono F16.le_end⟩
        rw [eg]
        exact hr10.mono l10d
end
end Mine
end
section
open PySem PySem.Calls PySem.Spec PyProof.Rows PySem.W
open PySem.SeqAt
set_option maxRecDepth 100000
namespace Mine

section
variable {c : Cfg} {A : Around} {env : Env}

/-- a for statement over an iterator -/
theorem for_ok {R : Result → Shared → Prop} {target : Expr} {body orelse : List Stmt} {I n : Nat} {fp : List Addr} {P : Nat → Value → Prop} {Stt : Nat → Heap → Prop} {s : Shared} (W : Walks pw c.w A I fp [I] n P Stt) (J : Nat → Shared → Prop)
    (h0 : J 0 s) (hst : Stt 0 s.heap)
    (hJI : ∀ j s' h' tk, J j s' → (∀ b o, b ∉ [I] → s'.heap.get? b = some o → h'.get? b = some o) → J j { s' with heap := h', toks := tk })
    (turn : ∀ j v s₁, j < n → P j v → J j s₁ → Stt (j + 1) s₁.heap → wpAny c.M A (assign target env v) (fun _ s₂ => wpAny c.M A (execs body env) (fun f s₃ => match f with
          | .next | .cont => J (j + 1) s₃ ∧ Stt (j + 1) s₃.heap
          | .brk => R (.ok .next) s₃
          | .ret v => R (.ok (.ret v)) s₃) (notedBy c.M A env fun e s' => R (.error e) s') s₂) (notedBy c.M A env fun e s' => R (.error e) s') s₁)
    (fin : ∀ s₁, J n s₁ → wpAny c.M A (execs orelse env) (fun f s₃ => R (.ok f) s₃) (notedBy c.M A env fun e s' => R (.error e) s') s₁)
    (ht : ∀ v, letOwnedTupleGo target (.ref I) v = pure () := by intro _; rfl) :
    codeAny c.M A (.forLoop target (.ref I) body orelse env) R s := by
  refine codeAny_forLoop (fun k s' => ∃ j, k + j = n ∧ J j s' ∧ Stt j s'.heap) ?_ n ⟨0, rfl, h0, hst⟩ ht
  rintro k s' ⟨j, hk, hJ, hS⟩
  rcases Nat.eq_zero_or_pos k with rfl | hp
  · have : j = n := by omega
    subst this
    exact W.done s' _ _ hS fun h' tk hk' => fin _ (hJI _ _ _ _ hJ hk')
  · refine W.item j s' _ _ (by omega) hS fun v h' tk hP hS' hk' => ?_
    refine wpAny_mono (turn j v _ (by omega) hP (hJI _ _ _ _ hJ hk') hS') (fun _ s₂ h₂ => wpAny_mono h₂ (fun f s₃ h₃ => ?_) fun _ _ q => q) fun _ _ q => q
    cases f with
    | next => exact ⟨k - 1, by omega, j + 1, by omega, h₃⟩
    | cont => exact ⟨k - 1, by omega, j + 1, by omega, h₃⟩
    | brk => exact h₃
    | ret v => exact h₃
end

theorem encs_split (ts : List T) {k : Nat} {t : T} (h : ts[k]? = some t) : encs ts = encs (ts.take k) ++ (enc t ++ encs (ts.drop (k + 1))) := by
  have hk := (List.getElem?_eq_some_iff.mp h).1
  have e : ts = ts.take k ++ t :: ts.drop (k + 1) := by
    conv => lhs; rw [← List.take_append_drop k ts]
    rw [List.drop_eq_getElem_cons hk, (List.getElem?_eq_some_iff.mp h).2]
  conv => lhs; rw [e]
  rw [encs_append, encs]
theorem encs_take_le (ts : List T) (k : Nat) : (encs (ts.take k)).length ≤ (encs ts).length := by
  conv => rhs; rw [← List.take_append_drop k ts, encs_append]
  simp
theorem encs_take_succ (ts : List T) {k : Nat} {t : T} (h : ts[k]? = some t) : encs (ts.take (k + 1)) = encs (ts.take k) ++ enc t := by
  rw [List.take_add_one, h, encs_append]; simp [encs]

/-- what stands in place of the old -/
noncomputable def fresh (p : T) (how : Nat) (old : List UInt8) : List UInt8 := (if how = 2 then [] else enc p) ++ (if how = 1 then old else [])

theorem enc_ed_nil {p : T} {how k : Nat} {ts : List T} (hv : vld how [k] (.node ts)) : ∃ old post, encs ts = encs (ts.take k) ++ (old ++ post) ∧ ((∃ t, ts[k]? = some t ∧ old = enc t) ∨ (k = ts.length ∧ old = [] ∧ post = [])) ∧
    enc (ed p how [k] (.node ts)) = hd 192 (encs (ts.take k) ++ fresh p how old ++ post).length ++ (encs (ts.take k) ++ fresh p how old ++ post) := by
  by_cases hk : k < ts.length
  · obtain ⟨t, ht⟩ : ∃ t, ts[k]? = some t := ⟨_, List.getElem?_eq_getElem hk⟩
    refine ⟨enc t, encs (ts.drop (k + 1)), encs_split ts ht, .inl ⟨t, ht, rfl⟩, ?_⟩
    have e : encs (ts.take k ++ (if how = 2 then [] else [p]) ++ ts.drop (k + if how = 1 then 0 else 1)) = encs (ts.take k) ++ fresh p how (enc t) ++ encs (ts.drop (k + 1)) := by
      rw [encs_append, encs_append]
      unfold fresh
      by_cases h1 : how = 1
      · subst h1
        simp only [if_true, Nat.add_zero, show ¬ (1 = 2) by decide, if_false]
        have e2 : ts.drop k = t :: ts.drop (k + 1) := by rw [List.drop_eq_getElem_cons hk, (List.getElem?_eq_some_iff.mp ht).2]
        rw [e2]
        simp [encs]
      · simp only [h1, if_false, List.append_nil]
        split <;> simp [encs]
    rw [ed, enc, e]
  · rcases hv with q | ⟨q1, q2⟩
    · exact absurd q hk
    · subst q1 q2
      refine ⟨[], [], by simp, .inr ⟨rfl, rfl, rfl⟩, ?_⟩
      have e : encs (ts.take ts.length ++ (if 1 = 2 then [] else [p]) ++ ts.drop (ts.length + if 1 = 1 then 0 else 1)) = encs (ts.take ts.length) ++ fresh p 1 [] ++ [] := by
        simp [fresh, encs_append, encs]
      rw [ed, enc, e]
theorem enc_ed_cons {p : T} {how k k2 : Nat} {w : List Nat} {ts : List T} {t : T} (ht : ts[k]? = some t) :
    enc (ed p how (k :: k2 :: w) (.node ts)) = hd 192 (encs (ts.take k) ++ enc (ed p how (k2 :: w) t) ++ encs (ts.drop (k + 1))).length ++ (encs (ts.take k) ++ enc (ed p how (k2 :: w) t) ++ encs (ts.drop (k + 1))) := by
  have eg : ts.getD k (.leaf []) = t := by rw [List.getD_eq_getElem?_getD, ht]; rfl
  rw [ed, enc, encs_append, encs_append, eg]
  simp [encs]
end Mine
end
section
open PySem PySem.Calls PySem.Spec PyProof.Rows PySem.W
open PySem.SeqAt
set_option maxRecDepth 100000
namespace Mine

section
variable {c : Cfg} {X : Addr → Prop} {A : Around} {E : Value → Shared → Prop} {s₀ s : Shared} {g₀ g : Heap} {L f : Addr} {m : Str → Option Value} {env : Env}

theorem r_itemT {value slice : Expr} {a : Addr} {vs : List Value} {k : Int} {i : Nat} {u : Tok} {x : Value} {Q : Value → Shared → Prop} (F : St c X s₀ g₀ g L m s) (hl : Tp g a vs)
    (hk : k = i) (hi : i < 2 ^ 62) (hx : vs[i]? = some x) (h : Q x s)
    (hs : subscripted slice false (.ref a) (.int k u) = operate [.ref a, .int k u] (getItem (.ref a) (.int k u)) := by with_unfolding_all rfl) :
    wpAny c.M A (subscriptTail value slice (.ref a) (.int k u)) Q E s := by
  have ht := (hl.mono F.fz.le).isTup
  have hlt : i < vs.length := (List.getElem?_eq_some_iff.mp hx).1
  refine tail_any ht.typeIs slot_tuple_getitem.lookup (getItem_tuple ht (j := i) (by omega) (by omega) ?_ (by simpa using hx) h) hs
  subst hk
  unfold seqIndex?
  simp only [List.size_toArray]
  split <;> simp_all <;> omega

/-- the end of an item, out of the tuple that consume_item gives -/
theorem r_end {value slice : Expr} {t : T} {e : Nat} {a : Addr} {u : Tok} {Q : Value → Shared → Prop} (F : St c X s₀ g₀ g L m s) (hl : CP g t e a) (h : ∀ tk, Q (.int e tk) s)
    (hs : subscripted slice false (.ref a) (.int 2 u) = operate [.ref a, .int 2 u] (getItem (.ref a) (.int 2 u)) := by with_unfolding_all rfl) :
    wpAny c.M A (subscriptTail value slice (.ref a) (.int 2 u)) Q E s := by
  obtain ⟨v, w, tk, hT, _, _⟩ := hl
  exact r_itemT (i := 2) F hT (by rfl) (by decide) (by rfl) (h tk) hs

set_option maxHeartbeats 8000000 in
theorem spl_ok (ok : c.Ok) (hf : At c dSpl f) {p : T} {how : Nat} : ∀ (w : List Nat) {t : T} {pv : Value} {wa : Addr} {to th : Tok} {A : Around} {E : Value → Shared → Prop} {s : Shared} {g : Heap} {Q : Value → Shared → Prop}, vld how w t → Wy g w wa → Tr g p pv → Fz c g s →
      A.depth + w.length + ht t + 2 * ht p + 8 < recursionLimit → A.units + 3 * w.length + 10 < cLine → A.handled = none → (enc t).length ≤ 4000000 → (enc p).length ≤ 4000000 → (enc (ed p how w t)).length ≤ 4000000 →
      (∀ tk s', Pex c s s' → Q (.bytes (enc (ed p how w t)).toArray tk) s') → wpAny c.M A (call (.ref f) [.bytes (enc t).toArray to, .ref wa, pv, .int how th]) Q E s := by
  obtain ⟨fE, hE⟩ := ok.at_ (d := dEnc) (by rw [recs_eq]; simp)
  obtain ⟨fL, hL⟩ := ok.at_ (d := dClp) (by rw [recs_eq]; simp)
  obtain ⟨fC, hC⟩ := ok.at_ (d := dCit) (by rw [recs_eq]; simp)
  obtain ⟨fH, hH⟩ := ok.at_ (d := dHea) (by rw [recs_eq]; simp)
  intro w
  induction w with
  | nil =>
    intro t pv wa to th A E s g Q hv hw hp z hroom hu hh hz hzp hze h
    obtain ⟨ws, hwl, hwi⟩ := hw
    have hws : ws = [] := by cases hwi; rfl
    subst hws
    refine call_def (X := noX) (binds := [("octets", .bytes (enc t).toArray to), ("way", .ref wa), ("part", pv), ("how", .int how th)]) ok hf z (fun _ q => q.elim) (fun _ q => q.elim) (by omega) (fun _ _ _ => by rfl) (locs rfl) (fun cd s₁ _ F => ?_)
    refine wpAny_execs_cons (wpAny_If (wpAny_isTrue_Compare1 (r_name F (by rfl) (r_list (r_args_nil (r_newL F (by simp) fun a2 g2 s2 l2 F2 hl2 _ => r_eqNil F2 (hwl.mono l2) hl2 (by simp only [Around.deeper_units]; omega) (r_yes rfl ?_)))))))
    refine wpAny_execs_cons (wpAny_Return_some (r_call (r_global ok F2.fz hE.nm (r_with_def ok hE (r_args_cons (r_name F2 (by rfl) (r_args_nil ⟨fun b o q => F2.fz.le b o (F2.fz.base b o q), ?_⟩)))))))
    exact enc_ok ok hE (ht p) (Nat.le_refl _) (hp.mono l2) F2.fz (by simp only [depth_deeper]; omega) hh (by omega) fun tk s3 P3 => h _ _ (F2.ext.trans P3)
  | cons k w ih =>
    intro t pv wa to th A E s g Q hv hw hp z hroom hu hh hz hzp hze h
    cases t with
    | leaf b => cases w <;> exact hv.elim
    | node ts =>
      obtain ⟨tk, r, hwl, hwi⟩ := hw.cons
      have hrl : r.length = w.length := by rw [hwi.length, List.length_map]
      have hts : hts ts < ht (.node ts) := by rw [ht]; omega
      have hez : enc (.node ts) = hd 192 (encs ts).length ++ encs ts := by rw [enc]
      have hezl : (enc (.node ts)).length = (hd 192 (encs ts).length).length + (encs ts).length := by rw [hez, List.length_append]
      have hk : k ≤ ts.length := by
        cases w with
        | nil => rcases hv with q | q; omega; omega
        | cons k2 w2 => exact Nat.le_of_lt hv.1
      have htl := encs_len ts
      have hwz : w.length < 2000 := by simp [recursionLimit] at hroom; omega
      refine call_def (X := noX) (binds := [("octets", .bytes (enc (.node ts)).toArray to), ("way", .ref wa), ("part", pv), ("how", .int how th)]) ok hf z (fun _ q => q.elim) (fun _ q => q.elim) (by simp at hroom; omega) (fun _ _ _ => by rfl) (locs rfl) (fun cd s₁ _ F => ?_)
      refine wpAny_execs_cons (wpAny_If (wpAny_isTrue_Compare1 (r_name F (by rfl) (r_list (r_args_nil (r_newL F (by simp) fun a2 g2 s2 l2 F2 hl2 _ => r_eqNil F2 (hwl.mono l2) hl2 (by simp only [Around.deeper_units]; simp at hu; omega) (r_no rfl (wpAny_execs_nil ?_))))))))
      refine wpAny_execs_cons (Assign_Tuple (r_call (r_global ok F2.fz hL.nm (r_with_def ok hL (r_args_cons (r_name F2 (by rfl) (r_args_cons (r_int F2 fun t3 s3 F3 => r_args_nil ⟨fun b o q => F3.fz.le b o (F3.fz.base b o q), ?_⟩))))))))
      have hclp := clp_enc (pre := []) (post := []) (t := .node ts) (by simp only [pay]; omega)
      simp only [List.nil_append, List.append_nil, List.length_nil, Nat.zero_add] at hclp
      refine clp_ok (st := 0) ok hL F3.fz (by simp only [depth_deeper]; simp at hroom; omega) (by omega) hclp fun aT t4 t5 t6 t7 s4 P4 T4 => ?_
      have l4 : Le g2 (grow g2 s3.heap.objs.size s4.heap) := le_grow (F3.stay P4).fz.le
      refine r_unpack (F3.pex P4) hh T4 (by rfl) (by rfl) fun s5 F5 => r_into (r_store F5 fun s6 F6 => r_into (r_store F6 fun s7 F7 => r_into (r_store F7 fun s8 F8 => r_into (r_store F8 fun s9 F9 => assignInOrder_nil ?_))))
      clear F5 F6 F7 F8
      generalize grow g2 s3.heap.objs.size s4.heap = g9 at *
      refine wpAny_execs_cons (wpAny_Assign_Name (r_name F9 (by rfl) (r_store F9 fun s10 F10 => ?_)))
      have l10 : Le g g9 := fun b o e => l4 _ _ (l2 _ _ e)
      obtain ⟨m10, F10, n_oct, n_way, n_part, n_how, n_beg, n_pl⟩ : ∃ m10, St c noX s g g9 s.heap.objs.size m10 s10 ∧ m10 (Str.ofString "octets") = some (.bytes (enc (.node ts)).toArray to) ∧ m10 (Str.ofString "way") = some (.ref wa) ∧ m10 (Str.ofString "part") = some pv ∧ m10 (Str.ofString "how") = some (.int how th) ∧
          m10 (Str.ofString "begin") = some (.int ((pfx (.node ts)).length : Nat) t7) ∧ m10 (Str.ofString "place") = some (.int ((pfx (.node ts)).length : Nat) t7) := ⟨_, F10, by rfl, by rfl, by rfl, by rfl, by rfl, by rfl⟩
      have epf : pfx (.node ts) = hd 192 (encs ts).length := rfl
      rw [epf] at n_beg n_pl
      refine wpAny_execs_cons (wpAny_For ?_)
      refine r_call (r_builtin ok F10.fz (by rfl) (r_with_type (r_args_cons (Subscript_ (r_name F10 n_way (r_int F10 fun t11 s11 F11 => r_itemL (i := 0) F11 (hwl.mono l10) (by rfl) (by decide) (by rfl) (r_args_nil (r_range F11 (by omega) fun rr s12 F12 k12 _ hr12 => ?_))))))))
      obtain ⟨_, _, _, hr12⟩ := hr12
      refine r_iterR F12 hr12 (by omega) fun I fp Stt s13 Io F13 k13 _ => ?_
      refine for_ok (Io.W _ hh) (fun j s' => ∃ m' tp, St c noX s g g9 s.heap.objs.size m' s' ∧ m' (Str.ofString "octets") = some (.bytes (enc (.node ts)).toArray to) ∧ m' (Str.ofString "way") = some (.ref wa) ∧ m' (Str.ofString "part") = some pv ∧ m' (Str.ofString "how") = some (.int how th) ∧
          m' (Str.ofString "begin") = some (.int ((hd 192 (encs ts).length).length : Nat) t7) ∧ m' (Str.ofString "place") = some (.int ((hd 192 (encs ts).length).length + (encs (ts.take j)).length : Nat) tp))
        ⟨m10, t7, F13, n_oct, n_way, n_part, n_how, n_beg, by rw [List.take_zero, encs, List.length_nil, Nat.add_zero]; exact n_pl⟩ Io.st ?_ ?_ ?_
      · rintro j s' h' tk' ⟨m', tp, F', r⟩ hk'
        exact ⟨m', tp, F'.writeI Io.lo Io.neL Io.neC Io.neP Io.off hk', r⟩
      · rintro j v s14 hj ⟨tj, rfl⟩ ⟨m', tp, F', o1, o2, o3, o4, o5, o6⟩ hS
        obtain ⟨t', ht'⟩ : ∃ t', ts[j]? = some t' := ⟨_, List.getElem?_eq_getElem (by omega)⟩
        have FI := F'.put (.inl Io.lo) Io.neL Io.neP
        have hSg := Io.put hh hS
        refine wpAny_assign_Name (r_store FI fun s15 F15 => ?_)
        have hxj : enc (.node ts) = (hd 192 (encs ts).length ++ encs (ts.take j)) ++ (enc t' ++ encs (ts.drop (j + 1))) := by
          rw [hez, encs_split ts ht', List.append_assoc]
        have hpl : (hd 192 (encs ts).length).length + (encs (ts.take j)).length = (hd 192 (encs ts).length ++ encs (ts.take j)).length := by rw [List.length_append]
        have o6' := o6
        rw [hpl] at o6'
        refine wpAny_execs_cons (wpAny_Assign_Name (Subscript_ (r_call (r_global ok F15.fz hC.nm (r_with_def ok hC (r_args_cons (r_name F15 o1 (r_args_cons (r_name F15 o6' (r_args_nil ⟨fun b o q => F15.fz.le b o (F15.fz.base b o q), ?_⟩))))))))))
        refine cit_ok ok hC (t := t') F15.fz (by have := ht_mem (List.mem_of_getElem? ht'); simp only [depth_deeper]; simp at hroom; omega) hh hxj (by omega) fun a16 s16 P16 C16 => ?_
        refine r_int (F15.pex P16) fun t17 s17 F17 => r_end F17 C16 fun t18 => ?_
        have F17' := F17.less (g' := put g9 I s14.heap) (le_grow (F15.stay P16).fz.le) FI.fz.base
        refine r_store F17' fun s18 F18 => ?_
        have e6 : (hd 192 (encs ts).length ++ encs (ts.take j)).length + (enc t').length = (hd 192 (encs ts).length).length + (encs (ts.take (j + 1))).length := by rw [encs_take_succ ts ht', List.length_append, List.length_append]; omega
        rw [e6] at F18
        refine wpAny_execs_nil ⟨⟨_, _, F18.less (g' := g9) (le_put F'.fz.le) F'.fz.base, o1, o2, o3, o4, o5, by rfl⟩, (Io.W _ hh).frame _ _ _ hSg fun b _ o e => F18.fz.le b o e⟩
      · rintro s14 ⟨m', tp, F', o1, o2, o3, o4, o5, o6⟩
        refine wpAny_execs_nil ?_
        obtain ⟨old, post, es, hcase, F0, hF0, hfin⟩ : ∃ old post, encs ts = encs (ts.take k) ++ (old ++ post) ∧ ((∃ t', ts[k]? = some t' ∧ old = enc t') ∨ (k = ts.length ∧ old = [] ∧ post = [])) ∧
            ∃ F0, ((w = [] ∧ F0 = fresh p how old) ∨ (w ≠ [] ∧ ∃ t', ts[k]? = some t' ∧ vld how w t' ∧ old = enc t' ∧ F0 = enc (ed p how w t'))) ∧
              enc (ed p how (k :: w) (.node ts)) = hd 192 (encs (ts.take k) ++ F0 ++ post).length ++ (encs (ts.take k) ++ F0 ++ post) := by
          cases w with
          | nil =>
            obtain ⟨old, post, q1, q2, q3⟩ := enc_ed_nil (p := p) hv
            exact ⟨old, post, q1, q2, _, .inl ⟨rfl, rfl⟩, q3⟩
          | cons k2 w2 =>
            obtain ⟨t', ht'⟩ : ∃ t', ts[k]? = some t' := ⟨_, List.getElem?_eq_getElem hv.1⟩
            have eg : ts.getD k (.leaf []) = t' := by rw [List.getD_eq_getElem?_getD, ht']; rfl
            have hv2 := hv.2
            rw [eg] at hv2
            exact ⟨enc t', encs (ts.drop (k + 1)), encs_split ts ht', .inl ⟨t', ht', rfl⟩, _, .inr ⟨by simp, t', ht', hv2, rfl, rfl⟩, enc_ed_cons ht'⟩
        have hx : enc (.node ts) = hd 192 (encs ts).length ++ (encs (ts.take k) ++ (old ++ post)) := by rw [hez, ← es]
        have hlen : (encs ts).length = (encs (ts.take k)).length + (old.length + post.length) := by rw [es, List.length_append, List.length_append]
        have hinl : (encs (ts.take k) ++ F0 ++ post).length ≤ 4000000 := by rw [hfin, List.length_append] at hze; omega
        generalize hA0 : hd 192 (encs ts).length = A0 at *
        generalize hB0 : encs (ts.take k) = B0 at *
        generalize hxx : enc (.node ts) = xx at *
        have hxl : xx.length = A0.length + (B0.length + (old.length + post.length)) := by rw [hx]; simp
        -- end
        refine wpAny_execs_cons (wpAny_Assign_Name (wpAny_mono (Q := fun v s' => ∃ tk, v = .int ((A0.length + B0.length + old.length : Nat) : Int) tk ∧ St c noX s g g9 s.heap.objs.size m' s') ?_ (fun v s15 q => ?_) fun _ _ q => q))
        · refine wpAny_IfExp (wpAny_isTrue_Compare1 (r_name F' o6 (r_call (r_builtin ok F'.fz (by rfl) (r_with_builtin (r_args_cons (r_name F' o1 (r_args_nil (r_lenB F' (by omega) fun t15 s15 F15 => r_ltI ?_)))))))))
          rcases hcase with ⟨t', ht', eo⟩ | ⟨q1, q2, q3⟩
          · have e0 := enc_pos t'
            refine r_yesD (by rw [hxl, eo]; omega) ?_
            have hpl : A0.length + B0.length = (A0 ++ B0).length := by rw [List.length_append]
            have o6' := o6
            rw [hpl] at o6'
            refine Subscript_ (r_call (r_global ok F15.fz hC.nm (r_with_def ok hC (r_args_cons (r_name F15 o1 (r_args_cons (r_name F15 o6' (r_args_nil ⟨fun b o q => F15.fz.le b o (F15.fz.base b o q), ?_⟩))))))))
            refine cit_ok (post := post) ok hC (t := t') F15.fz (by have := ht_mem (List.mem_of_getElem? ht'); simp only [depth_deeper]; simp at hroom; omega) hh (by rw [hx, eo, List.append_assoc]) (by omega) fun a16 s16 P16 C16 => ?_
            refine r_int (F15.pex P16) fun t17 s17 F17 => r_end F17 C16 fun t18 => ⟨t18, ?_, F17.less (le_grow (F15.stay P16).fz.le) F'.fz.base⟩
            rw [hpl, eo]
          · refine r_noD (by rw [hxl, q2, q3]; simp) (r_name F15 o6 ⟨tp, ?_, F15⟩)
            rw [q2]; rfl
        obtain ⟨te, rfl, F15⟩ := q
        refine r_store F15 fun s16 F16 => ?_
        -- old
        refine wpAny_execs_cons (wpAny_Assign_Name (r_sl2 (r_name F16 o1 (r_name F16 o6 (r_name F16 (by rfl) ?_)))))
        refine ⟨xx, _, A0.length + B0.length, A0.length + B0.length + old.length, _, _, _, _, _, _, _, _, _, _, rfl, by omega, rfl, rfl, rfl, rfl, F16, fun t17 s17 F17 => r_store F17 fun s18 F18 => ?_⟩
        have hold : (xx.drop (A0.length + B0.length)).take (A0.length + B0.length + old.length - (A0.length + B0.length)) = old := by
          have e1 : xx = (A0 ++ B0) ++ (old ++ post) := by rw [hx]; simp
          rw [e1, ← List.length_append, List.drop_left, Nat.add_sub_cancel_left, List.take_left]
        rw [hold] at F18
        obtain ⟨m18, F18, n_oct, n_way, n_part, n_how, n_beg, n_pl, n_end, n_old⟩ : ∃ m18, St c noX s g g9 s.heap.objs.size m18 s18 ∧ m18 (Str.ofString "octets") = some (.bytes xx.toArray to) ∧ m18 (Str.ofString "way") = some (.ref wa) ∧ m18 (Str.ofString "part") = some pv ∧ m18 (Str.ofString "how") = some (.int how th) ∧
            m18 (Str.ofString "begin") = some (.int (A0.length : Nat) t7) ∧ m18 (Str.ofString "place") = some (.int (A0.length + B0.length : Nat) tp) ∧ m18 (Str.ofString "end") = some (.int (A0.length + B0.length + old.length : Nat) te) ∧ m18 (Str.ofString "old") = some (.bytes old.toArray t17) := ⟨_, F18, o1, o2, o3, o4, o5, o6, by rfl, by rfl⟩
        clear F' F15 F16 F17
        -- fresh
        refine wpAny_execs_cons (wpAny_mono (Q := fun fl s' => ∃ m', fl = .next ∧ St c noX s g g9 s.heap.objs.size m' s' ∧ m' (Str.ofString "octets") = some (.bytes xx.toArray to) ∧ m' (Str.ofString "begin") = some (.int (A0.length : Nat) t7) ∧ m' (Str.ofString "place") = some (.int (A0.length + B0.length : Nat) tp) ∧ m' (Str.ofString "end") = some (.int (A0.length + B0.length + old.length : Nat) te) ∧ ∃ tf, m' (Str.ofString "fresh") = some (.bytes F0.toArray tf)) ?_ (fun fl s19 q => ?_) fun _ _ q => q)
        · refine wpAny_If (wpAny_isTrue_Compare1 (r_call (r_builtin ok F18.fz (by rfl) (r_with_builtin (r_args_cons (r_name F18 n_way (r_args_nil (r_lenL F18 (hwl.mono l10) (by simp; omega) fun t19 s19 F19 => r_int F19 fun t20 s20 F20 => r_gtI ?_))))))))
          rcases hF0 with ⟨ew, eF⟩ | ⟨hw, t', ht', hv', eo, eF⟩
          · refine r_noD (by simp only [List.length_cons, hrl, ew, List.length_nil]; omega) ?_
            refine wpAny_execs_cons (wpAny_Assign_Name (wpAny_BinOp (wpAny_mono (Q := fun v s' => ∃ tk, v = .bytes (if how = 2 then [] else enc p).toArray tk ∧ St c noX s g g9 s.heap.objs.size m18 s') ?_ (fun v s21 q => ?_) fun _ _ q => q)))
            · refine wpAny_IfExp (wpAny_isTrue_Compare1 (r_name F20 n_how (r_int F20 fun t21 s21 F21 => r_eqI ?_)))
              by_cases h2 : how = 2
              · refine r_yes (by subst h2; rfl) (r_bytesC F21 fun t22 s22 F22 => ⟨t22, ?_, F22⟩)
                rw [if_pos h2]
              · refine r_no (by simp; omega) (r_call (r_global ok F21.fz hE.nm (r_with_def ok hE (r_args_cons (r_name F21 n_part (r_args_nil ⟨fun b o q => F21.fz.le b o (F21.fz.base b o q), ?_⟩))))))
                refine enc_ok ok hE (ht p) (Nat.le_refl _) (hp.mono l10) F21.fz (by simp only [depth_deeper]; simp at hroom; omega) hh (by omega) fun tk s3 P3 => ⟨tk, ?_, F21.stay P3⟩
                rw [if_neg h2]
            obtain ⟨t21, rfl, F21⟩ := q
            refine wpAny_mono (Q := fun v s' => ∃ tk, v = .bytes (if how = 1 then old else []).toArray tk ∧ St c noX s g g9 s.heap.objs.size m18 s') ?_ (fun v s22 q => ?_) fun _ _ q => q
            · refine wpAny_IfExp (wpAny_isTrue_Compare1 (r_name F21 n_how (r_int F21 fun t21 s21 F21 => r_eqI ?_)))
              by_cases h1 : how = 1
              · refine r_yes (by subst h1; rfl) (r_name F21 n_old ⟨t17, ?_, F21⟩)
                rw [if_pos h1]
              · refine r_no (by simp; omega) (r_bytesC F21 fun t22 s22 F22 => ⟨t22, ?_, F22⟩)
                rw [if_neg h1]
            obtain ⟨t22, rfl, F22⟩ := q
            have eF' : F0 = (if how = 2 then [] else enc p) ++ (if how = 1 then old else []) := eF
            have hF0l : F0.length ≤ 4000000 := by rw [List.length_append, List.length_append] at hinl; omega
            refine r_addB F22 (by rw [eF', List.length_append] at hF0l; omega) fun t23 s23 F23 => r_store F23 fun s24 F24 => wpAny_execs_nil ?_
            rw [← eF'] at F24
            exact ⟨_, rfl, F24, n_oct, n_beg, n_pl, n_end, t23, by rfl⟩
          · subst eo
            have hwp : 0 < w.length := List.length_pos_iff.mpr hw
            refine r_yesD (by simp only [List.length_cons, hrl]; omega) ?_
            refine wpAny_execs_cons (wpAny_Assign_Name (r_call (r_global ok F20.fz hf.nm (r_with_def ok hf (r_args_cons (r_name F20 n_old (r_args_cons ?_)))))))
            refine r_slL0 (r_name F20 n_way (r_int F20 fun t21 s21 F21 => ⟨wa, _, 1, _, t21, noX, s, g, g9, _, _, rfl, hwl.mono l10, by simp; omega, rfl, rfl, by simp, F21, fun a22 g22 s22 l22 F22 hl22 => ?_⟩))
            refine r_args_cons (r_name F22 n_part (r_args_cons (r_name F22 n_how (r_args_nil ⟨fun b o q => F22.fz.le b o (F22.fz.base b o q), ?_⟩))))
            have hez2 := enc_mem ht'
            have hF0l : F0.length ≤ 4000000 := by rw [List.length_append, List.length_append] at hinl; omega
            have hht := ht_mem (List.mem_of_getElem? ht')
            refine ih (t := t') hv' ⟨_, hl22, hwi⟩ ((hp.mono l10).mono l22) F22.fz (by simp only [depth_deeper]; simp at hroom; omega) (by simp only [Around.deeper_units]; simp at hu; omega) hh (by omega) hzp (by rw [← eF]; exact hF0l) fun tk s23 P23 => ?_
            have F23 := (F22.stay P23).less (g' := g9) l22 F18.fz.base
            refine r_store F23 fun s24 F24 => wpAny_execs_nil ?_
            rw [← eF] at F24
            exact ⟨_, rfl, F24, n_oct, n_beg, n_pl, n_end, tk, by rfl⟩
        obtain ⟨m19, rfl, F19, r1, r2, r3, r4, tf, r5⟩ := q
        have hF0l : F0.length ≤ 4000000 := by rw [List.length_append, List.length_append] at hinl; omega
        refine wpAny_execs_cons (wpAny_Assign_Name (wpAny_BinOp (wpAny_BinOp (r_sl2 (r_name F19 r1 (r_name F19 r2 (r_name F19 r3 ?_)))))))
        refine ⟨xx, _, A0.length, A0.length + B0.length, _, _, _, _, _, _, _, _, _, _, rfl, by omega, rfl, rfl, rfl, rfl, F19, fun t20 s20 F20 => r_name F20 r5 (r_addB F20 ?_ fun t21 s21 F21 => ?_)⟩
        · rw [List.length_take, List.length_drop]; omega
        have hB : (xx.drop A0.length).take (A0.length + B0.length - A0.length) = B0 := by
          rw [hx, List.drop_left, Nat.add_sub_cancel_left, List.take_left]
        rw [hB]
        refine r_sliceB (r_name F21 r1 (wpAny_evalPart_some (r_name F21 r4 (wpAny_evalPart_none ?_))))
        refine ⟨xx, _, some ((A0.length + B0.length + old.length : Nat) : Int), none, _, _, _, _, _, _, rfl, by omega, .int _ _, .none, F21, fun t22 s22 F22 => ?_⟩
        have hP : slc xx (some ((A0.length + B0.length + old.length : Nat) : Int)) none = post := by
          rw [slc_n0]
          have e1 : xx = (A0 ++ (B0 ++ old)) ++ post := by rw [hx]; simp
          have e2 : A0.length + B0.length + old.length = (A0 ++ (B0 ++ old)).length := by simp; omega
          rw [e2, e1, List.drop_left]
        rw [hP]
        refine r_addB F22 (by simp only [List.length_append] at hinl ⊢; omega) fun t23 s23 F23 => r_store F23 fun s24 F24 => ?_
        refine wpAny_execs_cons (wpAny_Return_some (wpAny_BinOp (r_call (r_global ok F24.fz hH.nm (r_with_def ok hH (r_args_cons (r_call (r_builtin ok F24.fz (by rfl) (r_with_builtin (r_args_cons (r_name F24 (by rfl) (r_args_nil (r_lenB F24 (by omega) fun t25 s25 F25 => r_args_nil ⟨fun b o q => F25.fz.le b o (F25.fz.base b o q), ?_⟩)))))))))))))
        refine hea_ok ok hH F25.fz (by simp only [depth_deeper]; simp at hroom; omega) hh (by omega) fun t26 s26 P26 => ?_
        refine r_name (F25.pex P26) (by rfl) (r_addB (F25.pex P26) (by have := hd_len 192 (B0 ++ F0 ++ post).length (by omega); omega) fun t27 s27 F27 => ?_)
        rw [← hfin]
        exact h _ _ F27.ext
end
end Mine
end
section
open PySem PySem.Calls PySem.Spec PyProof.Rows PySem.W
open PySem.SeqAt
set_option maxRecDepth 100000
namespace Mine

def envC (d : DefRec) (L f : Addr) (cd : Value) : Env :=
  { scope := d.scope, locals := L, globals := mainGlobals, cells := cellsFrom (L + 1) d.scope.names [], qual := d.name ++ ".<locals>.", func := some f, code := cd, frame := some L, builtins := builtinsNs }

theorem St.freeze {c : Cfg} {X : Addr → Prop} {s₀ s : Shared} {g₀ g : Heap} {L : Addr} {m : Str → Option Value} (F : St c X s₀ g₀ g L m s) {n : Nat} (hL : L < n) (hP : c.eP < n) : St c X s₀ g₀ (Mine.grow g n s.heap) L m s where
  ns := F.ns
  fz := ⟨grow_le, fun b o e => le_grow F.fz.le b o (F.fz.base b o e), grow_none F.fz.off hP, F.fz.tab⟩
  offL := grow_none F.offL hL
  lo := F.lo
  ext := F.ext
  sub := fun b o h => by
    rcases grow_sub h with q | q
    · obtain ⟨o', q⟩ := Option.isSome_iff_exists.mp q; exact F.sub b o' q
    · exact .inr (.inl (Nat.le_trans F.lo (Nat.le_of_lt (Nat.lt_of_lt_of_le hL q))))
  ltX := F.ltX

section
variable {c : Cfg} {A : Around} {E : Value → Shared → Prop} {s : Shared} {g : Heap}

/-- a call of a def that has cells -/
theorem call_cells {d : DefRec} {f : Addr} {X : Addr → Prop} {vs : List Value} {binds : List (Str × Value)} {Q : Value → Shared → Prop} (ok : c.Ok) (hf : At c d f) (z : Fz c g s)
    (hX : ∀ b, X b → g.get? b = none) (hXl : ∀ b, X b → b < s.heap.objs.size) (hroom : A.depth < recursionLimit)
    (hbind : ∀ pm code doc, bindArgs (docDef d.name d.params d.body d.scope pm code doc) ⟨vs, []⟩ = pure binds)
    (hkind : ∀ n, ∀ x ∈ binds, d.scope.names.lookup x.1 = some .local ∨ (d.scope.names.lookup x.1 = some .cell ∧ ((cellsFrom n d.scope.names []).lookup x.1).isSome = true))
    (h : ∀ cd s₁, St c X s g g s.heap.objs.size (bindL (envC d s.heap.objs.size f cd).kindOf binds fun _ => none) s₁ → (∀ b o, s.heap.get? b = some o → s₁.heap.get? b = some o) →
      (∀ n ca, (cellsFrom (s.heap.objs.size + 1) d.scope.names []).lookup n = some ca → s₁.heap.IsCell ca (bindC (envC d s.heap.objs.size f cd).kindOf binds (fun _ => none) n) ∧ s.heap.objs.size < ca) →
      wpAny c.M (A.deeper (envC d s.heap.objs.size f cd)) (execs d.body (envC d s.heap.objs.size f cd))
        (fun fl s' => Q (match fl with | .ret v => v | _ => .none) s') (fun _ _ => False) s₁)
    (hco : d.scope.isCoroutine = false := by rfl) (hgen : d.scope.isGenerator = false := by rfl) (hk : d.scope.kind = .function := by rfl) : wpAny c.M A (call (.ref f) vs) Q E s := by
  obtain ⟨a, o, pm, code, doc, h1, h2, h3, h4, h5⟩ := ok.fn d hf.mem
  have e : a = f := by have := hf.nm; rw [h1] at this; cases this; rfl
  subst e
  have hle : ∀ b o, c.G.get? b = some o → s.heap.get? b = some o := fun b o q => z.le b o (z.base b o q)
  refine wpAny_call (codeAny_call_cells (fd := docDef d.name d.params d.body d.scope pm code doc) (body := d.body) (binds := binds) hroom (hle _ _ h2) h3 (ok.lim.keeps hle) (h4.keeps hle) rfl (hbind pm code doc) rfl (hkind _) (fun s₁ x => ?_) hco hgen hk)
  have ee : callEnvC (docDef d.name d.params d.body d.scope pm code doc) s.heap.objs.size a = envC d s.heap.objs.size a code := rfl
  rw [ee] at x ⊢
  obtain ⟨h₁, tk, rfl⟩ := x.toInCall.same
  have hz : s.heap.objs.size ≤ h₁.objs.size := Nat.le_of_lt x.toInCall.ns.lt
  have hx : Ext c X s { s with heap := h₁, toks := tk } := Ext.of_heap x.toInCall.keep hz
  refine wpAny_mono (h code _ ⟨x.toInCall.ns, z.ext hx hX, get_none_of_ge z.le (Nat.le_refl _), Nat.le_refl _, hx, fun b o q => .inl (by rw [q]; rfl), hXl⟩ x.toInCall.keep fun n ca hc => ⟨x.cell n ca hc, x.above n ca (mem_of_lookup hc)⟩) (fun _ _ q => q) fun _ _ q => q.elim
end

section
variable {c : Cfg} {X : Addr → Prop} {A : Around} {E : Value → Shared → Prop} {s₀ s : Shared} {g₀ g : Heap} {L : Addr} {m : Str → Option Value} {env : Env}

/-- a frozen cell -/
def Cl (g : Heap) (ca : Addr) (v : Value) : Prop := g.IsCell ca (some v)
theorem Cl.mono {g h : Heap} {ca : Addr} {v : Value} (x : Cl g ca v) (hl : Le g h) : Cl h ca v := let ⟨o, e, r⟩ := x; ⟨o, hl _ _ e, r⟩
theorem r_cell {x : Str} {pos : Pos} {ca : Addr} {v : Value} {Q : Value → Shared → Prop} (F : Fz c g s) (hv : Cl g ca v) (hc : env.cells.lookup x = some ca) (h : Q v s)
    (hk : env.scope.kind = .function := by rfl) (hl : env.kindOf x = some .cell := by rfl) (hd : (x == ("__debug__" : Str)) = false := by decide) :
    wpAny c.M A (eval (.Name x pos) env) Q E s := wpAny_Name (wpAny_loadName_cell hk hl hc (hv.mono F.le) h) hd
end
end Mine
end
section
namespace Mine
/-- the trees that are drawn -/
noncomputable def Bd : Nat → T → Prop
  | _, .leaf b => b.length ≤ 57
  | 0, .node _ => False
  | n + 1, .node ts => ts.length ≤ 4 ∧ ∀ t ∈ ts, Bd n t
theorem Bd.ht {n : Nat} : ∀ {t : T}, Bd n t → Mine.ht t ≤ n := by
  induction n with
  | zero => intro t h; cases t with
    | leaf b => simp [Mine.ht]
    | node ts => exact h.elim
  | succ n ih => intro t h; cases t with
    | leaf b => simp [Mine.ht]
    | node ts =>
      have : ∀ us : List T, (∀ t ∈ us, Bd n t) → hts us ≤ n := by
        intro us
        induction us with
        | nil => intro _; simp [hts]
        | cons u us ihu => intro hu; rw [hts]; have := ih (hu u (List.mem_cons_self ..)); have := ihu fun t ht => hu t (List.mem_cons_of_mem _ ht); omega
      rw [Mine.ht]; have := this ts h.2; omega
theorem Bd.mono {n m : Nat} (hm : n ≤ m) : ∀ {t : T}, Bd n t → Bd m t := by
  induction n generalizing m with
  | zero => intro t h; cases t with
    | leaf b => cases m <;> exact h
    | node ts => exact h.elim
  | succ n ih => intro t h; cases m with
    | zero => omega
    | succ m => cases t with
      | leaf b => exact h
      | node ts => exact ⟨h.1, fun t ht => ih (by omega) (h.2 t ht)⟩
noncomputable def cap : Nat → Nat
  | 0 => 66
  | n + 1 => 9 + 4 * cap n
theorem cap_ge (n : Nat) : 66 ≤ cap n := by induction n with
  | zero => exact Nat.le_refl _
  | succ n ih => simp only [cap]; omega
theorem encs_cap {B : Nat} (ts : List T) (h : ∀ t ∈ ts, (enc t).length ≤ B) : (encs ts).length ≤ ts.length * B := by
  induction ts with
  | nil => simp [encs]
  | cons u us ih =>
    rw [encs, List.length_append, List.length_cons, Nat.succ_mul]
    have := h u (List.mem_cons_self ..)
    have := ih fun t ht => h t (List.mem_cons_of_mem _ ht)
    omega
theorem Bd.enc {n : Nat} : ∀ {t : T}, Bd n t → n ≤ 8 → (Mine.enc t).length ≤ cap n := by
  have leaf : ∀ b : List UInt8, b.length ≤ 57 → (Mine.enc (.leaf b)).length ≤ 66 := by
    intro b hb
    rw [Mine.enc]
    split
    · omega
    · have := hd_len 128 b.length (by omega); rw [List.length_append]; omega
  induction n with
  | zero => intro t h _; cases t with
    | leaf b => exact leaf b h
    | node ts => exact h.elim
  | succ n ih => intro t h hn; cases t with
    | leaf b => exact Nat.le_trans (leaf b h) (cap_ge _)
    | node ts =>
      have h1 := encs_cap ts fun t ht => ih (h.2 t ht) (by omega)
      have h2 : ts.length * cap n ≤ 4 * cap n := Nat.mul_le_mul_right _ h.1
      have h3 : cap n ≤ cap 8 := by
        have mono : ∀ k m, k ≤ m → cap k ≤ cap m := by
          intro k m hkm
          induction m with
          | zero => have : k = 0 := by omega
                    subst this; exact Nat.le_refl _
          | succ m ihm =>
            rcases Nat.lt_or_ge k (m + 1) with q | q
            · have := ihm (by omega); simp only [cap]; omega
            · have : k = m + 1 := by omega
              subst this; exact Nat.le_refl _
        exact mono _ _ (by omega)
      have h4 : cap 8 ≤ 10000000 := by decide
      have h5 : 4 * cap n < 2 ^ 60 := by omega
      rw [Mine.enc, List.length_append]
      have := hd_len 192 (encs ts).length (by omega)
      simp only [cap]; omega
end Mine
end
section
open PySem PySem.Calls PySem.Spec PyProof.Rows PySem.W
open PySem.SeqAt
set_option maxRecDepth 100000
namespace Mine

section
variable {c : Cfg} {X : Addr → Prop} {A : Around} {E : Value → Shared → Prop} {s₀ s : Shared} {g₀ g : Heap} {L f : Addr} {m : Str → Option Value} {env : Env}

/-- the state of the draws, frozen for a while -/
theorem St.withS (F : St c X s₀ g₀ g L m s) {st scr : Addr} (hS : Sta s.heap st scr) (hX : X st) : ∃ G, Le g G ∧ St c X s₀ g₀ G L m s ∧ (∀ s', Fz c G s' → Sta s'.heap st scr) ∧ (∀ b, b ≠ st → g.get? b = none → G.get? b = none) := by
  obtain ⟨k, t, hl⟩ := hS
  obtain ⟨ps, tt⟩ := F.fz.tab
  have F1 := F.put (.inr hX) (hl.ne_L F) (hl.ne_code tt).2
  exact ⟨_, le_put F.fz.le, F1, fun s' z => ⟨k, t, (Ls.put hl).mono z.le⟩, fun b hb q => put_none q hb⟩

/-- what a draw of a tree does -/
structure TreC (c : Cfg) (f st scr : Addr) (n : Nat) : Prop where
  go : ∀ {td : Tok} {A : Around} {E : Value → Shared → Prop} {s : Shared} {g : Heap} {Q : Value → Shared → Prop}, Fz c g s → A.depth + n + 2 < recursionLimit → A.handled = none →
      g.get? st = none → Sta s.heap st scr → Scr g scr →
      (∀ t v s', Ext c (· = st) s s' → Sta s'.heap st scr → Bd n t → Tr (grow g s.heap.objs.size s'.heap) t v → Q v s') →
      wpAny c.M A (call (.ref f) [.ref st, .int n td]) Q E s

theorem Cl.new {g h : Heap} {n ca : Addr} {v : Option Value} (x : h.IsCell ca v) (hn : n ≤ ca) : (grow g n h).IsCell ca v := let ⟨o, e, r⟩ := x; ⟨o, by rw [grow_new hn]; exact e, r⟩

set_option maxHeartbeats 8000000 in
theorem tre_step (ok : c.Ok) (hf : At c dTre f) {st scr : Addr} {n : Nat} (ih : ∀ m, n = m + 1 → TreC c f st scr m) : TreC c f st scr n := by
  obtain ⟨fN, hN⟩ := ok.at_ (d := dNxt) (by rw [recs_eq]; simp)
  refine ⟨fun {td A E s g Q} z hroom hh hst hS hsc h => ?_⟩
  have hstl : st < s.heap.objs.size := let ⟨_, _, x⟩ := hS; x.lt
  refine call_cells (X := (· = st)) (binds := [("state", .ref st), ("deep", .int n td)]) ok hf z (fun b q => by subst q; exact hst) (fun b q => by subst q; exact hstl) (by omega) (fun _ _ _ => by rfl) (fun k x hx => ?_) (fun cd s₁ F kp hcell => ?_)
  · right
    rcases List.mem_cons.mp hx with rfl | hx
    · exact ⟨by rfl, by rfl⟩
    · rcases List.mem_cons.mp hx with rfl | hx
      · exact ⟨by rfl, by rfl⟩
      · cases hx
  obtain ⟨ps, tt⟩ := z.tab
  have c1 : s₁.heap.IsCell (s.heap.objs.size + 1) (some (.ref st)) := (hcell (Str.ofString "state") (s.heap.objs.size + 1) (by rfl)).1
  have c2 : s₁.heap.IsCell (s.heap.objs.size + 2) (some (.int n td)) := (hcell (Str.ofString "deep") (s.heap.objs.size + 2) (by rfl)).1
  have F1 := F.freeze (n := s.heap.objs.size + 1) (Nat.lt_succ_self _) (Nat.lt_succ_of_lt tt.lt.2)
  have d1 : Cl (Mine.grow g (s.heap.objs.size + 1) s₁.heap) (s.heap.objs.size + 1) (.ref st) := Cl.new c1 (Nat.le_refl _)
  have d2 : Cl (Mine.grow g (s.heap.objs.size + 1) s₁.heap) (s.heap.objs.size + 2) (.int n td) := Cl.new c2 (Nat.le_succ _)
  have hst1 : (Mine.grow g (s.heap.objs.size + 1) s₁.heap).get? st = none := grow_none hst (Nat.lt_succ_of_lt hstl)
  have lg1 : Le g (Mine.grow g (s.heap.objs.size + 1) s₁.heap) := le_grow F.fz.le
  have hS1 : Sta s₁.heap st scr := let ⟨k, t, o, e, r⟩ := hS; ⟨k, t, o, kp _ _ e, r⟩
  generalize Mine.grow g (s.heap.objs.size + 1) s₁.heap = g1 at *
  generalize hm1 : bindL (envC dTre s.heap.objs.size f cd).kindOf [(Str.ofString "state", Value.ref st), (Str.ofString "deep", Value.int (↑n) td)] (fun _ => none) = m1 at *
  have hX1 : ∀ {G : Heap}, G.get? st = none → ∀ b, b = st → G.get? b = none := fun q b e => by subst e; exact q
  -- pick
  obtain ⟨G1, lG1, F1', hS1', _⟩ := F1.withS hS1 rfl
  refine wpAny_execs_cons (wpAny_Assign_Name (r_call (r_global ok F1'.fz hN.nm (r_with_def ok hN (r_args_cons (r_cell (ca := s.heap.objs.size + 1) F1'.fz (d1.mono lG1) (by rfl) (r_args_cons (r_int F1' fun t2 s2 F2 => r_args_nil ⟨fun b o q => F2.fz.le b o (F2.fz.base b o q), ?_⟩))))))))
  have F2b := F2.less lG1 F1.fz.base
  refine nxt_ok (lim := 6) ok hN F2b.fz (by simp only [depth_deeper]; omega) hst1 (hS1' _ F2.fz) (hsc.mono lg1) (by decide) fun pick tp s3 hpick X3 hS3 => ?_
  have F3 := F2b.grow X3 (hX1 hst1)
  have l13 : Le g1 (Mine.grow g1 s2.heap.objs.size s3.heap) := le_grow (F2b.fz.ext X3 (hX1 hst1)).le
  have hst3 : (Mine.grow g1 s2.heap.objs.size s3.heap).get? st = none := grow_none hst1 (Nat.lt_of_lt_of_le hstl F2b.ext.size)
  generalize Mine.grow g1 s2.heap.objs.size s3.heap = g3 at *
  obtain ⟨G3, lG3, F3', hS3', _⟩ := F3.withS hS3 rfl
  refine r_store F3' fun s4 F4 => ?_
  have lg3 : Le g g3 := fun b o e => l13 _ _ (lg1 _ _ e)
  have l1G3 : Le g1 G3 := fun b o e => lG3 _ _ (l13 _ _ e)
  obtain ⟨m4, F4, n_pick⟩ : ∃ m4, St c (· = st) s g G3 s.heap.objs.size m4 s4 ∧ m4 (Str.ofString "pick") = some (.int (pick : Nat) tp) := ⟨_, F4, by rfl⟩
  have hd3 : decide ((pick : Int) < 3) = decide (pick < 3) := by
    by_cases q : pick < 3
    · rw [decide_eq_true q, decide_eq_true (by omega)]
    · rw [decide_eq_false q, decide_eq_false (by omega)]
  refine wpAny_execs_cons (wpAny_If (wpAny_mono (Q := fun v s' => v = (decide (pick < 3) && decide (0 < n)) ∧ St c (· = st) s g G3 s.heap.objs.size m4 s') ?_ (fun v s5 q => ?_) (fun _ _ q => q)))
  · refine wpAny_isTrue_BoolOp (wpAny_allTrue_And_cons (wpAny_isTrue_Compare1 (r_name F4 n_pick (r_int F4 fun t5 s5 F5 => r_ltI ?_))))
    by_cases q3 : pick < 3
    · refine r_yesD (by omega) (wpAny_allTrue_And_cons (wpAny_isTrue_Compare1 (r_cell (ca := s.heap.objs.size + 2) F5.fz (d2.mono l1G3) (by rfl) (r_int F5 fun t6 s6 F6 => r_gtI ?_))))
      by_cases q0 : 0 < n
      · exact r_yesD (by omega) (wpAny_allTrue_And_nil ⟨by rw [decide_eq_true q3, decide_eq_true q0]; rfl, F6⟩)
      · exact r_noD (by omega) ⟨by rw [decide_eq_true q3, decide_eq_false q0]; rfl, F6⟩
    · exact r_noD (by omega) ⟨by rw [decide_eq_false q3]; rfl, F5⟩
  obtain ⟨rfl, F5⟩ := q
  by_cases hcond : (decide (pick < 3) && decide (0 < n)) = true
  · rw [if_pos hcond]
    obtain ⟨k, rfl⟩ : ∃ k, n = k + 1 := ⟨n - 1, by simp at hcond; omega⟩
    refine wpAny_execs_cons (wpAny_Return_some ?_)
    refine comp_ok (X := (· = st)) (s₀ := s) (g₀ := g) (m := m4) (cl := [(Str.ofString "state", s.heap.objs.size + 1), (Str.ofString "deep", s.heap.objs.size + 2)]) (fun j ys g' h' => (∃ ts, ts.length = j ∧ (∀ t ∈ ts, Bd k t) ∧ Trs g' ts ys) ∧ Sta h' st scr) (by rfl) (by decide) (by rfl) (by decide) (by rfl) hh (hX1 hst) ?_
    refine r_call (r_builtin ok F5.fz (by rfl) (r_with_type (r_args_cons (r_call (r_global ok F5.fz hN.nm (r_with_def ok hN (r_args_cons (r_cell (ca := s.heap.objs.size + 1) F5.fz (d1.mono l1G3) (by rfl) (r_args_cons (r_int F5 fun t6 s6 F6 => r_args_nil ⟨fun b o q => F6.fz.le b o (F6.fz.base b o q), ?_⟩))))))))))
    have F6b := F6.less lG3 F3.fz.base
    refine nxt_ok (lim := 5) ok hN F6b.fz (by simp only [depth_deeper]; omega) hst3 (hS3' _ F6.fz) (hsc.mono lg3) (by decide) fun wide tw s7 hwide X7 hS7 => ?_
    have F7 := F6b.grow X7 (hX1 hst3)
    have l37 : Le g3 (Mine.grow g3 s6.heap.objs.size s7.heap) := le_grow (F6b.fz.ext X7 (hX1 hst3)).le
    have hst7 : (Mine.grow g3 s6.heap.objs.size s7.heap).get? st = none := grow_none hst3 (Nat.lt_of_lt_of_le hstl F6b.ext.size)
    generalize Mine.grow g3 s6.heap.objs.size s7.heap = g7 at *
    have staK : ∀ {h h' : Heap}, Sta h st scr → (∀ o, h.get? st = some o → h'.get? st = some o) → Sta h' st scr := fun ⟨k, t, o, e, r⟩ kk => ⟨k, t, o, kk _ e, r⟩
    refine r_args_nil (r_range F7 (by omega) fun rr s8 F8 k8 _ hr8 => ?_)
    obtain ⟨_, _, _, hr8⟩ := hr8
    refine r_iterR F8 hr8 (by omega) fun I fp Stt s9 Io F9 k9 _ => ?_
    refine ⟨g7, I, wide, _, fp, Stt, rfl, Io, by omega, hX1 hst7, F9, ⟨⟨[], rfl, by simp, rfl⟩, staK (staK hS7 fun o e => k8 _ _ e) fun o e => k9 _ _ e⟩, ?_, ?_, ?_⟩
    · rintro j ys gg hh' gg' hh'' ⟨⟨ts, q1, q2, q3⟩, q4⟩ hle hk
      exact ⟨⟨ts, q1, q2, q3.mono hle⟩, staK q4 fun o e => hk _ _ (Nat.lt_of_lt_of_le hstl Io.lo) (Nat.ne_of_lt hstl) e⟩
    · rintro B j ys v g' s10 C mC hB hBd ⟨⟨ts, q1, q2, q3⟩, q4⟩ hle hP hj F10 hX10 hnC hmx
      have lg7 : Le g g7 := fun b o e => l37 _ _ (lg3 _ _ e)
      have l1g' : Le g1 g' := fun b o e => hle _ _ (l37 _ _ (l13 _ _ e))
      refine r_call (r_global (env := compEnvC _ _ _ _) ok F10.fz hf.nm (r_with_def ok hf (r_args_cons (r_cell (ca := s.heap.objs.size + 1) F10.fz (d1.mono l1g') (by rfl) (r_args_cons (wpAny_BinOp (r_cell (ca := s.heap.objs.size + 2) F10.fz (d2.mono l1g') (by rfl) (wpAny_Constant_int (PyProof.Rows.sub_int (r_args_nil ⟨fun b o q => F10.fz.le b o (F10.fz.base b o q), ?_⟩))))))))))
      have ek : ((k + 1 : Nat) : Int) - 1 = (k : Int) := by omega
      rw [ek]
      refine (ih k rfl).go (F10.toks _).fz (by rw [hBd]; simp only [depth_deeper]; omega) hB (hX10 st rfl) q4 ((hsc.mono lg7).mono hle) fun t v s11 X11 hS11 hB11 hT11 => ⟨Ext.trans (Ext.toks) X11, ⟨ts ++ [t], by simp [q1], ?_, ?_⟩, hS11⟩
      · intro u hu
        rcases List.mem_append.mp hu with hu | hu
        · exact q2 u hu
        · rw [List.mem_singleton] at hu; subst hu; exact hB11
      · exact (q3.mono (le_grow ((F10.toks _).fz.ext X11 hX10).le)).append (Trs.one hT11)
    · rintro D ys g' s10 ⟨⟨ts, q1, q2, q3⟩, q4⟩ hle hX10 F10 hD _
      refine h (.node ts) _ _ F10.ext q4 ⟨by omega, q2⟩ ⟨_, _, rfl, hD.mono (F10.le_end hX10), q3.mono (F10.le_end hX10)⟩
  · rw [if_neg hcond]
    refine wpAny_execs_nil ?_
    refine wpAny_execs_cons (wpAny_Assign_Name (Subscript_ (r_list (r_args_cons (r_int F5 fun t6 s6 F6 => r_args_cons (r_int F6 fun t7 s7 F7 => r_args_cons (r_int F7 fun t8 s8 F8 => r_args_cons (r_int F8 fun t9 s9 F9 => r_args_nil ?_))))))))
    clear F5 F6 F7 F8
    have F9b := F9.less lG3 F3.fz.base
    have staK : ∀ {h h' : Heap}, Sta h st scr → (∀ o, h.get? st = some o → h'.get? st = some o) → Sta h' st scr := fun ⟨k, t, o, e, r⟩ kk => ⟨k, t, o, kk _ e, r⟩
    refine r_newO F9b (by simp) fun a s10 F10 e10 o10 lo10 _ k10 => ?_
    have hS10 : Sta s10.heap st scr := staK (hS3' _ F9.fz) fun o e => k10 _ _ e
    have F10p := F10.put (.inl lo10) (lobj_neL e10 F10) (let ⟨_, tt⟩ := F10.fz.tab; (lobj_ne e10 tt).2)
    have hl10 : Ls (put g3 a s10.heap) a [.int 7 t6, .int 128 t7, .int 200 t8, .int 0 t9] := ⟨_, by rw [put_self]; exact e10, rfl, 0, rfl⟩
    have hst10 : (put g3 a s10.heap).get? st = none := put_none hst3 (fun e => by subst e; exact absurd hstl (Nat.not_lt.mpr lo10))
    have l3A : Le g3 (put g3 a s10.heap) := le_put F10.fz.le
    generalize put g3 a s10.heap = g10 at *
    have l1A : Le g1 g10 := fun b o e => l3A _ _ (l13 _ _ e)
    obtain ⟨G10, lG10, F10', hS10', _⟩ := F10p.withS hS10 rfl
    refine r_call (r_global ok F10'.fz hN.nm (r_with_def ok hN (r_args_cons (r_cell (ca := s.heap.objs.size + 1) F10'.fz (d1.mono fun b o e => lG10 _ _ (l1A _ _ e)) (by rfl) (r_args_cons (r_int F10' fun t11 s11 F11 => r_args_nil ⟨fun b o q => F11.fz.le b o (F11.fz.base b o q), ?_⟩))))))
    have F11b := F11.less lG10 F10p.fz.base
    refine nxt_ok (lim := 4) ok hN F11b.fz (by simp only [depth_deeper]; omega) hst10 (hS10' _ F11.fz) ((hsc.mono lg3).mono l3A) (by decide) fun isg tsg s12 hisg X12 hS12 => ?_
    have F12 := F11b.grow X12 (hX1 hst10)
    have l12 : Le g10 (Mine.grow g10 s11.heap.objs.size s12.heap) := le_grow (F11b.fz.ext X12 (hX1 hst10)).le
    have hst12 : (Mine.grow g10 s11.heap.objs.size s12.heap).get? st = none := grow_none hst10 (Nat.lt_of_lt_of_le hstl F11b.ext.size)
    generalize Mine.grow g10 s11.heap.objs.size s12.heap = g12 at *
    obtain ⟨sg, ts, hsg, hsgl⟩ : ∃ (sg : Nat) (ts : Tok), ([Value.int 7 t6, .int 128 t7, .int 200 t8, .int 0 t9] : List Value)[isg]? = some (.int sg ts) ∧ sg < 256 := by
      match isg, hisg with
      | 0, _ => exact ⟨7, t6, rfl, by decide⟩
      | 1, _ => exact ⟨128, t7, rfl, by decide⟩
      | 2, _ => exact ⟨200, t8, rfl, by decide⟩
      | 3, _ => exact ⟨0, t9, rfl, by decide⟩
    refine r_itemL (i := isg) F12 (hl10.mono l12) rfl (by omega) hsg ?_
    obtain ⟨G12, lG12, F12', hS12', _⟩ := F12.withS hS12 rfl
    refine r_store F12' fun s13 F13 => ?_
    have lg12 : Le g g12 := fun b o e => l12 _ _ (l3A _ _ (lg3 _ _ e))
    have l1G12 : Le g1 G12 := fun b o e => lG12 _ _ (l12 _ _ (l1A _ _ e))
    obtain ⟨m13, F13, n_pick, n_sign⟩ : ∃ m13, St c (· = st) s g G12 s.heap.objs.size m13 s13 ∧ m13 (Str.ofString "pick") = some (.int (pick : Nat) tp) ∧ m13 (Str.ofString "sign") = some (.int (sg : Nat) ts) := ⟨_, F13, n_pick, by rfl⟩
    refine wpAny_execs_cons (wpAny_If (wpAny_isTrue_Compare1 (r_name F13 n_pick (r_int F13 fun t14 s14 F14 => r_eqI ?_))))
    have hoct : Octs [.int (sg : Nat) ts] [UInt8.ofNat sg] := Octs.nil.cons (by rw [UInt8.toNat_ofNat']; omega)
    by_cases h5 : pick = 5
    · refine r_yes (by subst h5; rfl) ?_
      refine wpAny_execs_cons (wpAny_Return_some (wpAny_BinOp (r_call (r_builtin ok F14.fz (by rfl) (r_with_type (r_args_cons (r_list (r_args_cons (r_name F14 n_sign (r_args_nil (r_newL F14 (by simp) fun a15 g15 s15 l15 F15 hl15 _ => r_args_nil (r_bytesOf F15 hl15 hoct (by simp) hh fun t16 s16 F16 => ?_))))))))))))
      refine wpAny_BinOp (r_int F16 fun t17 s17 F17 => r_call (r_global ok F17.fz hN.nm (r_with_def ok hN (r_args_cons (r_cell (ca := s.heap.objs.size + 1) F17.fz (d1.mono fun b o e => l15 _ _ (l1G12 _ _ e)) (by rfl) (r_args_cons (r_int F17 fun t18 s18 F18 => r_args_nil ⟨fun b o q => F18.fz.le b o (F18.fz.base b o q), ?_⟩)))))))
      have F18b := F18.less (g' := g12) (fun b o e => l15 _ _ (lG12 _ _ e)) F12.fz.base
      have F18c := F18.less (g' := G12) l15 F12'.fz.base
      refine nxt_ok (lim := 4) ok hN F18b.fz (by simp only [depth_deeper]; omega) hst12 (hS12' _ F18c.fz) (hsc.mono lg12) (by decide) fun r tr s19 hr X19 hS19 => ?_
      have F19 := F18b.grow X19 (hX1 hst12)
      have hst19 : (Mine.grow g12 s18.heap.objs.size s19.heap).get? st = none := grow_none hst12 (Nat.lt_of_lt_of_le hstl F18b.ext.size)
      refine wpAny_add_int (bytes_mul_any (by simp) (by omega) (by omega) (by simp) fun t20 k20 => ?_)
      refine h (.leaf _) _ _ (F19.ext.trans Ext.toks) hS19 ?_ ⟨t20, rfl⟩
      have : (List.replicate (54 + (r : Int)).toNat [UInt8.ofNat sg]).flatten.length ≤ 57 := by simp; omega
      cases n <;> exact this
    · refine r_no (by simp; omega) (wpAny_execs_nil ?_)
      refine wpAny_execs_cons (wpAny_Return_some (wpAny_BinOp (r_call (r_builtin ok F14.fz (by rfl) (r_with_type (r_args_cons (r_list (r_args_cons (r_name F14 n_sign (r_args_nil (r_newL F14 (by simp) fun a15 g15 s15 l15 F15 hl15 _ => r_args_nil (r_bytesOf F15 hl15 hoct (by simp) hh fun t16 s16 F16 => ?_))))))))))))
      refine r_call (r_global ok F16.fz hN.nm (r_with_def ok hN (r_args_cons (r_cell (ca := s.heap.objs.size + 1) F16.fz (d1.mono fun b o e => l15 _ _ (l1G12 _ _ e)) (by rfl) (r_args_cons (r_int F16 fun t18 s18 F18 => r_args_nil ⟨fun b o q => F18.fz.le b o (F18.fz.base b o q), ?_⟩))))))
      have F18b := F18.less (g' := g12) (fun b o e => l15 _ _ (lG12 _ _ e)) F12.fz.base
      have F18c := F18.less (g' := G12) l15 F12'.fz.base
      refine nxt_ok (lim := 6) ok hN F18b.fz (by simp only [depth_deeper]; omega) hst12 (hS12' _ F18c.fz) (hsc.mono lg12) (by decide) fun r tr s19 hr X19 hS19 => ?_
      have F19 := F18b.grow X19 (hX1 hst12)
      refine bytes_mul_any (by simp) (by omega) (by omega) (by simp) fun t20 k20 => ?_
      refine h (.leaf _) _ _ (F19.ext.trans Ext.toks) hS19 ?_ ⟨t20, rfl⟩
      have : (List.replicate (r : Int).toNat [UInt8.ofNat sg]).flatten.length ≤ 57 := by simp; omega
      cases n <;> exact this

theorem tre_ok (ok : c.Ok) (hf : At c dTre f) {st scr : Addr} : ∀ (n : Nat), TreC c f st scr n
  | 0 => tre_step ok hf fun m e => absurd e (by omega)
  | n + 1 => tre_step ok hf fun m e => by have : m = n := by omega
                                          subst this; exact tre_ok ok hf m
end
end Mine
end
section
open PySem PySem.Calls PySem.Spec PyProof.Rows PySem.W
open PySem.SeqAt
set_option maxRecDepth 100000
namespace Mine

theorem turn0 (elt t0 i0 t1 i1 : Expr) (scope : Scope) (pos : Pos) (it acc : Value) (env : Env) :
    compTurn (.ListComp elt [⟨t0, i0, [], 0⟩, ⟨t1, i1, [], 0⟩] scope pos) 0 it acc env = (standAt i0.pos >>= fun _ => pyNext it >>= fun r => match r with
      | none => pure (.done .next)
      | some v => letOwnedTupleGo t0 it v >>= fun _ => assign t0 env v >>= fun _ =>
        eval i1 env >>= fun x => standAt i1.pos >>= fun _ => foldedSetIterable i1 env x >>= fun x => holding [x] (pyIter x) >>= fun it1 =>
          runOwn (.compStart (.ListComp elt [⟨t0, i0, [], 0⟩, ⟨t1, i1, [], 0⟩] scope pos) 1 it1 acc env) env >>= fun _ =>
          again (.compLoop (.ListComp elt [⟨t0, i0, [], 0⟩, ⟨t1, i1, [], 0⟩] scope pos) 0 it acc env)) := by rfl
theorem turn1 (elt t0 i0 t1 i1 : Expr) (scope : Scope) (pos : Pos) (it acc : Value) (env : Env) :
    compTurn (.ListComp elt [⟨t0, i0, [], 0⟩, ⟨t1, i1, [], 0⟩] scope pos) 1 it acc env = (standAt i1.pos >>= fun _ => pyNext it >>= fun r => match r with
      | none => pure (.done .next)
      | some v => letOwnedTupleGo t1 it v >>= fun _ => assign t1 env v >>= fun _ =>
        (eval elt env >>= fun x => call (.builtin "list.append") [acc, x] >>= fun _ => pure ()) >>= fun _ =>
          again (.compLoop (.ListComp elt [⟨t0, i0, [], 0⟩, ⟨t1, i1, [], 0⟩] scope pos) 1 it acc env)) := by rfl

section
variable {c : Cfg} {X : Addr → Prop} {A : Around} {E : Value → Shared → Prop} {s₀ s : Shared} {g₀ g : Heap} {L : Addr} {m : Str → Option Value} {env : Env} {R : Result → Shared → Prop}

theorem start1 {elt t0 i0 t1 i1 : Expr} {scope : Scope} {pos : Pos} {it acc : Value}
    (h0 : codeAny c.M A (.compLoop (.ListComp elt [⟨t0, i0, [], 0⟩, ⟨t1, i1, [], 0⟩] scope pos) 1 it acc env) R s)
    (h : wpAny c.M A (pyIter it) (fun it' s' => codeAny c.M A (.compLoop (.ListComp elt [⟨t0, i0, [], 0⟩, ⟨t1, i1, [], 0⟩] scope pos) 1 it' acc env) R s') (notedBy c.M A env fun x s' => R (.error x) s') s) :
    codeAny c.M A (.compStart (.ListComp elt [⟨t0, i0, [], 0⟩, ⟨t1, i1, [], 0⟩] scope pos) 1 it acc env) R s := by
  refine codeAny_of_tree ?_
  show wpAny _ _ ((compStart (.ListComp elt [⟨t0, i0, [], 0⟩, ⟨t1, i1, [], 0⟩] scope pos) 1 it acc env).onRaise (fun x => do noteFrame x env; standAt theWindowsPlace)) _ _ s
  refine wpAny_notedAt ?_
  unfold compStart
  show wpAny _ _ (ask >>= _) _ _ s
  refine wpAny_bind (wpAny_askSetting (wpAny_ite ?_))
  split
  · exact wpAny_pure (And.intro rfl h0)
  · refine wpAny_bind (wpAny_rule ?_)
    show wpAny _ _ (standAt i1.pos >>= _) _ _ s
    exact wpAny_bind (wpAny_standAt (wpAny_bind (wpAny_mono h (fun it' s' h' => wpAny_pure (And.intro rfl h')) fun _ _ x => x)))

/-- the inner clause, whose items go into the list as they are -/
theorem inner_ok {t0 i0 i1 : Expr} {y : Str} {py py' : Pos} {scope : Scope} {pos : Pos} {D C I : Addr} {fp : List Addr} {Stt : Nat → Heap → Prop} {ys zs : List Value} {cenv : Env} (hC : cenv.locals = C) (hh : A.handled = none)
    (hy : cenv.kindOf y = some .local) (hk : cenv.scope.kind = .function) (hd : (y == ("__debug__" : Str)) = false)
    (F : St c X s₀ g₀ g L m s) (Io : ItOk c X s₀ s g L I zs.length (fun i v => zs[i]? = some v) fp Stt) (hD : s.heap.IsList D ys.toArray) (hn : ∃ mC, s.heap.Ns C mC) (hDI : D < I) (hCI : C < I) (hDC : D ≠ C)
    (oD : g.get? D = none) (oC : g.get? C = none) (lD : s₀.heap.objs.size ≤ D) (lC : s₀.heap.objs.size ≤ C) (nD : D ≠ L ∧ D ≠ c.eC ∧ D ≠ c.eP) (nC : C ≠ L ∧ C ≠ c.eC ∧ C ≠ c.eP) (hfp : D ∉ fp ∧ C ∉ fp) (hz : ys.length + zs.length ≤ 16777216)
    (h : ∀ s', St c X s₀ g₀ g L m s' → s'.heap.IsList D (ys ++ zs).toArray → (∃ mC, s'.heap.Ns C mC) → (∀ b o, b ≠ D → b ≠ C → b ≠ I → s.heap.get? b = some o → s'.heap.get? b = some o) → R (.ok .next) s') :
    codeAny c.M A (.compStart (.ListComp (.Name y py') [⟨t0, i0, [], 0⟩, ⟨.Name y py, i1, [], 0⟩] scope pos) 1 (.ref I) (.ref D) cenv) R s := by
  subst hC
  have loop : codeAny c.M A (.compLoop (.ListComp (.Name y py') [⟨t0, i0, [], 0⟩, ⟨.Name y py, i1, [], 0⟩] scope pos) 1 (.ref I) (.ref D) cenv) R s := by
    let Inv : Nat → Shared → Prop := fun k s₃ => ∃ j, k + j = zs.length ∧ St c X s₀ g₀ g L m s₃ ∧ Stt j s₃.heap ∧ s₃.heap.IsList D (ys ++ zs.take j).toArray ∧ (∃ mC, s₃.heap.Ns cenv.locals mC) ∧ (∀ b o, b ≠ D → b ≠ cenv.locals → b ≠ I → s.heap.get? b = some o → s₃.heap.get? b = some o)
    refine codeAny_loop rfl Inv ?_ zs.length ⟨0, rfl, F, Io.st, by simpa using hD, hn, fun _ _ _ _ _ e => e⟩
    rintro k s₃ ⟨j, hkj, F3, hS, hD3, ⟨mC, hnC⟩, hk3⟩
    show wpAny _ A ((compTurn (.ListComp (.Name y py') [⟨t0, i0, [], 0⟩, ⟨.Name y py, i1, [], 0⟩] scope pos) 1 (.ref I) (.ref D) cenv).onRaise (fun x => do noteFrame x cenv; theTreesLotGoes x)) _ _ s₃
    refine wpAny_noted ?_
    rw [turn1]
    refine wpAny_bind (wpAny_standAt (wpAny_bind ?_))
    rcases Nat.eq_zero_or_pos k with rfl | hk0
    · have hj : j = zs.length := by omega
      subst hj
      refine (Io.W A hh).done s₃ _ _ hS fun h' tk hk' => wpAny_pure ?_
      have kk : ∀ b o, b ≠ I → s₃.heap.get? b = some o → h'.get? b = some o := fun b o hb e => hk' b o (by simpa using hb) e
      rw [List.take_length] at hD3
      exact h _ (F3.writeI Io.lo Io.neL Io.neC Io.neP Io.off hk') (hD3.at fun o e => kk _ _ (Nat.ne_of_lt hDI) e) ⟨mC, hnC.at' fun o e => kk _ _ (Nat.ne_of_lt hCI) e⟩ fun b o h1 h2 h3 e => kk b o h3 (hk3 b o h1 h2 h3 e)
    · have hj : j < zs.length := by omega
      refine (Io.W A hh).item j s₃ _ _ hj hS fun v h' tk hP hS' hk' => ?_
      have kk : ∀ b o, b ≠ I → s₃.heap.get? b = some o → h'.get? b = some o := fun b o hb e => hk' b o (by simpa using hb) e
      have F4 := F3.writeI (tk := tk) Io.lo Io.neL Io.neC Io.neP Io.off hk'
      refine wpAny_bind (wpAny_of_eq (rfl : letOwnedTupleGo (.Name y py) (.ref I) v = pure ()) ?_)
      refine wpAny_bind (wpAny_assign_Name (wpAny_storeName_local hy (hnC.at' fun o e => kk _ _ (Nat.ne_of_lt hCI) e) (fun h2 hn2 hs2 => ?_) (by rw [hk]; rfl)))
      have F5 := F4.write (tk := tk + 1) (.inl lC) nC.1 nC.2.1 nC.2.2 oC hs2
      have hD5 : h2.IsList D (ys ++ zs.take j).toArray := hD3.at fun o e => hs2.extBut _ _ hDC (kk _ _ (Nat.ne_of_lt hDI) e)
      have hS5 : Stt (j + 1) h2 := (Io.W A hh).frame _ _ _ hS' fun b hb o e => hs2.extBut b o (fun q => hfp.2 (q ▸ hb)) e
      refine wpAny_bind (wpAny_bind (wpAny_Name (wpAny_loadName_local hk hy hn2 (if_pos rfl) (wpAny_bind ?_)) hd))
      refine wpAny_list_append hD5 (fun h7 hl7 hs7 => ?_) (by rw [sizeLine_eq]; simp; omega)
      have F7 := F5.write (tk := tk + 1) (.inl lD) nD.1 nD.2.1 nD.2.2 oD hs7
      refine wpAny_pure (wpAny_pure ⟨rfl, k - 1, by omega, j + 1, by omega, F7, (Io.W A hh).frame _ _ _ hS5 fun b hb o e => hs7.extBut b o (fun q => hfp.1 (q ▸ hb)) e, ?_, ⟨_, hn2.sameBut hs7 (Ne.symm hDC)⟩, fun b o h1 h2' h3 e => hs7.extBut b o h1 (hs2.extBut b o h2' (kk b o h3 (hk3 b o h1 h2' h3 e)))⟩)
      have et : zs.take (j + 1) = zs.take j ++ [v] := by rw [List.take_add_one, hP]; rfl
      rw [et, ← List.append_assoc]
      simpa using hl7
  exact start1 loop ((Io.W A hh).self 0 _ _ _ Io.st loop)
end
end Mine
end
section
open PySem PySem.Calls PySem.Spec PyProof.Rows PySem.W
open PySem.SeqAt
set_option maxRecDepth 100000
namespace Mine

section
variable {c : Cfg} {X : Addr → Prop} {A : Around} {E : Value → Shared → Prop} {s₀ s : Shared} {g₀ g : Heap} {m : Str → Option Value} {env : Env}

set_option maxHeartbeats 8000000 in
/-- a comprehension of two clauses that puts the items of the inner as they are -/
theorem comp2_ok {iter i1 : Expr} {x y : Str} {px py py' : Pos} {scope : Scope} {cl : List (Str × Addr)} {pos : Pos} {Q : Value → Shared → Prop} (J : Nat → List Value → Heap → Heap → Prop)
    (hclos : closureFor scope env = pure cl) (hcell : ∀ z ∈ scope.names, z.2 ≠ .cell) (hkind : scope.kind = .function)
    (hnames : ∀ z ∈ scope.names, z.2 = .local → scope.names.lookup z.1 = some .local) (hx : scope.names.lookup x = some .local) (hy : scope.names.lookup y = some .local) (hyd : (y == ("__debug__" : Str)) = false) (hh : A.handled = none) (hXg : ∀ b, X b → g₀.get? b = none)
    (h : wpAny c.M A (eval iter env) (fun xv s₁ => wpAny c.M A (pyIter xv) (fun it s₂ => ∃ g I n P fp Stt, it = .ref I ∧ ItOk c X s₀ s₂ g env.locals I n P fp Stt ∧ (∀ b, X b → g.get? b = none) ∧
      St c X s₀ g₀ g env.locals m s₂ ∧ J 0 [] g s₂.heap ∧
      (∀ {j ys g h g' h'}, J j ys g h → Le g g' → (∀ b o, b < I → b ≠ env.locals → h.get? b = some o → h'.get? b = some o) → J j ys g' h') ∧
      (∀ {j ys g h}, J j ys g h → ys.length ≤ 16777216) ∧
      (∀ (B : Around) j ys v g' s₃ C mC, B.handled = none → B.depth = A.depth → J j ys g' s₃.heap → Le g g' → P j v → j < n → St c X s₀ g₀ g' env.locals m s₃ → (∀ b, X b → g'.get? b = none) → s₃.heap.Ns C mC → mC x = some v →
        wpAny c.M B (eval i1 (compEnvC scope cl C env)) (fun r s₄ => Ext c X s₃ s₄ ∧ ∃ a zs, r = .ref a ∧ Ls (grow g' s₃.heap.objs.size s₄.heap) a zs ∧ J (j + 1) (ys ++ zs) (grow g' s₃.heap.objs.size s₄.heap) s₄.heap) (fun _ _ => False) s₃) ∧
      (∀ D ys g' s₅, J n ys g' s₅.heap → Le g g' → (∀ b, X b → g'.get? b = none) → St c X s₀ g₀ g' env.locals m s₅ → Ls g' D ys → Q (.ref D) s₅)) E s₁) E s)
    (hs : ∀ x, foldedSetIterable iter env x = pure x := by intro _; rfl) (hs1 : ∀ C x, foldedSetIterable i1 (compEnvC scope cl C env) x = pure x := by intro _ _; rfl) :
    wpAny c.M A (eval (.ListComp (.Name y py') [⟨.Name x px, iter, [], 0⟩, ⟨.Name y py, i1, [], 0⟩] scope pos) env) Q E s := by
  rw [eval_ListComp]
  refine wpAny_comprehension_free (use := none) rfl hs hclos hkind hnames (wpAny_mono h (fun xv s₁ h₁ => wpAny_mono h₁ (fun it s₂ h₂ => ?_) fun _ _ e => e) fun _ _ e => e)
  clear h
  obtain ⟨g, I, n, P, fp, Stt, rfl, Io, hXo, F, hJ0, hJm, hJl, helt, hfin⟩ := h₂
  refine wpAny_newObj_type (wpAny_newFunctionEnv hcell (by intro y hy; simp at hy) (fun h₁ hns₁ hsb₁ => ?_) hkind)
  dsimp only at hns₁ hsb₁ ⊢
  have hDa : (s₂.heap.push { cls := .type "list", data := .seq ([] : List Value).toArray }).get? s₂.heap.objs.size = some { cls := .type "list", data := .seq ([] : List Value).toArray } := Heap.get?_push_size _ rfl
  have hold : ∀ b o, s₂.heap.get? b = some o → (s₂.heap.push { cls := .type "list", data := .seq ([] : List Value).toArray }).get? b = some o := fun b o e => Heap.get?_push_of_some _ e
  have hC : (s₂.heap.push { cls := .type "list", data := .seq ([] : List Value).toArray }).objs.size = s₂.heap.objs.size + 1 := Heap.size_push ..
  generalize (s₂.heap.push { cls := .type "list", data := .seq ([] : List Value).toArray }) = H2 at *
  generalize hDd : s₂.heap.objs.size = D at *
  generalize hCc : H2.objs.size = C at *
  have hDC : D ≠ C := by rw [hC]; exact Nat.ne_of_lt (Nat.lt_succ_self _)
  have hlt : ∀ b o, s₂.heap.get? b = some o → b < D := fun b o e => hDd ▸ Heap.lt_size e
  have hDlC : D < C := by rw [hC]; exact Nat.lt_succ_self _
  have keep1 : ∀ b o, s₂.heap.get? b = some o → h₁.get? b = some o := fun b o e => hsb₁.extBut b o (Nat.ne_of_lt (Nat.lt_trans (hlt b o e) hDlC)) (Heap.get?_push_of_some _ (hold b o e))
  have hD1 : h₁.IsList D ([] : List Value).toArray := ⟨_, hsb₁.extBut _ _ hDC (Heap.get?_push_of_some _ hDa), rfl, 0, rfl⟩
  have F1 : St c X s₀ g₀ g env.locals m { s₂ with heap := h₁, toks := s₂.toks + ([] : List (Str × Value)).length } := F.keep keep1
  have hID : I < D := hDd ▸ Io.hi
  have hsD : s₀.heap.objs.size ≤ D := Nat.le_of_lt (Nat.lt_of_le_of_lt Io.lo hID)
  have hsC : s₀.heap.objs.size ≤ C := Nat.le_trans hsD (Nat.le_of_lt hDlC)
  have hLD : env.locals < D := let ⟨_, _, _, q, _⟩ := F.ns; hlt _ _ q
  obtain ⟨ps, tt⟩ := F.fz.tab
  have hecD : c.eC < D := hDd ▸ tt.lt.1
  have hepD : c.eP < D := hDd ▸ tt.lt.2
  have nD : D ≠ env.locals ∧ D ≠ c.eC ∧ D ≠ c.eP := ⟨Ne.symm (Nat.ne_of_lt hLD), Ne.symm (Nat.ne_of_lt hecD), Ne.symm (Nat.ne_of_lt hepD)⟩
  have nC : C ≠ env.locals ∧ C ≠ c.eC ∧ C ≠ c.eP := ⟨Ne.symm (Nat.ne_of_lt (Nat.lt_trans hLD hDlC)), Ne.symm (Nat.ne_of_lt (Nat.lt_trans hecD hDlC)), Ne.symm (Nat.ne_of_lt (Nat.lt_trans hepD hDlC))⟩
  have hgD : g.get? D = none := get_none_of_ge F.fz.le (by rw [hDd]; exact Nat.le_refl _)
  have hgC : g.get? C = none := get_none_of_ge F.fz.le (by rw [hDd]; exact Nat.le_of_lt hDlC)
  let Inv : Nat → Shared → Prop := fun k s₃ => ∃ j ys g', k + j = n ∧ Le g g' ∧ (∀ b, X b → g'.get? b = none) ∧ g'.get? D = none ∧ g'.get? C = none ∧ g'.get? I = none ∧
    St c X s₀ g₀ g' env.locals m s₃ ∧ J j ys g' s₃.heap ∧ Stt j s₃.heap ∧ s₃.heap.IsList D ys.toArray ∧ ∃ mC, s₃.heap.Ns C mC
  have hnI : C ≠ I := Nat.ne_of_gt (Nat.lt_trans hID hDlC)
  have loop : ∀ s₃, s₃ = ({ s₂ with heap := h₁, toks := s₂.toks + ([] : List (Str × Value)).length } : Shared) →
      codeAny c.M A (.compLoop (.ListComp (.Name y py') [⟨.Name x px, iter, [], 0⟩, ⟨.Name y py, i1, [], 0⟩] scope pos) 0 (.ref I) (.ref D) (compEnvC scope cl C env)) (compPost c.M A E none Q (.ref D) C) s₃ := by
    rintro s₃ rfl
    refine codeAny_loop rfl Inv ?_ n ⟨0, [], g, rfl, fun _ _ e => e, hXo, hgD, hgC, Io.off, F1, hJm hJ0 (fun _ _ e => e) (fun b o _ _ e => keep1 b o e), (Io.W A hh).frame _ _ _ Io.st (fun b _ o e => keep1 b o e), hD1, ⟨_, hns₁⟩⟩
    rintro k s₃ ⟨j, ys, g', hkj, lg, hX', oD, oC, oI, F3, hJ, hSt, hDl, mC, hnC⟩
    show wpAny _ A ((compTurn (.ListComp (.Name y py') [⟨.Name x px, iter, [], 0⟩, ⟨.Name y py, i1, [], 0⟩] scope pos) 0 (.ref I) (.ref D) (compEnvC scope cl C env)).onRaise (fun x => do noteFrame x (compEnvC scope cl C env); theTreesLotGoes x)) _ _ s₃
    refine wpAny_noted ?_
    rw [turn0]
    refine wpAny_bind (wpAny_standAt (wpAny_bind ?_))
    rcases Nat.eq_zero_or_pos k with rfl | hk
    · have hjn : j = n := by omega
      subst hjn
      refine (Io.W A hh).done s₃ _ _ hSt fun h' tk hk' => wpAny_pure ?_
      have F4 : St c X s₀ g₀ g' env.locals m { s₃ with heap := h', toks := tk } := F3.writeI Io.lo Io.neL Io.neC Io.neP oI hk'
      refine ⟨mC, hnC.at' fun o e => hk' _ o (by simpa using hnI) e, fun h'' hs'' => ?_⟩
      have F5 := F4.write (tk := tk) (.inl hsC) nC.1 nC.2.1 nC.2.2 oC hs''
      have F6 := F5.put (.inl hsD) nD.1 nD.2.2
      have kk : ∀ b o, b ≠ C → b ≠ I → s₃.heap.get? b = some o → h''.get? b = some o := fun b o h1 h2 e => hs''.extBut b o h1 (hk' b o (by simpa using h2) e)
      have hDl' : h''.IsList D ys.toArray := hDl.at fun o e => kk D o hDC (Ne.symm (Nat.ne_of_lt hID)) e
      refine hfin D ys (put g' D h'') _ (hJm hJ (le_put F5.fz.le) fun b o hb _ e => kk b o (Nat.ne_of_lt (Nat.lt_trans hb (Nat.lt_trans hID hDlC))) (Nat.ne_of_lt hb) e) (fun b o e => le_put F5.fz.le _ _ (lg _ _ e)) (fun b q => put_none (hX' b q) (fun e => ?_)) F6 (Ls.put hDl')
      subst e
      exact absurd (F3.ltX _ q) (Nat.not_lt.mpr hsD)
    · have hjn : j < n := by omega
      refine (Io.W A hh).item j s₃ _ _ hjn hSt fun v h' tk hP hSt' hk' => ?_
      have F4 : St c X s₀ g₀ g' env.locals m { s₃ with heap := h', toks := tk } := F3.writeI Io.lo Io.neL Io.neC Io.neP oI hk'
      refine wpAny_bind (wpAny_of_eq (rfl : letOwnedTupleGo (.Name x px) (.ref I) v = pure ()) ?_)
      refine wpAny_bind (wpAny_assign_Name (wpAny_storeName_local (env := compEnvC scope cl C env) (lookup_relabel_local hx) (hnC.at' fun o e => hk' _ o (by simpa using hnI) e) (fun h2 hn2 hs2 => ?_) (by simp [compEnvC, relabel, hkind])))
      have hs2' : Heap.SameBut C h' h2 := hs2
      have F5 := F4.write (tk := tk + 1) (.inl hsC) nC.1 nC.2.1 nC.2.2 oC hs2'
      have kk : ∀ b o, b ≠ C → b ≠ I → s₃.heap.get? b = some o → h2.get? b = some o := fun b o h1 h2' e => hs2'.extBut b o h1 (hk' b o (by simpa using h2') e)
      have hJ5 := hJm hJ (fun _ _ e => e) (fun b o hb _ e => kk b o (Nat.ne_of_lt (Nat.lt_trans hb (Nat.lt_trans hID hDlC))) (Nat.ne_of_lt hb) e)
      have hDl5 : h2.IsList D ys.toArray := hDl.at fun o e => kk D o hDC (Ne.symm (Nat.ne_of_lt hID)) e
      have hSt5 : Stt (j + 1) h2 := (Io.W A hh).frame _ _ _ hSt' fun b hb o e => hs2'.extBut b o (Nat.ne_of_lt (Nat.lt_of_le_of_lt (Io.fpl b hb).1 (Nat.lt_trans hID hDlC))) e
      refine wpAny_bind (wpAny_mono (helt A j ys v g' _ C _ hh rfl hJ5 lg hP hjn F5 hX' hn2 (if_pos rfl)) (fun r s₄ h₄ => ?_) fun _ _ q => q.elim)
      obtain ⟨X4, a, zs, rfl, hza, hJ6⟩ := h₄
      have F6 := F5.grow X4 hX'
      have nX : ∀ b, s₀.heap.objs.size ≤ b → ¬ X b := fun b hb q => absurd (F5.ltX b q) (Nat.not_lt.mpr hb)
      have ltD5 : D < h2.objs.size := let ⟨_, q, _⟩ := hDl5; Heap.lt_size q
      have ltC5 : C < h2.objs.size := hn2.lt
      have ltI5 : I < h2.objs.size := Nat.lt_trans hID ltD5
      have hDl6 : s₄.heap.IsList D ys.toArray := hDl5.at fun o e => X4.keep D o nD.2.2 (nX D hsD) e
      have hnC6 := hn2.at' fun o e => X4.keep C o nC.2.2 (nX C hsC) e
      have hSt6 : Stt (j + 1) s₄.heap := (Io.W A hh).frame _ _ _ hSt5 fun b hb o e => X4.keep b o (Io.fpl b hb).2.1 (Io.fpl b hb).2.2.2 e
      have oD6 : (grow g' h2.objs.size s₄.heap).get? D = none := grow_none oD ltD5
      have oC6 : (grow g' h2.objs.size s₄.heap).get? C = none := grow_none oC ltC5
      have oI6 : (grow g' h2.objs.size s₄.heap).get? I = none := grow_none oI ltI5
      have oX6 : ∀ b, X b → (grow g' h2.objs.size s₄.heap).get? b = none := fun b q => grow_none (hX' b q) (Nat.lt_of_lt_of_le (F5.ltX b q) (Nat.le_trans hsD (Nat.le_of_lt ltD5)))
      have l6 : Le g (grow g' h2.objs.size s₄.heap) := fun b o e => le_grow (F5.fz.ext X4 hX').le _ _ (lg _ _ e)
      have hs5 : h2.objs.size ≤ s₄.heap.objs.size := X4.size
      generalize grow g' h2.objs.size s₄.heap = g6 at *
      refine wpAny_bind (wpAny_standAt (wpAny_bind (wpAny_of_eq (hs1 C _) (wpAny_bind (wpAny_holding ?_)))))
      refine r_iterL F6 hza oX6 fun I1 fp1 Stt1 s7 Io1 F7 k7 hI1 => ?_
      have hDI1 : D < I1 := Nat.lt_of_lt_of_le (Nat.lt_of_lt_of_le ltD5 hs5) hI1
      have hCI1 : C < I1 := Nat.lt_of_lt_of_le (Nat.lt_of_lt_of_le ltC5 hs5) hI1
      have hII1 : I < I1 := Nat.lt_trans hID hDI1
      have hl := hJl hJ6
      rw [List.length_append] at hl
      refine wpAny_bind (wpAny_runOwn (inner_ok (cenv := compEnvC scope cl C env) rfl hh (lookup_relabel_local hy) hkind hyd F7 Io1 (hDl6.at fun o e => k7 _ _ e) ⟨_, hnC6.at' fun o e => k7 _ _ e⟩ hDI1 hCI1 hDC oD6 oC6 hsD hsC nD nC ⟨fun q => ?_, fun q => ?_⟩ hl fun s8 F8 hD8 hn8 k8 => ?_))
      · rcases Io1.own _ q with q | q
        · exact Nat.ne_of_lt hDI1 q
        · rw [oD6] at q; cases q
      · rcases Io1.own _ q with q | q
        · exact Nat.ne_of_lt hCI1 q
        · have q' : (g6.get? C).isSome = true := q
          rw [oC6] at q'; cases q'
      · have kb : ∀ b o, b < D → s₄.heap.get? b = some o → s8.heap.get? b = some o := fun b o hb e => k8 b o (Nat.ne_of_lt hb) (Nat.ne_of_lt (Nat.lt_trans hb hDlC)) (Nat.ne_of_lt (Nat.lt_trans hb hDI1)) (k7 _ _ e)
        exact wpAny_pure ⟨rfl, k - 1, by omega, j + 1, ys ++ zs, g6, by omega, l6, oX6, oD6, oC6, oI6, F8,
          hJm hJ6 (fun _ _ e => e) (fun b o hb _ e => kb b o (Nat.lt_trans hb hID) e),
          (Io.W A hh).frame _ _ _ hSt6 (fun b hb o e => kb b o (Nat.lt_of_le_of_lt (Io.fpl b hb).1 hID) e), hD8, hn8⟩
  refine codeAny_compStart_list (loop _ rfl) ((Io.W A hh).self 0 _ _ _ ((Io.W A hh).frame _ _ _ Io.st (fun b _ o e => keep1 b o e)) (loop _ rfl))
end
end Mine
end
section
open PySem PySem.Calls PySem.Spec PyProof.Rows PySem.W
open PySem.SeqAt
set_option maxRecDepth 100000
namespace Mine

theorem grow_grow {g h h' : Heap} {n m : Nat} (hnm : n ≤ m) : Le (grow (grow g n h) m h') (grow g n h') := fun b o e => by
  have hs := grow_sub e
  have hv := grow_le _ _ e
  rw [grow_get, if_pos]
  · exact hv
  · rcases hs with q | q
    · obtain ⟨o', q⟩ := Option.isSome_iff_exists.mp q
      rcases grow_sub q with r | r
      · simp [r]
      · simp [r]
    · simp [Nat.le_trans hnm q]

/-- the list of all ways -/
def Wys (g : Heap) (t : T) (way : List Nat) (wa : Addr) (ys : List Value) : Prop :=
  (∃ r, ys = .ref wa :: r) ∧ ys.length ≤ (enc t).length ∧ ∀ y ∈ ys, ∃ a w, y = .ref a ∧ Wy g (way ++ w) a ∧ vld 0 w t ∧ w.length ≤ ht t

theorem vld_cons {ts : List T} {k : Nat} {t : T} {w : List Nat} (hk : ts[k]? = some t) (h : vld 0 w t) : vld 0 (k :: w) (.node ts) := by
  have hlt := (List.getElem?_eq_some_iff.mp hk).1
  cases w with
  | nil => exact .inl hlt
  | cons k2 w2 =>
    refine ⟨hlt, ?_⟩
    rw [List.getD_eq_getElem?_getD, hk]
    exact h

section
variable {c : Cfg} {A : Around} {E : Value → Shared → Prop} {s : Shared}

theorem addL_raw {l b : Addr} {vs ws : List Value} {Q : Value → Shared → Prop} (hl : Ls s.heap l vs) (hb : Ls s.heap b ws) (hz : vs.length + ws.length ≤ 16777216)
    (h : Q (.ref s.heap.objs.size) { s with heap := s.heap.push { cls := .type "list", data := .seq (vs ++ ws).toArray } }) : wpAny c.M A (binaryOp .Add (.ref l) (.ref b)) Q E s := by
  obtain ⟨⟨cls, dd, data, sl⟩, ho, hc, n, hd⟩ := hl
  obtain ⟨⟨cls2, dd2, data2, sl2⟩, ho2, hc2, n2, hd2⟩ := hb
  simp only at hc hd hc2 hd2
  subst hc hd hc2 hd2
  have e : vs.toArray ++ ws.toArray = (vs ++ ws).toArray := by simp
  have hz' : vs.toArray.size + ws.toArray.size ≤ sizeLine := by rw [sizeLine_eq]; simp; omega
  refine concat_meets ⟨_, ho, rfl⟩ ⟨_, ho2, rfl⟩ noFill_list_add seq_list_add PySem.F.slot_list_add PySem.F.entry_list_add (PySem.F.args_list_add_2 _ _) (list_addW l b vs.toArray ws.toArray n n2 dd dd2 sl sl2 hz') ⟨ho, ho2, ?_⟩
  rw [e]
  exact h
theorem newL_raw {vs : List Value} {Q : Value → Shared → Prop} (hz : vs.length ≤ 1000) (h : Q (.ref s.heap.objs.size) { s with heap := s.heap.push { cls := .type "list", data := .seq vs.toArray } }) : wpAny c.M A (newList vs) Q E s :=
  wpAny_newObj_type h (by show vs.toArray.size ≤ sizeLine; rw [List.size_toArray, sizeLine_eq]; omega)

structure WayC (c : Cfg) (f : Addr) (n : Nat) : Prop where
  go : ∀ {t : T} {v : Value} {way : List Nat} {wa : Addr} {A : Around} {E : Value → Shared → Prop} {s : Shared} {g : Heap} {Q : Value → Shared → Prop}, ht t ≤ n → Tr g t v → Wy g way wa → way.length + n ≤ 100000 → Fz c g s → A.depth + n + 2 < recursionLimit → A.handled = none → (enc t).length ≤ 4000000 →
      (∀ a ys s', Pex c s s' → Ls (grow g s.heap.objs.size s'.heap) a ys → Wys (grow g s.heap.objs.size s'.heap) t way wa ys → Q (.ref a) s') → wpAny c.M A (call (.ref f) [v, .ref wa]) Q E s

set_option maxHeartbeats 8000000 in
theorem way_step (ok : c.Ok) {f : Addr} (hf : At c dWay f) {n : Nat} (ih : ∀ m, n = m + 1 → WayC c f m) : WayC c f n := by
    refine ⟨fun {t v way wa A E s g Q} hn hT hw hwl z hroom hh hz h => ?_⟩
    refine call_cells (X := noX) (binds := [("tree", v), ("way", .ref wa)]) ok hf z (fun _ q => q.elim) (fun _ q => q.elim) (by omega) (fun _ _ _ => by rfl) (fun k x hx => ?_) (fun cd s₁ F kp hcell => ?_)
    · right
      rcases List.mem_cons.mp hx with rfl | hx
      · exact ⟨by rfl, by rfl⟩
      · rcases List.mem_cons.mp hx with rfl | hx
        · exact ⟨by rfl, by rfl⟩
        · cases hx
    obtain ⟨ps, tt⟩ := z.tab
    have c1 : s₁.heap.IsCell (s.heap.objs.size + 1) (some v) := (hcell (Str.ofString "tree") (s.heap.objs.size + 1) (by rfl)).1
    have c2 : s₁.heap.IsCell (s.heap.objs.size + 2) (some (.ref wa)) := (hcell (Str.ofString "way") (s.heap.objs.size + 2) (by rfl)).1
    have F1 := F.freeze (n := s.heap.objs.size + 1) (Nat.lt_succ_self _) (Nat.lt_succ_of_lt tt.lt.2)
    have d1 : Cl (Mine.grow g (s.heap.objs.size + 1) s₁.heap) (s.heap.objs.size + 1) v := Cl.new c1 (Nat.le_refl _)
    have d2 : Cl (Mine.grow g (s.heap.objs.size + 1) s₁.heap) (s.heap.objs.size + 2) (.ref wa) := Cl.new c2 (Nat.le_succ _)
    have lg1 : Le g (Mine.grow g (s.heap.objs.size + 1) s₁.heap) := le_grow F.fz.le
    generalize Mine.grow g (s.heap.objs.size + 1) s₁.heap = g1 at *
    generalize hm1 : bindL (envC dWay s.heap.objs.size f cd).kindOf [(Str.ofString "tree", v), (Str.ofString "way", Value.ref wa)] (fun _ => none) = m1 at *
    cases t with
    | leaf b =>
      obtain ⟨tk, rfl⟩ := hT
      refine wpAny_execs_cons (wpAny_If (wpAny_isTrue_value (r_call (r_builtin ok F1.fz (by rfl) (r_with_builtin (r_args_cons (r_cell (ca := s.heap.objs.size + 1) F1.fz d1 (by rfl) (r_args_cons (r_builtin ok F1.fz (by rfl) (r_args_nil (r_is_bytes F1 k5 fun s3 F3 => r_yes rfl ?_)))))))))))
      refine wpAny_execs_cons (wpAny_Return_some (r_list (r_args_cons (r_cell (ca := s.heap.objs.size + 2) F3.fz d2 (by rfl) (r_args_nil (r_newL F3 (by simp) fun a5 g5 s5 l5 F5 hl5 _ => ?_))))))
      refine h _ _ _ F5.ext (hl5.mono F5.le_end) ⟨⟨[], rfl⟩, enc_pos _, fun y hy => ?_⟩
      rw [List.mem_singleton] at hy
      exact ⟨wa, [], hy, by rw [List.append_nil]; exact ((hw.mono lg1).mono l5).mono F5.le_end, trivial, Nat.zero_le _⟩
    | node ts =>
      obtain ⟨a, vs, rfl, hl, hTs⟩ := hT
      have htl := encs_len ts
      have hez := no_self ts
      have hvz : vs.length = ts.length := hTs.length
      refine wpAny_execs_cons (wpAny_If (wpAny_isTrue_value (r_call (r_builtin ok F1.fz (by rfl) (r_with_builtin (r_args_cons (r_cell (ca := s.heap.objs.size + 1) F1.fz d1 (by rfl) (r_args_cons (r_builtin ok F1.fz (by rfl) (r_args_nil (r_is_list F1 (hl.mono lg1) k4 fun s3 F3 => r_no rfl (wpAny_execs_nil ?_))))))))))))
      refine wpAny_execs_cons (wpAny_Return_some (wpAny_BinOp (r_list (r_args_cons (r_cell (ca := s.heap.objs.size + 2) F3.fz d2 (by rfl) (r_args_nil (r_newL F3 (by simp) fun a5 g5 s5 l5 F5 hl5 _ => ?_)))))))
      have l05 : Le g g5 := fun b o e => l5 _ _ (lg1 _ _ e)
      refine comp2_ok (X := noX) (s₀ := s) (g₀ := g) (m := m1) (cl := [(Str.ofString "way", s.heap.objs.size + 2), (Str.ofString "tree", s.heap.objs.size + 1)])
        (fun j ys g' _ => j ≤ ts.length ∧ ys.length ≤ (encs (ts.take j)).length ∧ ∀ y ∈ ys, ∃ a k w t', y = .ref a ∧ ts[k]? = some t' ∧ Wy g' (way ++ k :: w) a ∧ vld 0 w t' ∧ w.length ≤ ht t') (by rfl) (by decide) (by rfl) (by decide) (by rfl) (by rfl) (by decide) hh (fun _ q => q.elim) ?_
      obtain ⟨k, rfl⟩ : ∃ k, n = k + 1 := ⟨n - 1, by rw [ht] at hn; omega⟩
      refine r_call (r_builtin ok F5.fz (by rfl) (r_with_type (r_args_cons (r_call (r_builtin ok F5.fz (by rfl) (r_with_builtin (r_args_cons (r_cell (ca := s.heap.objs.size + 1) F5.fz (d1.mono l5) (by rfl) (r_args_nil (r_lenL F5 (hl.mono l05) (by omega) fun t6 s6 F6 => r_args_nil (r_range F6 (by omega) fun rr s7 F7 k7 _ hr7 => ?_)))))))))))
      obtain ⟨_, _, _, hr7⟩ := hr7
      refine r_iterR F7 hr7 (by omega) fun I fp Stt s8 Io F8 k8 _ => ?_
      refine ⟨g5, I, vs.length, _, fp, Stt, rfl, Io, fun _ q => q.elim, F8, ⟨Nat.zero_le _, by simp, fun y hy => by cases hy⟩, ?_, ?_, ?_, ?_⟩
      · rintro j ys gg hh' gg' hh'' ⟨q1, q2, q3⟩ hle _
        refine ⟨q1, q2, fun y hy => ?_⟩
        obtain ⟨a, k, w, t', r1, r2, r3, r4⟩ := q3 y hy
        exact ⟨a, k, w, t', r1, r2, r3.mono hle, r4⟩
      · rintro j ys gg hh' ⟨q1, q2, q3⟩
        have := encs_take_le ts j
        omega
      · rintro B j ys v' g' s9 C mC hB hBd ⟨q1, q2, q3⟩ hle ⟨tj, rfl⟩ hj F9 _ hnC hmx
        obtain ⟨t', ht'⟩ : ∃ t', ts[j]? = some t' := ⟨_, List.getElem?_eq_getElem (by omega)⟩
        have lgg' : Le g g' := fun b o e => hle _ _ (l05 _ _ e)
        have l1g' : Le g1 g' := fun b o e => hle _ _ (l5 _ _ e)
        obtain ⟨vt, hvt, hTt⟩ := (hTs.mono lgg').get ht'
        obtain ⟨wvs, hwvs, hwi⟩ := hw.mono lgg'
        have hwz : wvs.length = way.length := by rw [hwi.length, List.length_map]
        refine r_call (r_global (env := compEnvC _ _ _ _) ok F9.fz hf.nm (r_with_def ok hf (r_args_cons (Subscript_ (r_cell (ca := s.heap.objs.size + 1) F9.fz (d1.mono l1g') (by rfl) (wpAny_Name (wpAny_loadName_local (by rfl) (by rfl) hnC hmx (r_itemL (i := j) F9 (hl.mono lgg') rfl (by omega) hvt (r_args_cons ?_)))))))))
        refine wpAny_BinOp (r_cell (ca := s.heap.objs.size + 2) F9.fz (d2.mono l1g') (by rfl) (r_list (r_args_cons (wpAny_Name (wpAny_loadName_local (by rfl) (by rfl) hnC hmx (r_args_nil (newL_raw (by simp) ?_)))))))
        have P1 : Pex c s9 { s9 with heap := s9.heap.push { cls := .type "list", data := .seq ([Value.int (j : Nat) tj] : List Value).toArray } } := Ext.push (tk := s9.toks) _
        have F10 := F9.stay P1
        have hl1 : Ls (s9.heap.push { cls := .type "list", data := .seq ([Value.int (j : Nat) tj] : List Value).toArray }) s9.heap.objs.size [.int (j : Nat) tj] := ⟨_, Heap.get?_push_size _ rfl, rfl, 0, rfl⟩
        refine addL_raw (vs := wvs) (hwvs.mono F10.fz.le) hl1 (by simp; omega) (r_args_nil ⟨fun b o q => ?_, ?_⟩)
        · exact Heap.get?_push_of_some _ (Heap.get?_push_of_some _ (F9.fz.le _ _ (F9.fz.base _ _ q)))
        have P2 : Pex c { s9 with heap := s9.heap.push { cls := .type "list", data := .seq ([Value.int (j : Nat) tj] : List Value).toArray } } { s9 with heap := (s9.heap.push { cls := .type "list", data := .seq ([Value.int (j : Nat) tj] : List Value).toArray }).push { cls := .type "list", data := .seq (wvs ++ [Value.int (j : Nat) tj]).toArray } } := Ext.push (tk := s9.toks) _
        have P12 := P1.trans P2
        have F11 := F9.pex P12
        have hw11 : Wy (grow g' s9.heap.objs.size ((s9.heap.push { cls := .type "list", data := .seq ([Value.int (j : Nat) tj] : List Value).toArray }).push { cls := .type "list", data := .seq (wvs ++ [Value.int (j : Nat) tj]).toArray })) (way ++ [j]) (s9.heap.push { cls := .type "list", data := .seq ([Value.int (j : Nat) tj] : List Value).toArray }).objs.size :=
          ⟨wvs ++ [.int (j : Nat) tj], ⟨{ cls := .type "list", data := .seq (wvs ++ [Value.int (j : Nat) tj]).toArray }, by rw [grow_new (by rw [Heap.size_push]; exact Nat.le_succ _)]; exact Heap.get?_push_size _ rfl, rfl, 0, rfl⟩,
            by rw [List.map_append]; exact PyProof.Rows.IntsAre.append hwi (IntsAre.cons _ _ IntsAre.nil)⟩
        have hTt11 := hTt.mono (le_grow (n := s9.heap.objs.size) (F9.stay P12).fz.le)
        have hme := List.mem_of_getElem? ht'
        refine (ih k rfl).go (by have := ht_mem hme; rw [ht] at hn; omega) hTt11 hw11 (by simp; omega) F11.fz (by rw [hBd]; simp only [depth_deeper]; omega) hB (by have := enc_mem ht'; omega) fun a12 zs s12 P12' hl12 hW12 => ?_
        have lgg : Le (grow (grow g' s9.heap.objs.size ((s9.heap.push { cls := .type "list", data := .seq ([Value.int (j : Nat) tj] : List Value).toArray }).push { cls := .type "list", data := .seq (wvs ++ [Value.int (j : Nat) tj]).toArray })) ((s9.heap.push { cls := .type "list", data := .seq ([Value.int (j : Nat) tj] : List Value).toArray }).push { cls := .type "list", data := .seq (wvs ++ [Value.int (j : Nat) tj]).toArray }).objs.size s12.heap) (grow g' s9.heap.objs.size s12.heap) := grow_grow (by rw [Heap.size_push, Heap.size_push]; exact Nat.le_trans (Nat.le_succ _) (Nat.le_succ _))
        have lg12 : Le g' (grow g' s9.heap.objs.size s12.heap) := le_grow (F9.stay (P12.trans P12')).fz.le
        refine ⟨P12.trans P12', a12, zs, rfl, hl12.mono lgg, by omega, ?_, fun y hy => ?_⟩
        · rw [encs_take_succ ts ht', List.length_append, List.length_append]
          have := hW12.2.1
          omega
        · rcases List.mem_append.mp hy with hy | hy
          · obtain ⟨a, k, w, t', r1, r2, r3, r4⟩ := q3 y hy
            exact ⟨a, k, w, t', r1, r2, r3.mono lg12, r4⟩
          · obtain ⟨a, w, r1, r2, r3, r4⟩ := hW12.2.2 y hy
            refine ⟨a, j, w, t', r1, ht', ?_, r3, r4⟩
            have := r2.mono lgg
            rwa [List.append_assoc] at this
      · rintro D ys g' s9 ⟨q1, q2, q3⟩ hle _ F9 hD
        rw [hvz, List.take_length] at q2
        refine r_addL F9 (hl5.mono hle) hD (by simp; omega) fun a10 g10 s10 l10 F10 hl10 _ => ?_
        refine h _ _ _ F10.ext (hl10.mono F10.le_end) ⟨⟨ys, rfl⟩, ?_, fun y hy => ?_⟩
        · have := hd_pos 192 (encs ts).length
          rw [enc, List.length_append]; simp; omega
        · rcases List.mem_cons.mp hy with rfl | hy
          · exact ⟨wa, [], rfl, by rw [List.append_nil]; exact (((hw.mono l05).mono hle).mono l10).mono F10.le_end, trivial, Nat.zero_le _⟩
          · obtain ⟨a, k, w, t', r1, r2, r3, r4, r5⟩ := q3 y hy
            refine ⟨a, k :: w, r1, (r3.mono l10).mono F10.le_end, vld_cons r2 r4, ?_⟩
            have := ht_mem (List.mem_of_getElem? r2)
            rw [ht]; simp; omega

theorem way_ok (ok : c.Ok) {f : Addr} (hf : At c dWay f) : ∀ (n : Nat), WayC c f n
  | 0 => way_step ok hf fun m e => absurd e (by omega)
  | n + 1 => way_step ok hf fun m e => by have : m = n := by omega
                                          subst this; exact way_ok ok hf m
end
end Mine
end
section
open PySem PySem.Calls PySem.Spec PyProof.Rows PySem.W
open PySem.SeqAt
set_option maxRecDepth 100000
namespace Mine

/-- a step that may write into the frame's own objects Y -/
theorem St.growO {c : Cfg} {X Y : Addr → Prop} {s₀ s s' : Shared} {g₀ g : Heap} {L : Addr} {m : Str → Option Value} (F : St c X s₀ g₀ g L m s) (e : Ext c Y s s') (hY : ∀ b, Y b → (X b ∨ s₀.heap.objs.size ≤ b) ∧ b ≠ L ∧ g.get? b = none) :
    St c X s₀ g₀ (Mine.grow g s.heap.objs.size s'.heap) L m s' where
  ns := by
    obtain ⟨o, es, ep, a, r⟩ := F.ns
    exact ⟨o, es, ep, e.keep _ _ F.L_ne.2 (fun q => (hY _ q).2.1 rfl) a, r⟩
  fz := F.fz.grow e fun b q => (hY b q).2.2
  offL := grow_none F.offL F.ns.lt
  lo := F.lo
  ext := by
    refine ⟨fun b o h1 h2 q => e.keep b o h1 (fun y => ?_) (F.ext.keep b o h1 h2 q), fun ps t => ?_, Nat.le_trans F.ext.size e.size, e.os.trans F.ext.os, e.drawn.trans F.ext.drawn, fun i x q => e.gens i x (F.ext.gens i x q), fun i x hi q => ?_, fun h => (e.hit (F.ext.hitS h)).trans (F.ext.hit h)⟩
    · rcases (hY b y).1 with r | r
      · exact h2 r
      · exact Nat.lt_irrefl _ (Nat.lt_of_lt_of_le (Heap.lt_size q) r)
    · obtain ⟨m1, t1⟩ := F.ext.tab ps t
      obtain ⟨m2, t2⟩ := e.tab _ t1
      exact ⟨m1 ++ m2, by rw [← Array.append_assoc]; exact t2⟩
    · by_cases h1 : s.gens.size ≤ i
      · exact e.bare i x h1 q
      · have hlt : i < s.gens.size := by omega
        have e1 : s.gens[i]? = some s.gens[i] := Array.getElem?_eq_getElem hlt
        have e2 := e.gens _ _ e1
        rw [q] at e2; cases e2
        exact F.ext.bare i _ hi e1
  sub := fun b o h => by
    rcases grow_sub h with q | q
    · obtain ⟨o', q⟩ := Option.isSome_iff_exists.mp q; exact F.sub b o' q
    · exact .inr (.inl (Nat.le_trans F.ext.size q))
  ltX := F.ltX

section
variable {c : Cfg} {X Y : Addr → Prop} {A : Around} {E : Value → Shared → Prop} {s₀ s : Shared} {g₀ g : Heap} {m : Str → Option Value} {env : Env}

set_option maxHeartbeats 4000000 in
/-- the heart of a comprehension of one clause; its element may write into Y, what comes of the list is RR's -/
theorem comp_core {elt iter : Expr} {x : Str} {px : Pos} {scope : Scope} {cl : List (Str × Addr)} {pos : Pos} {s₂ : Shared} {I n : Nat} {P : Nat → Value → Prop} {fp : List Addr} {Stt : Nat → Heap → Prop} {RR : Value → Addr → Result → Shared → Prop} (J : Nat → List Value → Heap → Heap → Prop)
    (hcell : ∀ y ∈ scope.names, y.2 ≠ .cell) (hkind : scope.kind = .function) (hx : scope.names.lookup x = some .local) (hh : A.handled = none)
    (Io : ItOk c X s₀ s₂ g env.locals I n P fp Stt) (hn : n ≤ 16777216) (hXo : ∀ b, Y b → ((X b ∨ s₀.heap.objs.size ≤ b) ∧ b ≠ env.locals) ∧ b < I ∧ g.get? b = none) (F : St c X s₀ g₀ g env.locals m s₂) (hJ0 : J 0 [] g s₂.heap)
    (hJm : ∀ {j ys g h g' h'}, J j ys g h → Le g g' → (∀ b o, b < I → b ≠ env.locals → h.get? b = some o → h'.get? b = some o) → J j ys g' h')
    (helt : ∀ (B : Around) j ys v g' s₃ C mC, B.handled = none → B.depth = A.depth → J j ys g' s₃.heap → Le g g' → P j v → j < n → St c X s₀ g₀ g' env.locals m s₃ → (∀ b, Y b → g'.get? b = none) → s₃.heap.Ns C mC → mC x = some v →
        wpAny c.M B (eval elt (compEnvC scope cl C env)) (fun y s₄ => Ext c Y s₃ s₄ ∧ J (j + 1) (ys ++ [y]) (grow g' s₃.heap.objs.size s₄.heap) s₄.heap) (fun _ _ => False) s₃)
    (hfin : ∀ D C ys g' s₅, St c X s₀ g₀ g' env.locals m s₅ → Le g g' → (∀ b, Y b → g'.get? b = none) → g'.get? D = none → g'.get? C = none → D ≠ C → I < D → I < C → (D ≠ env.locals ∧ D ≠ c.eC ∧ D ≠ c.eP) → (C ≠ env.locals ∧ C ≠ c.eC ∧ C ≠ c.eP) →
      s₅.heap.IsList D ys.toArray → (∃ mC, s₅.heap.Ns C mC) → J n ys g' s₅.heap → ys.length = n → RR (.ref D) C (.ok .next) s₅) :
    wpAny c.M A (newList []) (fun acc s₃ => wpAny c.M A (newFunctionEnv scope env.globals cl [] env.qual none .none (some env)) (fun cenv s₄ =>
      codeAny c.M A (.compStart (.ListComp elt [⟨.Name x px, iter, [], 0⟩] scope pos) 0 (.ref I) acc { cenv with scope := relabel scope env }) (RR acc cenv.locals) s₄) E s₃) E s₂ := by
  refine wpAny_newObj_type (wpAny_newFunctionEnv hcell (by intro y hy; simp at hy) (fun h₁ hns₁ hsb₁ => ?_) hkind)
  dsimp only at hns₁ hsb₁ ⊢
  have hDa : (s₂.heap.push { cls := .type "list", data := .seq ([] : List Value).toArray }).get? s₂.heap.objs.size = some { cls := .type "list", data := .seq ([] : List Value).toArray } := Heap.get?_push_size _ rfl
  have hold : ∀ b o, s₂.heap.get? b = some o → (s₂.heap.push { cls := .type "list", data := .seq ([] : List Value).toArray }).get? b = some o := fun b o e => Heap.get?_push_of_some _ e
  have hC : (s₂.heap.push { cls := .type "list", data := .seq ([] : List Value).toArray }).objs.size = s₂.heap.objs.size + 1 := Heap.size_push ..
  generalize (s₂.heap.push { cls := .type "list", data := .seq ([] : List Value).toArray }) = H2 at *
  generalize hDd : s₂.heap.objs.size = D at *
  generalize hCc : H2.objs.size = C at *
  have hDC : D ≠ C := by rw [hC]; exact Nat.ne_of_lt (Nat.lt_succ_self _)
  have hlt : ∀ b o, s₂.heap.get? b = some o → b < D := fun b o e => hDd ▸ Heap.lt_size e
  have hDlC : D < C := by rw [hC]; exact Nat.lt_succ_self _
  have keep1 : ∀ b o, s₂.heap.get? b = some o → h₁.get? b = some o := fun b o e => hsb₁.extBut b o (Nat.ne_of_lt (Nat.lt_trans (hlt b o e) hDlC)) (Heap.get?_push_of_some _ (hold b o e))
  have hD1 : h₁.IsList D ([] : List Value).toArray := ⟨_, hsb₁.extBut _ _ hDC (Heap.get?_push_of_some _ hDa), rfl, 0, rfl⟩
  have F1 : St c X s₀ g₀ g env.locals m { s₂ with heap := h₁, toks := s₂.toks + ([] : List (Str × Value)).length } := F.keep keep1
  have hID : I < D := hDd ▸ Io.hi
  have hsD : s₀.heap.objs.size ≤ D := Nat.le_of_lt (Nat.lt_of_le_of_lt Io.lo hID)
  have hsC : s₀.heap.objs.size ≤ C := Nat.le_trans hsD (Nat.le_of_lt hDlC)
  have hLD : env.locals < D := let ⟨_, _, _, q, _⟩ := F.ns; hlt _ _ q
  obtain ⟨ps, tt⟩ := F.fz.tab
  have hecD : c.eC < D := hDd ▸ tt.lt.1
  have hepD : c.eP < D := hDd ▸ tt.lt.2
  have hgD : g.get? D = none := get_none_of_ge F.fz.le (by rw [hDd]; exact Nat.le_refl _)
  have hgC : g.get? C = none := get_none_of_ge F.fz.le (by rw [hDd]; exact Nat.le_of_lt hDlC)
  let Inv : Nat → Shared → Prop := fun k s₃ => ∃ j ys g', k + j = n ∧ Le g g' ∧ (∀ b, Y b → g'.get? b = none) ∧ g'.get? D = none ∧ g'.get? C = none ∧ g'.get? I = none ∧ ys.length = j ∧
    St c X s₀ g₀ g' env.locals m s₃ ∧ J j ys g' s₃.heap ∧ Stt j s₃.heap ∧ s₃.heap.IsList D ys.toArray ∧ ∃ mC, s₃.heap.Ns C mC
  have loop : ∀ s₃, s₃ = ({ s₂ with heap := h₁, toks := s₂.toks + ([] : List (Str × Value)).length } : Shared) →
      codeAny c.M A (.compLoop (.ListComp elt [⟨.Name x px, iter, [], 0⟩] scope pos) 0 (.ref I) (.ref D) (compEnvC scope cl C env)) (RR (.ref D) C) s₃ := by
    rintro s₃ rfl
    refine codeAny_compLoop_list Inv ?_ n ⟨0, [], g, rfl, fun _ _ e => e, fun b q => (hXo b q).2.2, hgD, hgC, Io.off, rfl, F1, hJm hJ0 (fun _ _ e => e) (fun b o _ _ e => keep1 b o e), (Io.W A hh).frame _ _ _ Io.st (fun b _ o e => keep1 b o e), hD1, ⟨_, hns₁⟩⟩
    rintro k s₃ ⟨j, ys, g', hkj, lg, hX', oD, oC, oI, hys, F3, hJ, hSt, hDl, mC, hnC⟩
    have hnI : C ≠ I := Nat.ne_of_gt (Nat.lt_trans hID hDlC)
    rcases Nat.eq_zero_or_pos k with rfl | hk
    · have hjn : j = n := by omega
      subst hjn
      refine (Io.W A hh).done s₃ _ _ hSt fun h' tk hk' => ?_
      have F4 : St c X s₀ g₀ g' env.locals m { s₃ with heap := h', toks := tk } := F3.writeI Io.lo Io.neL Io.neC Io.neP oI hk'
      have kk : ∀ b o, b ≠ I → s₃.heap.get? b = some o → h'.get? b = some o := fun b o h2 e => hk' b o (by simpa using h2) e
      exact hfin D C ys g' _ F4 lg hX' oD oC hDC hID (Nat.lt_trans hID hDlC) ⟨Ne.symm (Nat.ne_of_lt hLD), Ne.symm (Nat.ne_of_lt hecD), Ne.symm (Nat.ne_of_lt hepD)⟩
        ⟨Ne.symm (Nat.ne_of_lt (Nat.lt_trans hLD hDlC)), Ne.symm (Nat.ne_of_lt (Nat.lt_trans hecD hDlC)), Ne.symm (Nat.ne_of_lt (Nat.lt_trans hepD hDlC))⟩
        (hDl.at fun o e => kk D o (Ne.symm (Nat.ne_of_lt hID)) e) ⟨mC, hnC.at' fun o e => kk _ o hnI e⟩ (hJm hJ (fun _ _ e => e) fun b o hb _ e => kk b o (Nat.ne_of_lt hb) e) hys
    · have hjn : j < n := by omega
      refine (Io.W A hh).item j s₃ _ _ hjn hSt fun v h' tk hP hSt' hk' => ?_
      have F4 : St c X s₀ g₀ g' env.locals m { s₃ with heap := h', toks := tk } := F3.writeI Io.lo Io.neL Io.neC Io.neP oI hk'
      refine wpAny_assign_Name (wpAny_storeName_local (env := compEnvC scope cl C env) (lookup_relabel_local hx) (hnC.at' fun o e => hk' _ o (by simpa using hnI) e) (fun h2 hn2 hs2 => ?_) (by simp [compEnvC, relabel, hkind]))
      have hs2' : Heap.SameBut C h' h2 := hs2
      have F5 := F4.write (tk := tk + 1) (.inl hsC) (Ne.symm (Nat.ne_of_lt (Nat.lt_trans hLD hDlC))) (Ne.symm (Nat.ne_of_lt (Nat.lt_trans hecD hDlC))) (Ne.symm (Nat.ne_of_lt (Nat.lt_trans hepD hDlC))) oC hs2'
      have kk : ∀ b o, b ≠ C → b ≠ I → s₃.heap.get? b = some o → h2.get? b = some o := fun b o h1 h2' e => hs2'.extBut b o h1 (hk' b o (by simpa using h2') e)
      have hJ5 := hJm hJ (fun _ _ e => e) (fun b o hb _ e => kk b o (Nat.ne_of_lt (Nat.lt_trans hb (Nat.lt_trans hID hDlC))) (Nat.ne_of_lt hb) e)
      have hDl5 : h2.IsList D ys.toArray := hDl.at fun o e => kk D o hDC (Ne.symm (Nat.ne_of_lt hID)) e
      have hSt5 : Stt (j + 1) h2 := (Io.W A hh).frame _ _ _ hSt' fun b hb o e => hs2'.extBut b o (Nat.ne_of_lt (Nat.lt_of_le_of_lt (Io.fpl b hb).1 (Nat.lt_trans hID hDlC))) e
      refine wpAny_mono (helt A j ys v g' _ C _ hh rfl hJ5 lg hP hjn F5 hX' hn2 (if_pos rfl)) (fun y s₄ h₄ => ?_) fun _ _ q => q.elim
      obtain ⟨X4, hJ6⟩ := h₄
      have hYY : ∀ b, Y b → (X b ∨ s₀.heap.objs.size ≤ b) ∧ b ≠ env.locals ∧ g'.get? b = none := fun b q => ⟨(hXo b q).1.1, (hXo b q).1.2, hX' b q⟩
      have F6 := F5.growO X4 hYY
      have nX : ∀ b, I < b → ¬ Y b := fun b hb q => Nat.lt_irrefl _ (Nat.lt_trans hb (hXo b q).2.1)
      have ltD5 : D < h2.objs.size := let ⟨_, q, _⟩ := hDl5; Heap.lt_size q
      have ltC5 : C < h2.objs.size := hn2.lt
      have ltI5 : I < h2.objs.size := Nat.lt_trans hID ltD5
      have hDl6 : s₄.heap.IsList D ys.toArray := hDl5.at fun o e => X4.keep D o (Ne.symm (Nat.ne_of_lt hepD)) (nX D hID) e
      have hnC6 := hn2.at' fun o e => X4.keep C o (Ne.symm (Nat.ne_of_lt (Nat.lt_trans hepD hDlC))) (nX C (Nat.lt_trans hID hDlC)) e
      have hSt6 : Stt (j + 1) s₄.heap := (Io.W A hh).frame _ _ _ hSt5 fun b hb o e => X4.keep b o (Io.fpl b hb).2.1 (fun q => by
        rcases Io.own b hb with r | r
        · subst r; exact Nat.lt_irrefl _ (hXo b q).2.1
        · rw [(hXo b q).2.2] at r; cases r) e
      refine wpAny_list_append hDl6 (fun h7 hl7 hs7 => ?_) (by rw [sizeLine_eq]; simp; omega)
      have oD6 : (grow g' h2.objs.size s₄.heap).get? D = none := grow_none oD ltD5
      have F7 := F6.write (tk := s₄.toks) (.inl hsD) (Ne.symm (Nat.ne_of_lt hLD)) (Ne.symm (Nat.ne_of_lt hecD)) (Ne.symm (Nat.ne_of_lt hepD)) oD6 hs7
      refine ⟨k - 1, by omega, j + 1, ys ++ [y], grow g' h2.objs.size s₄.heap, by omega, fun b o e => le_grow (F5.fz.ext X4 hX').le _ _ (lg _ _ e), fun b q => grow_none (hX' b q) (Nat.lt_trans (hXo b q).2.1 ltI5), oD6, grow_none oC ltC5, grow_none oI ltI5, by simp [hys], F7,
        hJm hJ6 (fun _ _ e => e) (fun b o hb _ e => hs7.extBut b o (Nat.ne_of_lt (Nat.lt_trans hb hID)) e),
        (Io.W A hh).frame _ _ _ hSt6 (fun b hb o e => hs7.extBut b o (Nat.ne_of_lt (Nat.lt_of_le_of_lt (Io.fpl b hb).1 hID)) e), by simpa using hl7, _, hnC6.sameBut hs7 (Ne.symm hDC)⟩
  refine codeAny_compStart_list (loop _ rfl) ((Io.W A hh).self 0 _ _ _ ((Io.W A hh).frame _ _ _ Io.st (fun b _ o e => keep1 b o e)) (loop _ rfl))
end
end Mine
end
section
open PySem PySem.Calls PySem.Spec PyProof.Rows PySem.W
open PySem.SeqAt
set_option maxRecDepth 100000
namespace Mine

section
variable {c : Cfg} {X Y : Addr → Prop} {A : Around} {E : Value → Shared → Prop} {s₀ s : Shared} {g₀ g : Heap} {L : Addr} {m : Str → Option Value} {env : Env}

/-- a store into a cell of the frame's own; the cell is frozen then -/
theorem r_storeC {x : Str} {v : Value} {ca : Addr} {v₀ : Option Value} {Q : Unit → Shared → Prop} (F : St c X s₀ g₀ g L m s) (hoff : g.get? ca = none) (hv : s.heap.IsCell ca v₀) (lo : s₀.heap.objs.size ≤ ca) (hca : env.cells.lookup x = some ca)
    (h : ∀ G s', Le g G → St c X s₀ g₀ G L m s' → Cl G ca v → (∀ b o, b ≠ ca → s.heap.get? b = some o → s'.heap.get? b = some o) → (∀ b, b ≠ ca → g.get? b = none → G.get? b = none) → Q () s')
    (hk : env.scope.kind = .function := by rfl) (hl : env.kindOf x = some .cell := by rfl) :
    wpAny c.M A (storeName env x v) Q E s := by
  obtain ⟨ps, tt⟩ := F.fz.tab
  obtain ⟨o, e, hd⟩ := id hv
  have hn := tt.ne e fun vs q => by rw [hd] at q; cases q
  have hL : ca ≠ L := by
    obtain ⟨o', es, ep, e', hd'⟩ := F.nsL
    rintro rfl
    rw [e] at e'; cases e'; rw [hd] at hd'; cases hd'
  refine wpAny_storeName_cell hk hl hca hv fun h' hc' hs' => ?_
  have F1 := F.write (tk := s.toks) (.inl lo) hL hn.1 hn.2 hoff hs'
  refine h _ _ (le_put F1.fz.le) (F1.put (.inl lo) hL hn.2) ?_ (fun b o hb e => (hs'.2 b hb).trans e) fun b hb q => put_none q hb
  obtain ⟨o', e', hd'⟩ := hc'
  exact ⟨o', by rw [put_self]; exact e', hd'⟩

set_option maxHeartbeats 4000000 in
/-- x = [... for ...], x a cell -/
theorem compA_ok {elt iter : Expr} {x y : Str} {px py : Pos} {scope : Scope} {cl : List (Str × Addr)} {pos spos : Pos} {ca : Addr} {Q : Flow → Shared → Prop} (J : Nat → List Value → Heap → Heap → Prop)
    (hsw : swapsWith (.ListComp elt [⟨.Name x px, iter, [], 0⟩] scope pos) (some (.Name y py)) spos.line env = pure true)
    (hclos : closureFor scope env = pure cl) (hcell : ∀ y ∈ scope.names, y.2 ≠ .cell) (hkind : scope.kind = .function)
    (hnames : ∀ y ∈ scope.names, y.2 = .local → scope.names.lookup y.1 = some .local) (hx : scope.names.lookup x = some .local) (hh : A.handled = none)
    (hek : env.scope.kind = .function) (hyl : env.kindOf y = some .cell) (hyc : env.cells.lookup y = some ca)
    (h : wpAny c.M A (eval iter env) (fun xv s₁ => wpAny c.M A (pyIter xv) (fun it s₂ => ∃ g I n P fp Stt, it = .ref I ∧ ItOk c X s₀ s₂ g env.locals I n P fp Stt ∧ n ≤ 16777216 ∧ (∀ b, Y b → ((X b ∨ s₀.heap.objs.size ≤ b) ∧ b ≠ env.locals) ∧ b < I ∧ g.get? b = none) ∧
      St c X s₀ g₀ g env.locals m s₂ ∧ J 0 [] g s₂.heap ∧ ca < I ∧ s₀.heap.objs.size ≤ ca ∧ g.get? ca = none ∧ ¬ Y ca ∧ (∀ {j ys g h}, J j ys g h → h.IsCell ca none) ∧
      (∀ {j ys g h g' h'}, J j ys g h → Le g g' → (∀ b o, b < I → b ≠ env.locals → h.get? b = some o → h'.get? b = some o) → J j ys g' h') ∧
      (∀ (B : Around) j ys v g' s₃ C mC, B.handled = none → B.depth = A.depth → J j ys g' s₃.heap → Le g g' → P j v → j < n → St c X s₀ g₀ g' env.locals m s₃ → (∀ b, Y b → g'.get? b = none) → s₃.heap.Ns C mC → mC x = some v →
        wpAny c.M B (eval elt (compEnvC scope cl C env)) (fun y s₄ => Ext c Y s₃ s₄ ∧ J (j + 1) (ys ++ [y]) (grow g' s₃.heap.objs.size s₄.heap) s₄.heap) (fun _ _ => False) s₃) ∧
      (∀ D ys g' h' G s₅, J n ys g' h' → Le g g' → Le g' G → St c X s₀ g₀ G env.locals m s₅ → (∀ b, Y b → G.get? b = none) → Ls G D ys → ys.length = n → Cl G ca (.ref D) → (∀ b o, b < I → b ≠ ca → b ≠ env.locals → h'.get? b = some o → s₅.heap.get? b = some o) → Q .next s₅)) E s₁) E s)
    (hs : ∀ x, foldedSetIterable iter env x = pure x := by intro _; rfl) :
    wpAny c.M A (exec (.Assign [.Name y py] (.ListComp elt [⟨.Name x px, iter, [], 0⟩] scope pos) spos) env) Q E s := by
  rw [exec_Assign_Name_used _ _ _ _ hsw]
  refine wpAny_bind (wpAny_standAt (wpAny_bind ?_))
  show wpAny _ A (do let _ ← comprehension (.ListComp elt [⟨.Name x px, iter, [], 0⟩] scope pos) scope env _ (newList []) false (eval iter env) (some (assign (.Name y py) env))) _ _ s
  refine wpAny_bind (wpAny_mono (wpAny_comprehension_free (use := some (assign (.Name y py) env)) (Q := fun _ s' => Q .next s') rfl hs hclos hkind hnames
    (wpAny_mono h (fun xv s₁ h₁ => wpAny_mono h₁ (fun it s₂ h₂ => ?_) fun _ _ e => e) fun _ _ e => e)) (fun _ s' hq => wpAny_pure (wpAny_pure hq)) fun _ _ e => e)
  clear h
  obtain ⟨g, I, n, P, fp, Stt, rfl, Io, hn, hXo, F, hJ0, hcaI, hcas, hcag, hcaY, hJc, hJm, helt, hfin⟩ := h₂
  have hL0 : ca ≠ env.locals := by
    obtain ⟨o, e, hd⟩ := hJc hJ0
    obtain ⟨o', es, ep, e', hd'⟩ := F.nsL
    rintro rfl
    rw [e] at e'; cases e'; rw [hd] at hd'; cases hd'
  refine comp_core (Y := fun b => Y b ∨ b = ca) (RR := fun acc C => compPost c.M A E (some (assign (.Name y py) env)) (fun _ s' => Q .next s') acc C) J hcell hkind hx hh Io hn (fun b q => ?_) F hJ0 hJm ?_ ?_
  · rcases q with q | rfl
    · exact hXo b q
    · exact ⟨⟨.inr hcas, hL0⟩, hcaI, hcag⟩
  · intro B j ys v g' s₃ C mC q1 q2 q3 q4 q5 q6 q7 q8 q9 q10
    exact wpAny_mono (helt B j ys v g' s₃ C mC q1 q2 q3 q4 q5 q6 q7 (fun b r => q8 b (.inl r)) q9 q10) (fun y s₄ r => ⟨r.1.mono fun b => .inl, r.2⟩) fun _ _ r => r
  intro D C ys g' s₅ F5 hle hY' oD oC hDC hID hIC nD nC hDl ⟨mC, hnC⟩ hJ hys
  have hvc := hJc hJ
  obtain ⟨ps, tt⟩ := F5.fz.tab
  obtain ⟨o, e, hd⟩ := id hvc
  have hnc := tt.ne e fun vs q => by rw [hd] at q; cases q
  have hgca : g'.get? ca = none := hY' ca (.inr rfl)
  show wpAny _ A (assign (.Name y py) env (.ref D)) _ _ s₅
  refine wpAny_assign_Name (wpAny_storeName_cell hek hyl hyc hvc fun h' hc' hs' => ?_)
  have F6 := F5.write (tk := s₅.toks) (.inl hcas) hL0 hnc.1 hnc.2 hgca hs'
  have hCca : C ≠ ca := Nat.ne_of_gt (Nat.lt_trans hcaI hIC)
  have hDca : D ≠ ca := Nat.ne_of_gt (Nat.lt_trans hcaI hID)
  have hsI := Io.lo
  refine ⟨mC, hnC.sameBut hs' hCca, fun h'' hs'' => ?_⟩
  have F7 := F6.write (tk := s₅.toks) (.inl (Nat.le_trans hsI (Nat.le_of_lt hIC))) nC.1 nC.2.1 nC.2.2 oC hs''
  have F8 := F7.put (.inl (Nat.le_trans hsI (Nat.le_of_lt hID))) nD.1 nD.2.2
  have F9 := F8.put (.inl hcas) hL0 hnc.2
  have kk : ∀ b o, b ≠ ca → b ≠ C → s₅.heap.get? b = some o → h''.get? b = some o := fun b o h1 h2 e => hs''.extBut b o h2 ((hs'.2 b h1).trans e)
  have hDl' : Ls h'' D ys := hDl.at fun o e => kk _ o hDca hDC e
  have l79 : Le g' (Mine.put (Mine.put g' D h'') ca h'') := fun b o e => le_put F8.fz.le _ _ (le_put F7.fz.le _ _ e)
  refine hfin D ys g' s₅.heap _ _ hJ hle l79 F9 (fun b q => ?_) (Ls.mono (Ls.put hDl') (le_put F8.fz.le)) hys ?_ fun b o h1 h2 _ e => kk b o h2 (Nat.ne_of_lt (Nat.lt_trans h1 hIC)) e
  · refine put_none (put_none (hY' b (.inl q)) ?_) ?_
    · exact Nat.ne_of_lt (Nat.lt_trans (hXo b q).2.1 hID)
    · rintro rfl; exact hcaY q
  · obtain ⟨o', e', hd'⟩ := hc'
    exact ⟨o', by rw [put_self]; exact hs''.extBut _ _ (Ne.symm hCca) e', hd'⟩
end
end Mine
end
section
open PySem PySem.Calls PySem.Spec PyProof.Rows PySem.W
open PySem.SeqAt
set_option maxRecDepth 100000
namespace Mine

theorem eqB_at (A : Around) (s : Shared) (x y : List UInt8) (t u : Tok) : EqAt A s (.bytes x.toArray t) (.bytes y.toArray u) (x == y) := fun prog w E Q hq => by
  unfold eqBool
  refine wpAny_holding ?_
  refine wpAny_ite_split (fun hab => ?_) (fun _ => ?_)
  · have h := eq_of_beq hab
    injection h with h1 h2
    have hxy : x = y := by simpa using h1
    subst hxy
    rw [beq_self_eq_true] at hq
    exact wpAny_bind (wpAny_rule (wpAny_pure hq))
  · exact wpAny_bind (m := richCompare .Eq _ _) (eq_bytes (wpAny_truthy_bool hq))

mutual
theorem tr_eq {s : Shared} : ∀ (t : T) {v v' : Value} {A : Around}, Tr s.heap t v → Tr s.heap t v' → A.units + ht t < cLine → EqAt A s v v' true
  | .leaf b, _, _, A, ⟨t, e⟩, ⟨t', e'⟩, _ => by
    subst e e'
    have := eqB_at A s b b t t'
    rwa [beq_self_eq_true] at this
  | .node ts, _, _, A, ⟨a, vs, e, l, k⟩, ⟨a', vs', e', l', k'⟩, hu => by
    subst e e'
    by_cases h : a = a'
    · subst h; exact EqAt.same _
    · rw [ht] at hu
      have hz : vs.toArray.size = vs'.toArray.size := by rw [List.size_toArray, List.size_toArray, k.length, k'.length]
      have := RcAt.lists (A := A) (s := s) (e := fun _ => true) l l' hz (by omega) fun j h1 h2 => trs_eq ts k k' (by show A.units + 1 + hts ts < cLine; omega) j (by simpa using h1) (by simpa using h2)
      rw [List.all_eq_true.mpr (fun _ _ => rfl)] at this
      exact EqAt.of_refs h this
theorem trs_eq {s : Shared} : ∀ (ts : List T) {vs vs' : List Value} {A : Around}, Trs s.heap ts vs → Trs s.heap ts vs' → A.units + hts ts < cLine → ∀ j (h1 : j < vs.length) (h2 : j < vs'.length), EqAt A s vs[j] vs'[j] true
  | [], _, _, _, e, _, _, j, h1, _ => by subst e; simp at h1
  | t :: ts, _, _, A, ⟨v, ws, e, x, k⟩, ⟨v', ws', e', x', k'⟩, hu, 0, _, _ => by
    subst e e'
    rw [hts] at hu
    exact tr_eq t x x' (by omega)
  | t :: ts, _, _, A, ⟨v, ws, e, x, k⟩, ⟨v', ws', e', x', k'⟩, hu, j + 1, h1, h2 => by
    subst e e'
    rw [hts] at hu
    exact trs_eq ts k k' (by omega) j (by simpa using h1) (by simpa using h2)
end

theorem ht_pcs : ∀ n (t : T), ht t ≤ n → ht (pcs t) ≤ n + 1 := by
  intro n
  induction n with
  | zero => intro t h; cases t with
    | leaf b => simp [pcs, ht, hts]
    | node ts => rw [ht] at h; omega
  | succ n ih => intro t h; cases t with
    | leaf b => simp [pcs, ht, hts]
    | node ts =>
      rw [ht] at h
      have : ∀ us : List T, hts us ≤ n → hts (pcss us) ≤ n + 1 := by
        intro us
        induction us with
        | nil => intro _; simp [pcss, hts]
        | cons u us ihu => intro hu; rw [hts] at hu; rw [pcss, hts]; have := ih u (by omega); have := ihu (by omega); omega
      have := this ts (by omega)
      rw [pcs, ht, hts, ht]; omega
end Mine
end
section
open PySem PySem.Calls PySem.Spec PyProof.Rows PySem.W
open PySem.SeqAt
set_option maxRecDepth 100000
namespace Mine

theorem ints_get {vs : List Value} {ns : List Int} (h : IntsAre vs ns) : ∀ (j : Nat) (h1 : j < vs.length), ∃ t, ∃ h2 : j < ns.length, vs[j] = .int ns[j] t := by
  induction h with
  | nil => intro j h1; simp at h1
  | cons n t _ ih => intro j h1; cases j with
    | zero => exact ⟨t, by simp, rfl⟩
    | succ j => obtain ⟨t', h2, e⟩ := ih j (by simpa using h1); exact ⟨t', by simpa using h2, by simpa using e⟩

section
variable {c : Cfg} {X : Addr → Prop} {A : Around} {E : Value → Shared → Prop} {s₀ s : Shared} {g₀ g : Heap} {L : Addr} {m : Str → Option Value} {env : Env}

/-- two ways -/
theorem r_eqWy {a b : Addr} {v w : List Nat} {Q : Value → Shared → Prop} (F : St c X s₀ g₀ g L m s) (ha : Wy g v a) (hb : Wy g w b) (hu : A.units < cLine) (h : Q (.bool (decide (v = w))) s) : wpAny c.M A (compareOp .Eq (.ref a) (.ref b)) Q E s := by
  obtain ⟨vs, hl, hi⟩ := ha.mono F.fz.le
  obtain ⟨ws, hl', hi'⟩ := hb.mono F.fz.le
  have e1 : vs.length = v.length := by rw [hi.length, List.length_map]
  have e2 : ws.length = w.length := by rw [hi'.length, List.length_map]
  by_cases hz : vs.length = ws.length
  · refine eq_listAt (e := fun j => (v.getD j 0 == w.getD j 0)) hl.isList hl'.isList (by simpa using hz) hu (fun j h1 h2 => ?_) ?_
    · have h1' : j < vs.length := by simpa using h1
      have h2' : j < ws.length := by simpa using h2
      obtain ⟨t, k1, q1⟩ := ints_get hi j h1'
      obtain ⟨u, k2, q2⟩ := ints_get hi' j h2'
      have g1 : vs.toArray[j] = .int ((v.getD j 0 : Nat) : Int) t := by
        simp only [List.getElem_toArray, q1, List.getElem_map, List.getD_eq_getElem?_getD]
        rw [List.getElem?_eq_getElem (by omega)]; rfl
      have g2 : ws.toArray[j] = .int ((w.getD j 0 : Nat) : Int) u := by
        simp only [List.getElem_toArray, q2, List.getElem_map, List.getD_eq_getElem?_getD]
        rw [List.getElem?_eq_getElem (by omega)]; rfl
      rw [g1, g2]
      have := EqAt.int_int (A := A.in1) (s := s) ((v.getD j 0 : Nat) : Int) t ((w.getD j 0 : Nat) : Int) u
      have eb : (((v.getD j 0 : Nat) : Int) == ((w.getD j 0 : Nat) : Int)) = (v.getD j 0 == w.getD j 0) := by
        rw [Bool.eq_iff_iff]; simp only [beq_iff_eq]; omega
      rwa [eb] at this
    · have : (List.range vs.toArray.size).all (fun j => (v.getD j 0 == w.getD j 0)) = decide (v = w) := by
        rw [Bool.eq_iff_iff, List.all_eq_true, decide_eq_true_eq]
        constructor
        · intro hh
          refine List.ext_getElem (by omega) fun j k1 k2 => ?_
          have := hh j (by simp; omega)
          simpa [List.getD_eq_getElem?_getD, List.getElem?_eq_getElem k1, List.getElem?_eq_getElem k2] using this
        · rintro rfl; intro j _; simp
      rw [this]; exact h
  · refine eq_list_lengthsAt hl.isList hl'.isList (by simpa using hz) hu ?_
    have : decide (v = w) = false := by
      rw [decide_eq_false_iff_not]; rintro rfl; omega
    rw [this] at h; exact h
end
end Mine
end
section
namespace Mine

theorem vld0_how (how : Nat) : ∀ {w : List Nat} {t : T}, vld 0 w t → vld how w t
  | [], _, _ => trivial
  | [k], .node ts, h => by
    rcases h with h | ⟨_, h⟩
    · exact .inl h
    · omega
  | _ :: k2 :: w, .node ts, h => ⟨h.1, vld0_how how h.2⟩
  | [_], .leaf _, h => h.elim
  | _ :: _ :: _, .leaf _, h => h.elim

/-- what comes in place of the k-th -/
noncomputable def sub (p : T) (w : List Nat) (t : T) : T := ed p 0 w t

theorem ed_set {p : T} {k : Nat} {w : List Nat} {ts : List T} (hk : k < ts.length) : ed p 0 (k :: w) (.node ts) = .node (ts.set k (ed p 0 w (ts.getD k (.leaf [])))) := by
  have e : ∀ x, ts.take k ++ [x] ++ ts.drop (k + 1) = ts.set k x := fun x => by
    rw [List.set_eq_take_append_cons_drop, if_pos hk]; simp
  cases w with
  | nil =>
    rw [ed, ed]
    simp only [show ¬ (0 = 2) by decide, if_false, show ¬ (0 = 1) by decide]
    rw [e]
  | cons k2 w2 => rw [ed, e]

theorem ed_comm {p q : T} {i j : Nat} {u v : List Nat} {ts : List T} (hi : i < ts.length) (hj : j < ts.length) (hij : i ≠ j) :
    ed q 0 (j :: v) (ed p 0 (i :: u) (.node ts)) = ed p 0 (i :: u) (ed q 0 (j :: v) (.node ts)) := by
  rw [ed_set hi, ed_set hj, ed_set (by simpa using hj), ed_set (by simpa using hi)]
  have e1 : (ts.set i (ed p 0 u (ts.getD i (.leaf [])))).getD j (.leaf []) = ts.getD j (.leaf []) := by simp [List.getD_eq_getElem?_getD, List.getElem?_set, hij]
  have e2 : (ts.set j (ed q 0 v (ts.getD j (.leaf [])))).getD i (.leaf []) = ts.getD i (.leaf []) := by simp [List.getD_eq_getElem?_getD, List.getElem?_set, Ne.symm hij]
  rw [e1, e2, List.set_comm _ _ hij]

theorem vld_set {how i j : Nat} {v : List Nat} {ts : List T} {x : T} (hij : i ≠ j) (h : vld how (j :: v) (.node ts)) : vld how (j :: v) (.node (ts.set i x)) := by
  cases v with
  | nil => simpa [vld] using h
  | cons k w =>
    obtain ⟨h1, h2⟩ := h
    refine ⟨by simpa using h1, ?_⟩
    have e1 : (ts.set i x).getD j (.leaf []) = ts.getD j (.leaf []) := by simp [List.getD_eq_getElem?_getD, List.getElem?_set, hij]
    rw [e1]; exact h2

theorem ed_ht {p : T} {how n : Nat} (hp : ht p ≤ n) : ∀ {w : List Nat} {t : T}, ht (ed p how w t) ≤ n + w.length + ht t
  | [], t => by rw [ed]; omega
  | [k], .node ts => by
    rw [ed, ht]
    have h1 : ∀ (us : List T) (m : Nat), (∀ t ∈ us, ht t ≤ m) → hts us ≤ m := by
      intro us m
      induction us with
      | nil => intro _; simp [hts]
      | cons u us ihu => intro hu; rw [hts]; have := hu u (List.mem_cons_self ..); have := ihu fun t ht => hu t (List.mem_cons_of_mem _ ht); omega
    have : hts (ts.take k ++ (if how = 2 then [] else [p]) ++ ts.drop (k + if how = 1 then 0 else 1)) ≤ n + hts ts := by
      refine h1 _ _ fun t ht => ?_
      rcases List.mem_append.mp ht with ht | ht
      · rcases List.mem_append.mp ht with ht | ht
        · have := ht_mem (List.mem_of_mem_take ht); omega
        · split at ht
          · cases ht
          · rw [List.mem_singleton] at ht; subst ht; omega
      · have := ht_mem (List.mem_of_mem_drop ht); omega
    rw [ht]; simp only [List.length_cons, List.length_nil]; omega
  | k :: k2 :: w, .node ts => by
    rw [ed, ht]
    have h1 : ∀ (us : List T) (m : Nat), (∀ t ∈ us, ht t ≤ m) → hts us ≤ m := by
      intro us m
      induction us with
      | nil => intro _; simp [hts]
      | cons u us ihu => intro hu; rw [hts]; have := hu u (List.mem_cons_self ..); have := ihu fun t ht => hu t (List.mem_cons_of_mem _ ht); omega
    have ih := ed_ht (how := how) hp (w := k2 :: w) (t := ts.getD k (.leaf []))
    have hg : ht (ts.getD k (.leaf [])) ≤ hts ts := by
      rw [List.getD_eq_getElem?_getD]
      cases q : ts[k]? with
      | none => simp [ht]
      | some t => exact ht_mem (List.mem_of_getElem? q)
    have : hts (ts.take k ++ [ed p how (k2 :: w) (ts.getD k (.leaf []))] ++ ts.drop (k + 1)) ≤ n + (k2 :: w).length + hts ts := by
      refine h1 _ _ fun t ht => ?_
      rcases List.mem_append.mp ht with ht | ht
      · rcases List.mem_append.mp ht with ht | ht
        · have := ht_mem (List.mem_of_mem_take ht); omega
        · rw [List.mem_singleton] at ht; subst ht; omega
      · have := ht_mem (List.mem_of_mem_drop ht); omega
    rw [ht]; simp only [List.length_cons] at this ⊢; omega
  | _ :: _, .leaf b => by simp [ed, ht]
end Mine
end
section
open PySem PySem.Calls PySem.Spec PyProof.Rows PySem.W
open PySem.SeqAt
set_option maxRecDepth 100000
namespace Mine

theorem draw_list {prog : Program} {w : World} {A : Around} {E : Value → Shared → Prop} {it t : Addr} {items : Array Value} (hne : t ≠ it) : ∀ (n i : Nat) (s : Shared) (Q : List Value → Shared → Prop), s.heap.IsListIter it t i → s.heap.IsList t items → i + n ≤ items.size →
    (∀ h', h'.IsListIter it t (i + n) → Heap.SameBut it s.heap h' → Q ((items.toList.drop i).take n) { s with heap := h' }) → wpAny (model prog w) A (draw (.ref it) n) Q E s
  | 0, i, s, Q, hit, _, _, hQ => by
    show wpAny _ _ (pure []) Q E s
    exact wpAny_pure (by simpa using hQ s.heap hit (Heap.SameBut.refl ..))
  | n + 1, i, s, Q, hit, ht, hle, hQ => by
    have hlt : i < items.size := by omega
    show wpAny _ _ (pyNext (.ref it) >>= _) Q E s
    refine wpAny_bind (wpAny_pyNext_list_item hit ht (x := items[i]) (by simp [hlt]) fun h₁ hit₁ hs₁ => ?_)
    refine wpAny_bind (wpAny_holding (draw_list hne n (i + 1) _ _ hit₁ (ht.extBut hs₁.extBut hne) (by omega) fun h₂ hit₂ hs₂ => wpAny_pure ?_))
    have hd : items.toList.drop i = items[i] :: items.toList.drop (i + 1) := by simp [List.drop_eq_getElem_cons, hlt]
    have := hQ h₂ (by rw [show i + (n + 1) = i + 1 + n by omega]; exact hit₂) (hs₁.trans hs₂)
    rw [hd, List.take_succ_cons] at this
    exact this

section
variable {c : Cfg} {X : Addr → Prop} {A : Around} {E : Value → Shared → Prop} {s₀ s : Shared} {g₀ g : Heap} {L : Addr} {m : Str → Option Value} {env : Env}

/-- a, b, … = a list -/
theorem r_unpackL {elts : List Expr} {k : Nat} {pos : Pos} {a : Addr} {vs : List Value} {Q : Unit → Shared → Prop} (F : St c X s₀ g₀ g L m s) (hh : A.handled = none) (hl : Ls g a vs)
    (hn : (assignEach elts env).length = vs.length) (hstar : (assignEach elts env).findIdx? (·.1) = none)
    (h : ∀ s', St c X s₀ g₀ g L m s' → wpAny c.M A (assignInOrder ((assignEach elts env).map (·.2)) vs) Q E s') :
    wpAny c.M A (assign (.Tuple elts k pos) env (.ref a)) Q E s := by
  have hl' := (hl.mono F.fz.le).isList
  have hlt : a ≠ s.heap.objs.size := Nat.ne_of_lt (hl.mono F.fz.le).lt
  rw [assign_Tuple]
  refine wpAny_bind (wpAny_standAt ?_)
  unfold unpack
  rw [hn, hstar]
  refine wpAny_bind (wpAny_holding ?_)
  unfold unpackItems
  refine wpAny_bind ?_
  unfold notIterableAtAll
  refine wpAny_bind (wpAny_specialOf hl'.typeIs slot_list_iter.lookup ?_)
  refine wpAny_pure ?_
  simp only [Bool.false_eq_true, if_false]
  refine wpAny_bind (wpAny_holding (wpAny_pyIter_list hl' ?_))
  refine wpAny_bind (wpAny_holding (draw_list (items := vs.toArray) hlt vs.length 0 _ _ ⟨_, Heap.get?_push_size _ rfl, rfl, rfl⟩ (hl'.push _) (by simp) fun h₁ hit₁ hs₁ => ?_))
  have hall : List.take vs.length (List.drop 0 vs.toArray.toList) = vs := by
    rw [List.drop_zero]; exact List.take_of_length_le (by simp)
  rw [hall, if_neg (by simp)]
  have hl₁ : h₁.IsList a vs.toArray := (hl'.push _).extBut hs₁.extBut hlt
  refine wpAny_bind (wpAny_holding (wpAny_pyNext_list_end hh hit₁ hl₁ (by simp) fun h₂ he₂ => ?_))
  simp only [Option.isSome_none, Bool.false_eq_true, if_false]
  refine wpAny_pure (h _ (F.keep (k := s.toks) fun b o e => he₂ b o (Nat.ne_of_lt (Heap.lt_size e)) (hs₁.extBut b o (Nat.ne_of_lt (Heap.lt_size e)) (Heap.get?_push_of_some _ e))))
end

/-- an edit -/
def EdS (g : Heap) (ts : List T) (v : Value) (w : List Nat) (p : T) (how : Nat) : Prop :=
  ∃ a wa pv th, v = .ref a ∧ Tp g a [.ref wa, pv, .int how th] ∧ Wy g w wa ∧ Tr g p pv ∧ (vld 0 w (.node ts) ∨ (w = [ts.length] ∧ how = 1)) ∧ Bd 1 p ∧ how ≤ 2 ∧ w.length ≤ 4
theorem EdS.mono {g h : Heap} {ts : List T} {v : Value} {w : List Nat} {p : T} {how : Nat} (x : EdS g ts v w p how) (hl : Le g h) : EdS h ts v w p how :=
  let ⟨a, wa, pv, th, e, h1, h2, h3, r⟩ := x; ⟨a, wa, pv, th, e, h1.mono hl, h2.mono hl, h3.mono hl, r⟩
end Mine
end
section
open PySem PySem.Calls PySem.Spec PyProof.Rows PySem.W
open PySem.SeqAt
set_option maxRecDepth 100000
namespace Mine

theorem encs_set {ts : List T} {k : Nat} {t : T} (ht : ts[k]? = some t) (x : T) : (encs (ts.take k ++ [x] ++ ts.drop (k + 1))).length + (enc t).length = (encs ts).length + (enc x).length := by
  rw [encs_split ts ht, encs_append, encs_append]
  simp [encs]; omega

theorem ed_enc {p : T} {how : Nat} : ∀ {w : List Nat} {t : T}, vld how w t → (enc t).length + (enc p).length + 9 * w.length < 2 ^ 59 → (enc (ed p how w t)).length ≤ (enc t).length + (enc p).length + 9 * w.length
  | [], t, _, _ => by rw [ed]; omega
  | [k], .node ts, hv, hz => by
    obtain ⟨old, post, q1, q2, q3⟩ := enc_ed_nil (p := p) hv
    have h1 := hd_pos 192 (encs ts).length
    have h3 : (fresh p how old).length ≤ (enc p).length + old.length := by
      unfold fresh; rw [List.length_append]; split <;> split <;> simp <;> omega
    have h4 : (encs ts).length = (encs (ts.take k)).length + (old.length + post.length) := by rw [q1, List.length_append, List.length_append]
    rw [enc, List.length_append] at hz ⊢
    have h5 : (encs (ts.take k) ++ fresh p how old ++ post).length ≤ (encs ts).length + (enc p).length := by simp only [List.length_append]; omega
    have h2 := hd_len 192 (encs (ts.take k) ++ fresh p how old ++ post).length (by omega)
    rw [q3, List.length_append]
    simp only [List.length_cons, List.length_nil]; omega
  | k :: k2 :: w, .node ts, hv, hz => by
    obtain ⟨hk, hv'⟩ := hv
    obtain ⟨t', ht'⟩ : ∃ t', ts[k]? = some t' := ⟨_, List.getElem?_eq_getElem hk⟩
    have eg : ts.getD k (.leaf []) = t' := by rw [List.getD_eq_getElem?_getD, ht']; rfl
    rw [eg] at hv'
    have hle := enc_mem ht'
    have h1 := hd_pos 192 (encs ts).length
    rw [enc, List.length_append] at hz ⊢
    simp only [List.length_cons] at hz ⊢
    have ih := ed_enc (p := p) hv' (by simp only [List.length_cons]; omega)
    simp only [List.length_cons] at ih
    have h4 : (encs ts).length = (encs (ts.take k)).length + ((enc t').length + (encs (ts.drop (k + 1))).length) := by rw [encs_split ts ht', List.length_append, List.length_append]
    have h5 : (encs (ts.take k) ++ enc (ed p how (k2 :: w) t') ++ encs (ts.drop (k + 1))).length ≤ (encs ts).length + (enc p).length + 9 * (w.length + 1) := by simp only [List.length_append]; omega
    have h2 := hd_len 192 (encs (ts.take k) ++ enc (ed p how (k2 :: w) t') ++ encs (ts.drop (k + 1))).length (by omega)
    rw [enc_ed_cons ht', List.length_append]
    omega
  | [_], .leaf _, h, _ => h.elim
  | _ :: _ :: _, .leaf _, h, _ => h.elim

section
variable {c : Cfg} {A : Around} {s₀ s : Shared} {g₀ g : Heap} {f : Addr} {cd : Value} {m : Str → Option Value}

abbrev lawEnv (s₀ : Shared) (f : Addr) (cd : Value) : Env := envC dLaw s₀.heap.objs.size f cd

/-- the law's end: two edits in either order -/
theorem law_end (ok : c.Ok) {ts : List T} {to : Tok} {ta E0 : Addr} {e0 e1 : Value} {w0 w1 : List Nat} {p0 p1 : T} {h0 h1 : Nat} {Q : Flow → Shared → Prop} (F : St c noX s₀ g₀ g (lawEnv s₀ f cd).locals m s)
    (hd : A.depth ≤ 500) (hu : A.units ≤ 5000) (hh : A.handled = none) (hts : ∀ t ∈ ts, Bd 2 t) (hz : (enc (.node ts)).length ≤ 100000) (n_oct : m (Str.ofString "octets") = some (.bytes (enc (.node ts)).toArray to)) (n_ed : m (Str.ofString "edits") = some (.ref E0))
    (hE : Ls g E0 [e0, e1]) (hs0 : EdS g ts e0 w0 p0 h0) (hs1 : EdS g ts e1 w1 p1 h1) (hc : Cl g (s₀.heap.objs.size + 2) (.ref ta)) (hT : Tr g (.node ts) (.ref ta))
    (h : ∀ s', Pex c s₀ s' → Q (.ret (.bool true)) s') : wpAny c.M A (execs (dLaw.body.drop 6) (lawEnv s₀ f cd)) Q (fun _ _ => False) s := by
  obtain ⟨fE, hEf⟩ := ok.at_ (d := dEnc) (by rw [recs_eq]; simp)
  obtain ⟨fS, hSf⟩ := ok.at_ (d := dSpl) (by rw [recs_eq]; simp)
  obtain ⟨fD, hDf⟩ := ok.at_ (d := dEdi) (by rw [recs_eq]; simp)
  obtain ⟨a0, wa0, pv0, th0, rfl, hT0', hW0, hP0, hv0, hB0, hh0, hl0⟩ := hs0
  obtain ⟨a1, wa1, pv1, th1, rfl, hT1', hW1, hP1, hv1, hB1, hh1, hl1⟩ := hs1
  obtain ⟨vs, hl, hTs⟩ := Tr.size hT
  have hvz := hTs.length
  have htl := encs_len ts
  have hez := no_self ts
  refine wpAny_execs_cons (Assign_Tuple (r_name F n_ed (r_unpackL F hh hE (by rfl) (by rfl) fun s1 F1 => r_into (r_store F1 fun s2 F2 => r_into (r_store F2 fun s3 F3 => assignInOrder_nil ?_)))))
  obtain ⟨m3, F3, n_oct, n_f, n_s⟩ : ∃ m3, St c noX s₀ g₀ g (lawEnv s₀ f cd).locals m3 s3 ∧ m3 (Str.ofString "octets") = some (.bytes (enc (.node ts)).toArray to) ∧ m3 (Str.ofString "first") = some (.ref a0) ∧ m3 (Str.ofString "second") = some (.ref a1) := ⟨_, F3, n_oct, by rfl, by rfl⟩
  clear F F1 F2
  have hbg := F3.fz.base
  obtain ⟨v0, hv0l, hv0i⟩ := id hW0
  obtain ⟨v1, hv1l, hv1i⟩ := id hW1
  have z0 : v0.length = w0.length := by rw [hv0i.length, List.length_map]
  have z1 : v1.length = w1.length := by rw [hv1i.length, List.length_map]
  refine wpAny_execs_cons (wpAny_If (wpAny_mono (Q := fun b s' => St c noX s₀ g₀ g (lawEnv s₀ f cd).locals m3 s' ∧ (b = false → ∃ i u j v, w0 = i :: u ∧ w1 = j :: v ∧ i ≠ j ∧ w0 ≠ [ts.length] ∧ w1 ≠ [ts.length])) ?_ (fun b s4 q => ?_) fun _ _ q => q))
  · refine wpAny_isTrue_BoolOp (wpAny_allTrue_Or_cons (wpAny_isTrue_Compare1 (Subscript_ (r_name F3 n_f (r_int F3 fun t4 s4 F4 => r_itemT (i := 0) F4 hT0' (by rfl) (by decide) (by rfl) (r_list (r_args_nil (r_newL F4 (by simp) fun a5 g5 s5 l5 F5 hl5 _ => r_eqNil F5 (hv0l.mono l5) hl5 (by simp [cLine]; omega) ?_))))))))
    have F5 := F5.less l5 hbg
    cases w0 with
    | nil =>
      have : v0 = [] := List.length_eq_zero_iff.mp z0
      subst this
      exact r_yes rfl ⟨F5, fun q => by cases q⟩
    | cons i u =>
      have hne0 : v0.isEmpty = false := by cases v0 with
        | nil => simp at z0
        | cons _ _ => rfl
      refine r_no hne0 ?_
      refine wpAny_allTrue_Or_cons (wpAny_isTrue_Compare1 (Subscript_ (r_name F5 n_s (r_int F5 fun t6 s6 F6 => r_itemT (i := 0) F6 hT1' (by rfl) (by decide) (by rfl) (r_list (r_args_nil (r_newL F6 (by simp) fun a7 g7 s7 l7 F7 hl7 _ => r_eqNil F7 (hv1l.mono l7) hl7 (by simp [cLine]; omega) ?_)))))))
      have F7 := F7.less l7 hbg
      cases w1 with
      | nil =>
        have : v1 = [] := List.length_eq_zero_iff.mp z1
        subst this
        exact r_yes rfl ⟨F7, fun q => by cases q⟩
      | cons j v =>
        have hne1 : v1.isEmpty = false := by cases v1 with
          | nil => simp at z1
          | cons _ _ => rfl
        refine r_no hne1 ?_
        obtain ⟨ti, r0, hv0c, _⟩ := hW0.cons
        obtain ⟨tj, r1, hv1c, _⟩ := hW1.cons
        refine wpAny_allTrue_Or_cons (wpAny_isTrue_Compare1 (Subscript_ (Subscript_ (r_name F7 n_f (r_int F7 fun t8 s8 F8 => r_itemT (i := 0) F8 hT0' (by rfl) (by decide) (by rfl) (r_int F8 fun t9 s9 F9 => r_itemL (i := 0) F9 hv0c (by rfl) (by decide) (by rfl) ?_))))))
        refine Subscript_ (Subscript_ (r_name F9 n_s (r_int F9 fun t10 s10 F10 => r_itemT (i := 0) F10 hT1' (by rfl) (by decide) (by rfl) (r_int F10 fun t11 s11 F11 => r_itemL (i := 0) F11 hv1c (by rfl) (by decide) (by rfl) (r_eqI ?_)))))
        by_cases hij : i = j
        · exact r_yes (by subst hij; simp) ⟨F11, fun q => by cases q⟩
        · refine r_no (by simp; omega) ?_
          have lenW : ∀ {s12 : Shared} {Q' : Value → Shared → Prop} {pos p1 p2 p3 : Pos}, St c noX s₀ g₀ g (lawEnv s₀ f cd).locals m3 s12 → (∀ a g' s', Le g g' → St c noX s₀ g₀ g' (lawEnv s₀ f cd).locals m3 s' → Wy g' [ts.length] a → Q' (.ref a) s') →
              wpAny c.M A (eval (.List [.Call (.Name "len" p1) [.Name "tree" p2] [] p3] pos) (lawEnv s₀ f cd)) Q' (fun _ _ => False) s12 := fun {s12 Q' pos p1 p2 p3} F12 k => by
            refine r_list (r_args_cons (r_call (r_builtin ok F12.fz (by rfl) (r_with_builtin (r_args_cons (r_cell (ca := s₀.heap.objs.size + 2) F12.fz hc (by rfl) (r_args_nil (r_lenL F12 hl (by omega) fun t13 s13 F13 => r_args_nil (r_newL F13 (by simp) fun a14 g14 s14 l14 F14 hl14 _ => k _ _ _ l14 F14 ⟨_, hl14, ?_⟩)))))))))
            rw [hvz]; exact IntsAre.cons _ _ IntsAre.nil
          refine wpAny_allTrue_Or_cons (wpAny_isTrue_Compare1 (Subscript_ (r_name F11 n_f (r_int F11 fun t12 s12 F12 => r_itemT (i := 0) F12 hT0' (by rfl) (by decide) (by rfl) (lenW F12 fun a13 g13 s13 l13 F13 hw13 => r_eqWy F13 (hW0.mono l13) hw13 (by simp [cLine]; omega) ?_)))))
          have F13 := F13.less l13 hbg
          by_cases hn0 : i :: u = [ts.length]
          · exact r_yesD hn0 ⟨F13, fun q => by cases q⟩
          · refine r_noD hn0 ?_
            refine wpAny_allTrue_Or_cons (wpAny_isTrue_Compare1 (Subscript_ (r_name F13 n_s (r_int F13 fun t14 s14 F14 => r_itemT (i := 0) F14 hT1' (by rfl) (by decide) (by rfl) (lenW F14 fun a15 g15 s15 l15 F15 hw15 => r_eqWy F15 (hW1.mono l15) hw15 (by simp [cLine]; omega) ?_)))))
            have F15 := F15.less l15 hbg
            by_cases hn1 : j :: v = [ts.length]
            · exact r_yesD hn1 ⟨F15, fun q => by cases q⟩
            · exact r_noD hn1 (wpAny_allTrue_Or_nil ⟨F15, fun _ => ⟨i, u, j, v, rfl, rfl, hij, hn0, hn1⟩⟩)
  obtain ⟨F4, hcase⟩ := q
  cases b with
  | true => exact wpAny_execs_cons (wpAny_Return_some (r_bool (h _ F4.ext)))
  | false =>
    obtain ⟨i, u, j, v, rfl, rfl, hij, hn0, hn1⟩ := hcase rfl
    refine wpAny_execs_nil ?_
    have hv0 : vld 0 (i :: u) (.node ts) := by rcases hv0 with q | q; exact q; exact absurd q.1 hn0
    have hv1 : vld 0 (j :: v) (.node ts) := by rcases hv1 with q | q; exact q; exact absurd q.1 hn1
    have hi : i < ts.length := by
      cases u with
      | nil => rcases hv0 with q | q; exact q; exact absurd q.2 (by decide)
      | cons _ _ => exact hv0.1
    have hj : j < ts.length := by
      cases v with
      | nil => rcases hv1 with q | q; exact q; exact absurd q.2 (by decide)
      | cons _ _ => exact hv1.1
    have hh3 : ht (.node ts) ≤ 3 := by
      rw [ht]
      have : ∀ us : List T, (∀ t ∈ us, Bd 2 t) → Mine.hts us ≤ 2 := by
        intro us
        induction us with
        | nil => intro _; simp [Mine.hts]
        | cons u us ihu => intro hu; rw [Mine.hts]; have := (hu u (List.mem_cons_self ..)).ht; have := ihu fun t ht => hu t (List.mem_cons_of_mem _ ht); omega
      have := this ts hts
      omega
    have hp0 := hB0.ht
    have hp1 := hB1.ht
    have hz0 : (enc p0).length ≤ 273 := hB0.enc (by decide)
    have hz1 : (enc p1).length ≤ 273 := hB1.enc (by decide)
    have vA : vld 0 (j :: v) (ed p0 0 (i :: u) (.node ts)) := by rw [ed_set hi]; exact vld_set hij hv1
    have vB : vld 0 (i :: u) (ed p1 0 (j :: v) (.node ts)) := by rw [ed_set hj]; exact vld_set (Ne.symm hij) hv0
    have hcomm := ed_comm (p := p0) (q := p1) (u := u) (v := v) hi hj hij
    have zA := ed_enc (p := p0) hv0 (by omega)
    have zB := ed_enc (p := p1) hv1 (by omega)
    have zAB := ed_enc (p := p1) vA (by omega)
    have zBA := ed_enc (p := p0) vB (by omega)
    have hA := ed_ht (how := 0) hp0 (w := i :: u) (t := .node ts)
    have hB := ed_ht (how := 0) hp1 (w := j :: v) (t := .node ts)
    have hAB := ed_ht (how := 0) hp1 (w := j :: v) (t := ed p0 0 (i :: u) (.node ts))
    generalize hw0 : i :: u = w0 at *
    generalize hw1 : j :: v = w1 at *
    generalize hTA : ed p0 0 w0 (.node ts) = TA at *
    generalize hTB : ed p1 0 w1 (.node ts) = TB at *
    generalize hT0 : T.node ts = T0 at *
    have rl : recursionLimit = 1000 := rfl
    have cl : cLine = 9900 := rfl
    -- one
    refine wpAny_execs_cons (wpAny_Assign_Name (r_call (r_global ok F4.fz hSf.nm (r_with_def ok hSf (r_args_cons (r_call (r_global ok F4.fz hSf.nm (r_with_def ok hSf (r_args_cons (r_name F4 n_oct (r_args_cons (Subscript_ (r_name F4 n_f (r_int F4 fun t5 s5 F5 => r_itemT (i := 0) F5 hT0' (by rfl) (by decide) (by rfl) (r_args_cons (Subscript_ (r_name F5 n_f (r_int F5 fun t6 s6 F6 => r_itemT (i := 1) F6 hT0' (by rfl) (by decide) (by rfl) (r_args_cons (r_int F6 fun t7 s7 F7 => r_args_nil ⟨fun b o q => F7.fz.le b o (F7.fz.base b o q), ?_⟩))))))))))))))))))))
    refine spl_ok (how := 0) ok hSf w0 hv0 hW0 hP0 F7.fz (by omega) (by omega) hh (by omega) (by omega) (by rw [hTA]; omega) fun t8 s8 P8 => ?_
    rw [hTA]
    have F8 := F7.stay P8
    refine (r_args_cons (Subscript_ (r_name F8 n_s (r_int F8 fun t9 s9 F9 => r_itemT (i := 0) F9 hT1' (by rfl) (by decide) (by rfl) (r_args_cons (Subscript_ (r_name F9 n_s (r_int F9 fun t10 s10 F10 => r_itemT (i := 1) F10 hT1' (by rfl) (by decide) (by rfl) (r_args_cons (r_int F10 fun t11 s11 F11 => r_args_nil ⟨fun b o q => F11.fz.le b o (F11.fz.base b o q), ?_⟩))))))))))
    refine spl_ok (how := 0) ok hSf w1 vA hW1 hP1 F11.fz (by omega) (by omega) hh (by omega) (by omega) (by omega) fun t12 s12 P12 => ?_
    refine r_store (F11.stay P12) fun s13 F13 => ?_
    obtain ⟨m13, F13, n_oct, n_f, n_s, n_one⟩ : ∃ m13, St c noX s₀ g₀ g (lawEnv s₀ f cd).locals m13 s13 ∧ m13 (Str.ofString "octets") = some (.bytes (enc T0).toArray to) ∧ m13 (Str.ofString "first") = some (.ref a0) ∧ m13 (Str.ofString "second") = some (.ref a1) ∧
      m13 (Str.ofString "one") = some (.bytes (enc (ed p1 0 w1 TA)).toArray t12) := ⟨_, F13, n_oct, n_f, n_s, by rfl⟩
    -- two
    refine wpAny_execs_cons (wpAny_Assign_Name (r_call (r_global ok F13.fz hSf.nm (r_with_def ok hSf (r_args_cons (r_call (r_global ok F13.fz hSf.nm (r_with_def ok hSf (r_args_cons (r_name F13 n_oct (r_args_cons (Subscript_ (r_name F13 n_s (r_int F13 fun t14 s14 F14 => r_itemT (i := 0) F14 hT1' (by rfl) (by decide) (by rfl) (r_args_cons (Subscript_ (r_name F14 n_s (r_int F14 fun t15 s15 F15 => r_itemT (i := 1) F15 hT1' (by rfl) (by decide) (by rfl) (r_args_cons (r_int F15 fun t16 s16 F16 => r_args_nil ⟨fun b o q => F16.fz.le b o (F16.fz.base b o q), ?_⟩))))))))))))))))))))
    refine spl_ok (how := 0) ok hSf w1 hv1 hW1 hP1 F16.fz (by omega) (by omega) hh (by omega) (by omega) (by rw [hTB]; omega) fun t17 s17 P17 => ?_
    rw [hTB]
    have F17 := F16.stay P17
    refine (r_args_cons (Subscript_ (r_name F17 n_f (r_int F17 fun t18 s18 F18 => r_itemT (i := 0) F18 hT0' (by rfl) (by decide) (by rfl) (r_args_cons (Subscript_ (r_name F18 n_f (r_int F18 fun t19 s19 F19 => r_itemT (i := 1) F19 hT0' (by rfl) (by decide) (by rfl) (r_args_cons (r_int F19 fun t20 s20 F20 => r_args_nil ⟨fun b o q => F20.fz.le b o (F20.fz.base b o q), ?_⟩))))))))))
    refine spl_ok (how := 0) ok hSf w0 vB hW0 hP0 F20.fz (by omega) (by omega) hh (by omega) (by omega) (by omega) fun t21 s21 P21 => ?_
    rw [← hcomm]
    refine r_store (F20.stay P21) fun s22 F22 => ?_
    obtain ⟨m22, F22, n_f, n_s, n_one, n_two⟩ : ∃ m22, St c noX s₀ g₀ g (lawEnv s₀ f cd).locals m22 s22 ∧ m22 (Str.ofString "first") = some (.ref a0) ∧ m22 (Str.ofString "second") = some (.ref a1) ∧
      m22 (Str.ofString "one") = some (.bytes (enc (ed p1 0 w1 TA)).toArray t12) ∧ m22 (Str.ofString "two") = some (.bytes (enc (ed p1 0 w1 TA)).toArray t21) := ⟨_, F22, n_f, n_s, n_one, by rfl⟩
    -- the answer
    refine wpAny_execs_cons (wpAny_Return_some (BoolOp_and (wpAny_Compare1 (r_name F22 n_one (r_name F22 n_two (r_eqB (r_yes (beq_self_eq_true _) (BoolOp_one (wpAny_Compare1 (r_name F22 n_one ?_))))))))))
    refine r_call (r_global ok F22.fz hEf.nm (r_with_def ok hEf (r_args_cons (r_call (r_global ok F22.fz hDf.nm (r_with_def ok hDf (r_args_cons (r_call (r_global ok F22.fz hDf.nm (r_with_def ok hDf (r_args_cons (r_cell (ca := s₀.heap.objs.size + 2) F22.fz hc (by rfl) (r_args_cons (Subscript_ (r_name F22 n_f (r_int F22 fun t23 s23 F23 => r_itemT (i := 0) F23 hT0' (by rfl) (by decide) (by rfl) (r_args_cons (Subscript_ (r_name F23 n_f (r_int F23 fun t24 s24 F24 => r_itemT (i := 1) F24 hT0' (by rfl) (by decide) (by rfl) (r_args_cons (r_int F24 fun t25 s25 F25 => r_args_nil ⟨fun b o q => F25.fz.le b o (F25.fz.base b o q), ?_⟩))))))))))))))))))))))
    refine edi_ok (how := 0) ok hDf w0 hv0 hT hW0 hP0 F25.fz (by omega) (by omega) hh (by omega) fun r26 s26 P26 hr26 => ?_
    rw [hTA] at hr26
    have F26 := F25.pex P26
    have l26 : Le g (Mine.grow g s25.heap.objs.size s26.heap) := le_grow (F25.stay P26).fz.le
    refine r_args_cons (Subscript_ (r_name F26 n_s (r_int F26 fun t27 s27 F27 => r_itemT (i := 0) F27 (hT1'.mono l26) (by rfl) (by decide) (by rfl) (r_args_cons (Subscript_ (r_name F27 n_s (r_int F27 fun t28 s28 F28 => r_itemT (i := 1) F28 (hT1'.mono l26) (by rfl) (by decide) (by rfl) (r_args_cons (r_int F28 fun t29 s29 F29 => r_args_nil ⟨fun b o q => F29.fz.le b o (F29.fz.base b o q), ?_⟩)))))))))
    refine edi_ok (how := 0) ok hDf w1 vA hr26 (hW1.mono l26) (hP1.mono l26) F29.fz (by omega) (by omega) hh (by omega) fun r30 s30 P30 hr30 => ?_
    have F30 := F29.pex P30
    refine r_args_nil ⟨fun b o q => F30.fz.le b o (F30.fz.base b o q), ?_⟩
    refine enc_ok ok hEf _ (Nat.le_refl _) hr30 F30.fz (by omega) hh (by omega) fun t31 s31 P31 => ?_
    refine r_eqB ?_
    rw [beq_self_eq_true]
    exact h _ (F30.ext.trans P31)
end
end Mine
end
section
open PySem PySem.Calls PySem.Spec PyProof.Rows PySem.W
open PySem.SeqAt
set_option maxRecDepth 100000
namespace Mine

section
variable {c : Cfg} {X : Addr → Prop} {A : Around} {E : Value → Shared → Prop} {s₀ s : Shared} {g₀ g : Heap} {L : Addr} {m : Str → Option Value} {env : Env}

/-- an iterator on a list -/
theorem r_iterLx {la : Addr} {vs : List Value} {Q : Value → Shared → Prop} (F : St c X s₀ g₀ g L m s) (hl : Ls g la vs) (hX : ∀ b, X b → g.get? b = none)
    (h : ∀ I fp Stt s', ItOk c X s₀ s' g L I vs.length (fun i v => vs[i]? = some v) fp Stt → St c X s₀ g₀ g L m s' → (∀ b o, s.heap.get? b = some o → s'.heap.get? b = some o) → s.heap.objs.size ≤ I → (∀ i h, Stt i h → h.IsListIter I la i) → Q (.ref I) s') :
    wpAny c.M A (pyIter (.ref la)) Q E s := by
  have hl' := hl.mono F.fz.le
  refine wpAny_pyIter_list hl' ?_
  have hk : ∀ b o, s.heap.get? b = some o → (s.heap.push { cls := .type "list_iterator", data := .fields #[.ref la, .int 0 0] }).get? b = some o := fun b o e => Heap.get?_push_of_some _ e
  have F' := F.keep (k := s.toks) hk
  obtain ⟨ps, tt⟩ := F.fz.tab
  have hla : la < s.heap.objs.size := hl'.lt
  have hL : L < s.heap.objs.size := F.ns.lt
  refine h s.heap.objs.size [s.heap.objs.size, la] (fun i h => h.IsListIter s.heap.objs.size la i ∧ h.IsList la vs.toArray) _ ⟨fun B hB => ?_, ⟨⟨_, Heap.get?_push_size _ rfl, rfl, rfl⟩, Heap.IsList.push hl' _⟩, get_none_of_ge F.fz.le (Nat.le_refl _), F.ext.size,
    by show _ < (s.heap.push _).objs.size; rw [Heap.size_push]; exact Nat.lt_succ_self _, Nat.ne_of_gt hL, Nat.ne_of_gt tt.lt.1, Nat.ne_of_gt tt.lt.2, fun b hb => ?_, fun b hb => ?_⟩ F' hk (Nat.le_refl _) (fun _ _ q => q.1)
  · have W := Walks.list (prog := pw) (w := c.w) hB s.heap.objs.size la (Nat.ne_of_lt hla) vs.toArray
    rw [List.size_toArray] at W
    refine ⟨W.sub, W.frame, fun i s Q E hi st hQ => W.item i s Q E hi st fun v h' tk hp => hQ v h' tk (by simpa using hp), W.done, W.self⟩
  · rcases List.mem_cons.mp hb with rfl | hb
    · exact ⟨Nat.le_refl _, Nat.ne_of_gt tt.lt.2, Nat.ne_of_gt hL, fun q => Nat.lt_irrefl _ (Nat.lt_of_lt_of_le (F.ltX _ q) F.ext.size)⟩
    · rcases List.mem_cons.mp hb with rfl | hb
      · exact ⟨Nat.le_of_lt hla, (hl'.ne_code tt).2, hl'.ne_L F, fun q => hl.ne_none (hX _ q)⟩
      · cases hb
  · rcases List.mem_cons.mp hb with rfl | hb
    · exact .inl rfl
    · rcases List.mem_cons.mp hb with rfl | hb
      · exact .inr (let ⟨o, e, _⟩ := hl; by rw [e]; rfl)
      · cases hb


/-- a for statement whose target is a tuple -/
theorem forT_ok {R : Result → Shared → Prop} {target : Expr} {body orelse : List Stmt} {I n : Nat} {fp : List Addr} {P : Nat → Value → Prop} {Stt : Nat → Heap → Prop} {s : Shared} (W : Walks pw c.w A I fp [I] n P Stt) (J : Nat → Shared → Prop)
    (h0 : J 0 s) (hst : Stt 0 s.heap)
    (hJI : ∀ j s' h' tk, J j s' → (∀ b o, b ∉ [I] → s'.heap.get? b = some o → h'.get? b = some o) → J j { s' with heap := h', toks := tk })
    (hlet : ∀ j v s₁ (Q : Unit → Shared → Prop) E, P j v → Stt (j + 1) s₁.heap → Q () s₁ → wpAny c.M A (letOwnedTupleGo target (.ref I) v) Q E s₁)
    (turn : ∀ j v s₁, j < n → P j v → J j s₁ → Stt (j + 1) s₁.heap → wpAny c.M A (assign target env v) (fun _ s₂ => wpAny c.M A (execs body env) (fun f s₃ => match f with
          | .next | .cont => J (j + 1) s₃ ∧ Stt (j + 1) s₃.heap
          | .brk => R (.ok .next) s₃
          | .ret v => R (.ok (.ret v)) s₃) (notedBy c.M A env fun e s' => R (.error e) s') s₂) (notedBy c.M A env fun e s' => R (.error e) s') s₁)
    (fin : ∀ s₁, J n s₁ → wpAny c.M A (execs orelse env) (fun f s₃ => R (.ok f) s₃) (notedBy c.M A env fun e s' => R (.error e) s') s₁) :
    codeAny c.M A (.forLoop target (.ref I) body orelse env) R s := by
  refine codeAny_forLoop_any (fun k s' => ∃ j, k + j = n ∧ J j s' ∧ Stt j s'.heap) ?_ n ⟨0, rfl, h0, hst⟩
  rintro k s' ⟨j, hk, hJ, hS⟩
  rcases Nat.eq_zero_or_pos k with rfl | hp
  · have : j = n := by omega
    subst this
    exact W.done s' _ _ hS fun h' tk hk' => fin _ (hJI _ _ _ _ hJ hk')
  · refine W.item j s' _ _ (by omega) hS fun v h' tk hP hS' hk' => ?_
    refine hlet j v _ _ _ hP hS' (wpAny_mono (turn j v _ (by omega) hP (hJI _ _ _ _ hJ hk') hS') (fun _ s₂ h₂ => wpAny_mono h₂ (fun f s₃ h₃ => ?_) fun _ _ q => q) fun _ _ q => q)
    cases f with
    | next => exact ⟨k - 1, by omega, j + 1, by omega, h₃⟩
    | cont => exact ⟨k - 1, by omega, j + 1, by omega, h₃⟩
    | brk => exact h₃
    | ret v => exact h₃
end

/-- a part that is put at the top is a list -/
def pfix : List Nat → T → T
  | [], .leaf b => .node [.leaf b]
  | _, p => p
theorem pfix_ht {w : List Nat} {p : T} (h : ht p ≤ 1) : ht (pfix w p) ≤ 1 := by
  cases w <;> cases p <;> simp_all [pfix, ht, hts]
theorem pfix_enc {w : List Nat} {p : T} (h : (enc p).length ≤ 273) : (enc (pfix w p)).length ≤ 300 := by
  cases w <;> cases p <;> try (simp only [pfix]; omega)
  rw [pfix, enc, List.length_append, encs, encs, List.append_nil]
  have := hd_len 192 (enc (.leaf ‹_›)).length (by omega)
  omega
end Mine
end
section
open PySem PySem.Calls PySem.Spec PyProof.Rows PySem.W
open PySem.SeqAt
set_option maxRecDepth 100000
namespace Mine

section
variable {c : Cfg} {A : Around} {s₀ s : Shared} {g₀ g : Heap} {f : Addr} {cd : Value} {m : Str → Option Value}

/-- the law's second loop: each edit answers -/
theorem law_mid (ok : c.Ok) {ts : List T} {to : Tok} {ta E0 : Addr} {e0 e1 : Value} {w0 w1 : List Nat} {p0 p1 : T} {h0 h1 : Nat} {Q : Flow → Shared → Prop} (F : St c noX s₀ g₀ g (lawEnv s₀ f cd).locals m s)
    (hd : A.depth ≤ 500) (hu : A.units ≤ 5000) (hh : A.handled = none) (hts : ∀ t ∈ ts, Bd 2 t) (hz : (enc (.node ts)).length ≤ 100000) (n_oct : m (Str.ofString "octets") = some (.bytes (enc (.node ts)).toArray to)) (n_ed : m (Str.ofString "edits") = some (.ref E0))
    (hE : Ls g E0 [e0, e1]) (hs0 : EdS g ts e0 w0 p0 h0) (hs1 : EdS g ts e1 w1 p1 h1) (hc : Cl g (s₀.heap.objs.size + 2) (.ref ta)) (hT : Tr g (.node ts) (.ref ta))
    (h : ∀ s', Pex c s₀ s' → Q (.ret (.bool true)) s') : wpAny c.M A (execs (dLaw.body.drop 5) (lawEnv s₀ f cd)) Q (fun _ _ => False) s := by
  obtain ⟨fE, hEf⟩ := ok.at_ (d := dEnc) (by rw [recs_eq]; simp)
  obtain ⟨fS, hSf⟩ := ok.at_ (d := dSpl) (by rw [recs_eq]; simp)
  obtain ⟨fD, hDf⟩ := ok.at_ (d := dEdi) (by rw [recs_eq]; simp)
  obtain ⟨fC, hCf⟩ := ok.at_ (d := dCit) (by rw [recs_eq]; simp)
  obtain ⟨fP, hPf⟩ := ok.at_ (d := dPie) (by rw [recs_eq]; simp)
  have rl : recursionLimit = 1000 := rfl
  have cl : cLine = 9900 := rfl
  have hh3 : ht (.node ts) ≤ 3 := by
    rw [ht]
    have : ∀ us : List T, (∀ t ∈ us, Bd 2 t) → Mine.hts us ≤ 2 := by
      intro us
      induction us with
      | nil => intro _; simp [Mine.hts]
      | cons u us ihu => intro hu; rw [Mine.hts]; have := (hu u (List.mem_cons_self ..)).ht; have := ihu fun t ht => hu t (List.mem_cons_of_mem _ ht); omega
    have := this ts hts
    omega
  refine wpAny_execs_cons (wpAny_For (r_name F n_ed (r_iterLx F hE (fun _ q => q.elim) fun I fp Stt s1 Io F1 k1 _ hStt => ?_)))
  refine forT_ok (Io.W _ hh) (fun j s' => ∃ m', St c noX s₀ g₀ g (lawEnv s₀ f cd).locals m' s' ∧ m' (Str.ofString "octets") = some (.bytes (enc (.node ts)).toArray to) ∧ m' (Str.ofString "edits") = some (.ref E0)) ⟨m, F1, n_oct, n_ed⟩ Io.st ?_ ?_ ?_ ?_
  · rintro j s' h' tk ⟨m', F', r⟩ hk'
    exact ⟨m', F'.writeI Io.lo Io.neL Io.neC Io.neP Io.off hk', r⟩
  · intro j v s2 Q' E' hP hS hQ
    have hv : ∃ a, v = .ref a := by
      match j, hP with
      | 0, hP => simp at hP; subst hP; obtain ⟨a, _, _, _, e, _⟩ := hs0; exact ⟨a, e⟩
      | 1, hP => simp at hP; subst hP; obtain ⟨a, _, _, _, e, _⟩ := hs1; exact ⟨a, e⟩
    obtain ⟨a, rfl⟩ := hv
    exact wpAny_letOwnedTupleGo_listiter (hStt _ _ hS) hQ
  · rintro j v s2 hj hP ⟨m', F2, o_oct, o_ed⟩ hS
    obtain ⟨w, p, how, hs⟩ : ∃ w p how, EdS g ts v w p how := by
      match j, hP with
      | 0, hP => simp at hP; subst hP; exact ⟨_, _, _, hs0⟩
      | 1, hP => simp at hP; subst hP; exact ⟨_, _, _, hs1⟩
    obtain ⟨a, wa, pv, th, rfl, hTp, hW, hP0, hvl, hB, hhow, hwl⟩ := hs
    have FI := F2.put (.inl Io.lo) Io.neL Io.neP
    have hSg := Io.put hh hS
    have lgI : Le g (put g I s2.heap) := le_put F2.fz.le
    have hbI : Le c.G (put g I s2.heap) := FI.fz.base
    generalize put g I s2.heap = gI at *
    have hv : vld how w (.node ts) := by
      rcases hvl with q | ⟨q1, q2⟩
      · exact vld0_how how q
      · subst q1 q2; exact .inr ⟨rfl, rfl⟩
    refine r_unpack FI hh (hTp.mono lgI) (by rfl) (by rfl) fun s3 F3 => r_into (r_store F3 fun s4 F4 => r_into (r_store F4 fun s5 F5 => r_into (r_store F5 fun s6 F6 => assignInOrder_nil ?_)))
    obtain ⟨m6, F6, o_oct, o_ed, o_way, o_part, o_how⟩ : ∃ m6, St c noX s₀ g₀ gI (lawEnv s₀ f cd).locals m6 s6 ∧ m6 (Str.ofString "octets") = some (.bytes (enc (.node ts)).toArray to) ∧ m6 (Str.ofString "edits") = some (.ref E0) ∧
        m6 (Str.ofString "way") = some (.ref wa) ∧ m6 (Str.ofString "part") = some pv ∧ m6 (Str.ofString "how") = some (.int how th) := ⟨_, F6, o_oct, o_ed, by rfl, by rfl, by rfl⟩
    obtain ⟨v0, hv0l, hv0i⟩ := id (hW.mono lgI)
    have z0 : v0.length = w.length := by rw [hv0i.length, List.length_map]
    refine wpAny_execs_cons (wpAny_mono (Q := fun fl s' => fl = .next ∧ ∃ m' g7 pv', Le gI g7 ∧ St c noX s₀ g₀ g7 (lawEnv s₀ f cd).locals m' s' ∧ m' (Str.ofString "octets") = some (.bytes (enc (.node ts)).toArray to) ∧ m' (Str.ofString "edits") = some (.ref E0) ∧
        m' (Str.ofString "way") = some (.ref wa) ∧ m' (Str.ofString "part") = some pv' ∧ m' (Str.ofString "how") = some (.int how th) ∧ Tr g7 (pfix w p) pv') ?_ (fun fl s7 q => ?_) fun _ _ q => q)
    · refine wpAny_If (wpAny_isTrue_BoolOp (wpAny_allTrue_And_cons (wpAny_isTrue_Compare1 (r_name F6 o_way (r_list (r_args_nil (r_newL F6 (by simp) fun a7 g7 s7 l7 F7 hl7 _ => r_eqNil F7 (hv0l.mono l7) hl7 (by omega) ?_)))))))
      cases w with
      | nil =>
        have : v0 = [] := List.length_eq_zero_iff.mp z0
        subst this
        refine r_yes rfl (wpAny_allTrue_And_cons (wpAny_isTrue_value (r_call (r_builtin ok F7.fz (by rfl) (r_with_builtin (r_args_cons (r_name F7 o_part (r_args_cons (r_builtin ok F7.fz (by rfl) (r_args_nil ?_))))))))))
        cases p with
        | leaf b =>
          obtain ⟨tb, rfl⟩ := hP0
          refine r_is_bytes F7 k5 fun s8 F8 => r_yes rfl (wpAny_allTrue_And_nil ?_)
          rw [if_pos rfl]
          refine wpAny_execs_cons (wpAny_Assign_Name (r_list (r_args_cons (r_name F8 o_part (r_args_nil (r_newL F8 (by simp) fun a9 g9 s9 l9 F9 hl9 _ => r_store F9 fun s10 F10 => wpAny_execs_nil ?_))))))
          exact ⟨rfl, _, g9, _, fun b o e => l9 _ _ (l7 _ _ e), F10, o_oct, o_ed, o_way, by rfl, o_how, _, _, rfl, hl9, _, [], rfl, ⟨_, rfl⟩, rfl⟩
        | node us =>
          have hPn := hP0
          obtain ⟨ap, vp, rfl, hlp, _⟩ := hP0
          refine r_is_list F7 ((hlp.mono lgI).mono l7) k4 fun s8 F8 => r_no rfl ?_
          rw [if_neg (by decide)]
          exact wpAny_execs_nil ⟨rfl, _, g7, _, l7, F8, o_oct, o_ed, o_way, o_part, o_how, (hPn.mono lgI).mono l7⟩
      | cons k w' =>
        have hne : v0.isEmpty = false := by cases v0 with
          | nil => simp at z0
          | cons _ _ => rfl
        refine r_no hne ?_
        rw [if_neg (by decide)]
        exact wpAny_execs_nil ⟨rfl, _, g7, _, l7, F7, o_oct, o_ed, o_way, o_part, o_how, (hP0.mono lgI).mono l7⟩
    obtain ⟨rfl, m7, g7, pv', l7, F7, o_oct, o_ed, o_way, o_part, o_how, hP7⟩ := q
    have lg7 : Le g g7 := fun b o e => l7 _ _ (lgI _ _ e)
    have hp1 : ht (pfix w p) ≤ 1 := pfix_ht hB.ht
    have hpz : (enc (pfix w p)).length ≤ 300 := pfix_enc (hB.enc (by decide))
    have zE := ed_enc (p := pfix w p) hv (by omega)
    have hE' := ed_ht (how := how) hp1 (w := w) (t := .node ts)
    generalize pfix w p = p' at *
    generalize hTH : ed p' how w (.node ts) = TH at *
    -- held
    refine wpAny_execs_cons (wpAny_Assign_Name (r_call (r_global ok F7.fz hDf.nm (r_with_def ok hDf (r_args_cons (r_cell (ca := s₀.heap.objs.size + 2) F7.fz (hc.mono lg7) (by rfl) (r_args_cons (r_name F7 o_way (r_args_cons (r_name F7 o_part (r_args_cons (r_name F7 o_how (r_args_nil ⟨fun b o q => F7.fz.le b o (F7.fz.base b o q), ?_⟩)))))))))))))
    refine edi_ok ok hDf w hv (hT.mono lg7) (hW.mono lg7) hP7 F7.fz (by omega) (by omega) hh (by omega) fun r8 s8 P8 hr8 => ?_
    rw [hTH] at hr8
    have F8 := F7.pex P8
    have l8 : Le g7 (Mine.grow g7 s7.heap.objs.size s8.heap) := le_grow (F7.stay P8).fz.le
    generalize Mine.grow g7 s7.heap.objs.size s8.heap = g8 at *
    refine r_store F8 fun s9 F9 => ?_
    -- fresh
    refine wpAny_execs_cons (wpAny_Assign_Name (r_call (r_global ok F9.fz hSf.nm (r_with_def ok hSf (r_args_cons (r_name F9 o_oct (r_args_cons (r_name F9 o_way (r_args_cons (r_name F9 o_part (r_args_cons (r_name F9 o_how (r_args_nil ⟨fun b o q => F9.fz.le b o (F9.fz.base b o q), ?_⟩)))))))))))))
    refine spl_ok ok hSf w hv ((hW.mono lg7).mono l8) (hP7.mono l8) F9.fz (by omega) (by omega) hh (by omega) (by omega) (by rw [hTH]; omega) fun t10 s10 P10 => ?_
    rw [hTH]
    have F10 := F9.stay P10
    refine r_store F10 fun s11 F11 => ?_
    obtain ⟨m11, F11, o_oct, o_ed, o_held, o_fresh⟩ : ∃ m11, St c noX s₀ g₀ g8 (lawEnv s₀ f cd).locals m11 s11 ∧ m11 (Str.ofString "octets") = some (.bytes (enc (.node ts)).toArray to) ∧ m11 (Str.ofString "edits") = some (.ref E0) ∧
        m11 (Str.ofString "held") = some r8 ∧ m11 (Str.ofString "fresh") = some (.bytes (enc TH).toArray t10) := ⟨_, F11, o_oct, o_ed, by rfl, by rfl⟩
    have l8I : Le gI g8 := fun b o e => l8 _ _ (l7 _ _ e)
    refine wpAny_execs_cons (wpAny_If (wpAny_mono (Q := fun b s' => b = false ∧ St c noX s₀ g₀ g8 (lawEnv s₀ f cd).locals m11 s') ?_ (fun b s12 q => ?_) fun _ _ q => q))
    · refine wpAny_isTrue_BoolOp (wpAny_allTrue_Or_cons (wpAny_isTrue_Compare1 (r_call (r_global ok F11.fz hEf.nm (r_with_def ok hEf (r_args_cons (r_name F11 o_held (r_args_nil ⟨fun b o q => F11.fz.le b o (F11.fz.base b o q), ?_⟩))))))))
      refine enc_ok ok hEf _ (Nat.le_refl _) hr8 F11.fz (by omega) hh (by omega) fun t12 s12 P12 => ?_
      have F12 := F11.stay P12
      refine r_name F12 o_fresh (r_neB (r_no (by simp) ?_))
      refine wpAny_allTrue_Or_cons (wpAny_isTrue_Compare1 (r_call (r_global ok F12.fz hCf.nm (r_with_def ok hCf (r_args_cons (r_name F12 o_fresh (r_args_cons (r_int F12 fun t13 s13 F13 => r_args_nil ⟨fun b o q => F13.fz.le b o (F13.fz.base b o q), ?_⟩))))))))
      refine cit_ok (pre := []) (post := []) ok hCf (t := TH) F13.fz (by omega) hh (by simp) (by omega) fun a14 s14 P14 C14 => ?_
      have F14 := F13.pex P14
      have l14 : Le g8 (Mine.grow g8 s13.heap.objs.size s14.heap) := le_grow (F13.stay P14).fz.le
      generalize Mine.grow g8 s13.heap.objs.size s14.heap = g14 at *
      refine r_tuple (r_args_cons (r_name F14 o_held (r_args_cons (r_call (r_global ok F14.fz hPf.nm (r_with_def ok hPf (r_args_cons (r_name F14 o_held (r_args_nil ⟨fun b o q => F14.fz.le b o (F14.fz.base b o q), ?_⟩)))))))))
      refine pie_ok ok hPf _ (Nat.le_refl _) (hr8.mono l14) F14.fz (by omega) hh (by omega) fun w15 s15 P15 hw15 => ?_
      have F15 := F14.pex P15
      have l15 : Le g14 (Mine.grow g14 s14.heap.objs.size s15.heap) := le_grow (F14.stay P15).fz.le
      generalize Mine.grow g14 s14.heap.objs.size s15.heap = g15 at *
      refine r_args_cons (r_call (r_builtin ok F15.fz (by rfl) (r_with_builtin (r_args_cons (r_name F15 o_fresh (r_args_nil (r_lenB F15 (by omega) fun t16 s16 F16 => r_args_nil (r_newT F16 (by simp) fun a17 g17 s17 l17 F17 hl17 _ => ?_))))))))
      obtain ⟨v14, w14, tk14, hT14, hv14, hw14⟩ := C14
      have l1417 : Le g14 s17.heap := fun b o e => F17.fz.le _ _ (l17 _ _ (l15 _ _ e))
      have hpc := ht_pcs _ TH (Nat.le_refl _)
      have q1 : EqAt A.in1 s17 v14 r8 true := tr_eq TH (hv14.mono l1417) ((hr8.mono l14).mono l1417) (by show A.units + 1 + ht TH < cLine; omega)
      have q2 : EqAt A.in1 s17 w14 w15 true := tr_eq (pcs TH) (hw14.mono l1417) (hw15.mono fun b o e => F17.fz.le _ _ (l17 _ _ e)) (by show A.units + 1 + ht (pcs TH) < cLine; omega)
      have q3 : EqAt A.in1 s17 (.int (([] : List UInt8).length + (enc TH).length : Nat) tk14) (.int (enc TH).length t16) true := by
        have := EqAt.int_int (A := A.in1) (s := s17) ((([] : List UInt8).length + (enc TH).length : Nat) : Int) tk14 (enc TH).length t16
        rwa [show ((((([] : List UInt8).length + (enc TH).length : Nat) : Int) == ((enc TH).length : Int)) = true) by simp] at this
      have hne := RcNeAt.tuples (A := A) (s := s17) (l := a14) (b := a17) (items := [v14, w14, .int (([] : List UInt8).length + (enc TH).length : Nat) tk14].toArray) (items2 := [r8, w15, .int (enc TH).length t16].toArray) (e := fun _ => true) (hT14.mono l1417) (hl17.mono F17.fz.le) (by omega) fun j k1 k2 => by
        match j, k1, k2 with
        | 0, _, _ => exact q1
        | 1, _, _ => exact q2
        | 2, _, _ => exact q3
      refine hne pw c.w _ _ ?_
      refine r_no (by rfl) (wpAny_allTrue_Or_nil ⟨rfl, F17.less (fun b o e => l17 _ _ (l15 _ _ (l14 _ _ e))) F11.fz.base⟩)
    obtain ⟨rfl, F12⟩ := q
    refine wpAny_execs_nil (wpAny_execs_nil ⟨⟨_, F12.less (fun b o e => l8I _ _ (lgI _ _ e)) F.fz.base, o_oct, o_ed⟩, (Io.W _ hh).frame _ _ _ hSg fun b _ o e => F12.fz.le b o (l8I b o e)⟩)
  · rintro s2 ⟨m', F2, o_oct, o_ed⟩
    exact wpAny_execs_nil (law_end ok F2 hd hu hh hts hz o_oct o_ed hE hs0 hs1 hc hT h)
end
end Mine
end
section
open PySem PySem.Calls PySem.Spec PyProof.Rows PySem.W
open PySem.SeqAt
set_option maxRecDepth 100000
namespace Mine

section
variable {c : Cfg} {X : Addr → Prop} {A : Around} {s₀ s : Shared} {g₀ g : Heap} {L : Addr} {m : Str → Option Value}

/-- freeze own objects for a while -/
theorem St.withAll (F : St c X s₀ g₀ g L m s) : ∀ (os : List Addr), (∀ b ∈ os, s₀.heap.objs.size ≤ b ∧ b ≠ L ∧ b ≠ c.eP) →
    ∃ G, Le g G ∧ St c X s₀ g₀ G L m s ∧ (∀ b ∈ os, ∀ o, s.heap.get? b = some o → G.get? b = some o) ∧ (∀ b, b ∉ os → g.get? b = none → G.get? b = none)
  | [], _ => ⟨g, fun _ _ e => e, F, (fun _ h => nomatch h), fun _ _ e => e⟩
  | a :: os, h => by
    obtain ⟨G, l, F', k, o⟩ := F.withAll os fun b hb => h b (List.mem_cons_of_mem _ hb)
    obtain ⟨h1, h2, h3⟩ := h a (List.mem_cons_self ..)
    refine ⟨Mine.put G a s.heap, fun b o e => le_put F'.fz.le _ _ (l _ _ e), F'.put (.inl h1) h2 h3, fun b hb q e => ?_, fun b hb e => put_none (o b (fun q => hb (List.mem_cons_of_mem _ q)) e) fun q => hb (q ▸ List.mem_cons_self ..)⟩
    rcases List.mem_cons.mp hb with rfl | hb
    · rw [put_self]; exact e
    · exact le_put F'.fz.le _ _ (k b hb _ e)

theorem Sta.keep {h h' : Heap} {st scr : Addr} (x : Sta h st scr) (k : ∀ o, h.get? st = some o → h'.get? st = some o) : Sta h' st scr := let ⟨n, t, o, e, r⟩ := x; ⟨n, t, o, k _ e, r⟩
end

/-- after the tree is drawn: what the rest leans on -/
structure LawC (c : Cfg) (s₀ s : Shared) (g₀ g : Heap) (f : Addr) (cd : Value) (m : Str → Option Value) (st scr ta : Addr) (ts : List T) : Prop where
  F : St c noX s₀ g₀ g (lawEnv s₀ f cd).locals m s
  sta : Sta s.heap st scr
  sc : Scr g scr
  off : g.get? st = none
  lo : s₀.heap.objs.size ≤ st
  c1 : Cl g (s₀.heap.objs.size + 1) (.ref st)
  c2 : Cl g (s₀.heap.objs.size + 2) (.ref ta)
  tr : Tr g (.node ts) (.ref ta)
  len : ts.length ≤ 4
  bd : ∀ t ∈ ts, Bd 2 t

section
variable {c : Cfg} {A : Around} {E : Value → Shared → Prop} {s : Shared} {g : Heap} {f : Addr}

set_option maxHeartbeats 4000000 in
/-- a comprehension of one clause whose element may write into the frame's own Y -/
theorem compY_ok {X Y : Addr → Prop} {s₀ : Shared} {g₀ : Heap} {m : Str → Option Value} {env : Env} {elt iter : Expr} {x : Str} {px : Pos} {scope : Scope} {cl : List (Str × Addr)} {pos : Pos} {Q : Value → Shared → Prop} (J : Nat → List Value → Heap → Heap → Prop)
    (hclos : closureFor scope env = pure cl) (hcell : ∀ y ∈ scope.names, y.2 ≠ .cell) (hkind : scope.kind = .function)
    (hnames : ∀ y ∈ scope.names, y.2 = .local → scope.names.lookup y.1 = some .local) (hx : scope.names.lookup x = some .local) (hh : A.handled = none)
    (h : wpAny c.M A (eval iter env) (fun xv s₁ => wpAny c.M A (pyIter xv) (fun it s₂ => ∃ g I n P fp Stt, it = .ref I ∧ ItOk c X s₀ s₂ g env.locals I n P fp Stt ∧ n ≤ 16777216 ∧ (∀ b, Y b → ((X b ∨ s₀.heap.objs.size ≤ b) ∧ b ≠ env.locals) ∧ b < I ∧ g.get? b = none) ∧
      St c X s₀ g₀ g env.locals m s₂ ∧ J 0 [] g s₂.heap ∧
      (∀ {j ys g h g' h'}, J j ys g h → Le g g' → (∀ b o, b < I → b ≠ env.locals → h.get? b = some o → h'.get? b = some o) → J j ys g' h') ∧
      (∀ (B : Around) j ys v g' s₃ C mC, B.handled = none → B.depth = A.depth → J j ys g' s₃.heap → Le g g' → P j v → j < n → St c X s₀ g₀ g' env.locals m s₃ → (∀ b, Y b → g'.get? b = none) → s₃.heap.Ns C mC → mC x = some v →
        wpAny c.M B (eval elt (compEnvC scope cl C env)) (fun y s₄ => Ext c Y s₃ s₄ ∧ J (j + 1) (ys ++ [y]) (grow g' s₃.heap.objs.size s₄.heap) s₄.heap) (fun _ _ => False) s₃) ∧
      (∀ D ys G s₅, J n ys G s₅.heap → Le g G → St c X s₀ g₀ G env.locals m s₅ → (∀ b, Y b → G.get? b = none) → Ls G D ys → I < D → Q (.ref D) s₅)) E s₁) E s)
    (hs : ∀ x, foldedSetIterable iter env x = pure x := by intro _; rfl) :
    wpAny c.M A (eval (.ListComp elt [⟨.Name x px, iter, [], 0⟩] scope pos) env) Q E s := by
  rw [eval_ListComp]
  refine wpAny_comprehension_free (use := none) rfl hs hclos hkind hnames (wpAny_mono h (fun xv s₁ h₁ => wpAny_mono h₁ (fun it s₂ h₂ => ?_) fun _ _ e => e) fun _ _ e => e)
  clear h
  obtain ⟨g, I, n, P, fp, Stt, rfl, Io, hn, hXo, F, hJ0, hJm, helt, hfin⟩ := h₂
  refine comp_core (Y := Y) (RR := fun acc C => compPost c.M A E none Q acc C) J hcell hkind hx hh Io hn hXo F hJ0 hJm helt ?_
  intro D C ys g' s₅ F5 hle hY' oD oC hDC hID hIC nD nC hDl ⟨mC, hnC⟩ hJ hys
  have hsI := Io.lo
  refine ⟨mC, hnC, fun h'' hs'' => ?_⟩
  have F7 := F5.write (tk := s₅.toks) (.inl (Nat.le_trans hsI (Nat.le_of_lt hIC))) nC.1 nC.2.1 nC.2.2 oC hs''
  have F8 := F7.put (.inl (Nat.le_trans hsI (Nat.le_of_lt hID))) nD.1 nD.2.2
  have hDl' : Ls h'' D ys := hDl.at fun o e => hs''.extBut _ _ hDC e
  refine hfin D ys (Mine.put g' D h'') _ (hJm hJ (le_put F7.fz.le) fun b o hb _ e => hs''.extBut b o (Nat.ne_of_lt (Nat.lt_trans hb hIC)) e) (fun b o e => le_put F7.fz.le _ _ (hle _ _ e)) F8 (fun b q => put_none (hY' b q) ?_) (Ls.put hDl') hID
  exact Nat.ne_of_lt (Nat.lt_trans (hXo b q).2.1 hID)

set_option maxHeartbeats 8000000 in
theorem law_start (ok : c.Ok) (hf : At c dLaw f) {scr0 : Addr} {vs : List Value} {Q : Value → Shared → Prop} (z : Fz c g s) (hd : A.depth ≤ 400) (hh : A.handled = none) (hl : Ls g scr0 vs) (hi : ∀ v ∈ vs, ∃ z t, v = .int z t) (hvz : vs.length ≤ 1000000)
    (h : ∀ cd m st scr ta ts s' g', LawC c s s' g g' f cd m st scr ta ts →
      wpAny c.M (A.deeper (lawEnv s f cd)) (execs (dLaw.body.drop 2) (lawEnv s f cd)) (fun fl s' => Q (match fl with | .ret v => v | _ => .none) s') (fun _ _ => False) s') :
    wpAny c.M A (call (.ref f) [.ref scr0]) Q E s := by
  obtain ⟨fN, hN⟩ := ok.at_ (d := dNxt) (by rw [recs_eq]; simp)
  obtain ⟨fT, hTf⟩ := ok.at_ (d := dTre) (by rw [recs_eq]; simp)
  have rl : recursionLimit = 1000 := rfl
  refine call_cells (X := noX) (binds := [("script", .ref scr0)]) ok hf z (fun _ q => q.elim) (fun _ q => q.elim) (by omega) (fun _ _ _ => by rfl) (fun k x hx => ?_) (fun cd s₁ F kp hcell => ?_)
  · left
    rcases List.mem_cons.mp hx with rfl | hx
    · rfl
    · cases hx
  obtain ⟨ps, tt⟩ := z.tab
  have c1 : s₁.heap.IsCell (s.heap.objs.size + 1) none := (hcell (Str.ofString "state") (s.heap.objs.size + 1) (by rfl)).1
  have c2 : s₁.heap.IsCell (s.heap.objs.size + 2) none := (hcell (Str.ofString "tree") (s.heap.objs.size + 2) (by rfl)).1
  obtain ⟨m1, F, n_scr⟩ : ∃ m1, St c noX s g g (lawEnv s f cd).locals m1 s₁ ∧ m1 (Str.ofString "script") = some (.ref scr0) := ⟨_, F, by rfl⟩
  have hL1 : (lawEnv s f cd).locals = s.heap.objs.size := rfl
  -- state
  refine wpAny_execs_cons (wpAny_Assign_Name (r_list (r_args_cons (wpAny_Subscript_list_slice (r_name F n_scr (wpAny_evalPart_none (wpAny_evalPart_some (wpAny_Constant_int ⟨scr0, vs.toArray, none, some 60, rfl, hl.mono F.fz.le, by rw [sizeLine_eq]; simp; omega, .none, .int _ _, ?_⟩))))))))
  have hk2 : ∀ b o, s₁.heap.get? b = some o → ((s₁.heap.push { cls := .type "slice", data := .fields #[.none, .int 60 s₁.toks, .none] }).push { cls := .type "list", data := .seq (slicePick vs.toArray none (some 60) none) }).get? b = some o := fun b o e => Heap.get?_push_of_some _ (Heap.get?_push_of_some _ e)
  have P2 : Pex c s₁ { s₁ with heap := (s₁.heap.push { cls := .type "slice", data := .fields #[.none, .int 60 s₁.toks, .none] }).push { cls := .type "list", data := .seq (slicePick vs.toArray none (some 60) none) }, toks := s₁.toks + 1 } :=
    (Ext.push (tk := s₁.toks + 1) _).trans (Ext.push (tk := s₁.toks + 1) _)
  have F2 := F.pex P2
  have hSc : Scr (Mine.grow g s₁.heap.objs.size ((s₁.heap.push { cls := .type "slice", data := .fields #[.none, .int 60 s₁.toks, .none] }).push { cls := .type "list", data := .seq (slicePick vs.toArray none (some 60) none) })) (s₁.heap.objs.size + 1) := by
    refine ⟨vs.take 60, ⟨{ cls := .type "list", data := .seq (slicePick vs.toArray none (some 60) none) }, ?_, rfl, 0, ?_⟩, by simp; omega, fun v hv => hi v (List.mem_of_mem_take hv)⟩
    · rw [grow_new (Nat.le_succ _)]
      have := Heap.get?_push_size (s₁.heap.push { cls := .type "slice", data := .fields #[.none, .int 60 s₁.toks, .none] }) (o := { cls := .type "list", data := .seq (slicePick vs.toArray none (some 60) none) }) rfl
      rw [Heap.size_push] at this
      exact this
    · have e := congrArg List.toArray (pick_run0 vs 60)
      rw [Array.toArray_toList] at e
      exact congrArg (fun a => Data.seq a 0) e
  have l2 : Le g (Mine.grow g s₁.heap.objs.size ((s₁.heap.push { cls := .type "slice", data := .fields #[.none, .int 60 s₁.toks, .none] }).push { cls := .type "list", data := .seq (slicePick vs.toArray none (some 60) none) })) := le_grow (F.stay P2).fz.le
  have hoff : ∀ b, b < s₁.heap.objs.size → g.get? b = none → (Mine.grow g s₁.heap.objs.size ((s₁.heap.push { cls := .type "slice", data := .fields #[.none, .int 60 s₁.toks, .none] }).push { cls := .type "list", data := .seq (slicePick vs.toArray none (some 60) none) })).get? b = none := fun b h1 h2 => grow_none h2 h1
  dsimp only
  generalize Mine.grow g s₁.heap.objs.size ((s₁.heap.push { cls := .type "slice", data := .fields #[.none, .int 60 s₁.toks, .none] }).push { cls := .type "list", data := .seq (slicePick vs.toArray none (some 60) none) }) = g2 at *
  generalize (s₁.heap.push { cls := .type "slice", data := .fields #[.none, .int 60 s₁.toks, .none] }).push { cls := .type "list", data := .seq (slicePick vs.toArray none (some 60) none) } = h2 at *
  generalize s₁.heap.objs.size + 1 = scr at *
  refine r_args_cons (wpAny_Constant_int (r_args_nil (r_newO (F2.toks _) (by simp) fun st s3 F3 e3 o3 lo3 z3 k3 => ?_)))
  have c1' := c1.keeps fun b o e => k3 b o (hk2 b o e)
  have c2' := c2.keeps fun b o e => k3 b o (hk2 b o e)
  have gz1 : g.get? (s.heap.objs.size + 1) = none := get_none_of_ge z.le (Nat.le_succ _)
  have gz2 : g.get? (s.heap.objs.size + 2) = none := get_none_of_ge z.le (Nat.le_add_right _ 2)
  refine r_storeC F3 (hoff _ c1.lt gz1) c1' (Nat.le_succ _) (by rfl) fun G4 s4 l4 F4 d1 k4 o4 => ?_
  have hst1 : st ≠ s.heap.objs.size + 1 := by
    rintro rfl
    obtain ⟨o, e, hd⟩ := c1'
    rw [e3] at e; cases e; cases hd
  have hst2 : st ≠ s.heap.objs.size + 2 := by
    rintro rfl
    obtain ⟨o, e, hd⟩ := c2'
    rw [e3] at e; cases e; cases hd
  have hstL : st ≠ (lawEnv s f cd).locals := lobj_neL e3 F3
  have hS4 : Sta s4.heap st scr := ⟨0, _, ⟨_, k4 _ _ hst1 e3, rfl, 0, rfl⟩⟩
  have c2'' : s4.heap.IsCell (s.heap.objs.size + 2) none := let ⟨o, e, r⟩ := c2'; ⟨o, k4 _ _ (Nat.ne_of_gt (Nat.lt_succ_self _)) e, r⟩
  have hSc4 := hSc.mono l4
  have off4 : G4.get? st = none := o4 st hst1 o3
  have off42 : G4.get? (s.heap.objs.size + 2) = none := o4 _ (Nat.ne_of_gt (Nat.lt_succ_self _)) (hoff _ c2.lt gz2)
  clear F F2 F3 hSc P2
  have eP4 : c.eP < s.heap.objs.size := tt.lt.2
  have hstP : st ≠ c.eP := Nat.ne_of_gt (Nat.lt_of_lt_of_le eP4 lo3)
  have hYY : ∀ {G : Heap}, G.get? st = none → ∀ b, b = st → (noX b ∨ s.heap.objs.size ≤ b) ∧ b ≠ (lawEnv s f cd).locals ∧ G.get? b = none := fun q b e => by subst e; exact ⟨.inr lo3, hstL, q⟩
  -- tree
  refine wpAny_execs_cons (wpAny_Assign_Name ?_)
  refine compY_ok (c := c) (X := noX) (Y := fun b => b = st ∨ b = s.heap.objs.size + 2) (s₀ := s) (g₀ := g) (m := m1) (cl := [(Str.ofString "state", s.heap.objs.size + 1)])
    (fun j ys g' h' => (∃ ts, ts.length = j ∧ (∀ t ∈ ts, Bd 2 t) ∧ Trs g' ts ys) ∧ Sta h' st scr ∧ h'.IsCell (s.heap.objs.size + 2) none) (by rfl) (by decide) (by rfl) (by decide) (by rfl) hh ?_
  refine r_call (r_builtin ok F4.fz (by rfl) (r_with_type (r_args_cons (wpAny_BinOp (wpAny_Constant_int (r_call (r_global ok (F4.toks _).fz hN.nm (r_with_def ok hN (r_args_cons (r_cell (ca := s.heap.objs.size + 1) (F4.toks _).fz d1 (by rfl) (r_args_cons (wpAny_Constant_int (r_args_nil ⟨fun b o q => F4.fz.le b o (F4.fz.base b o q), ?_⟩)))))))))))))
  refine nxt_ok (lim := 4) ok hN (F4.toks _).fz (by simp only [depth_deeper]; omega) off4 hS4 hSc4 (by decide) fun r tr s6 hr X6 hS6 => ?_
  have F5 := F4.toks (s4.toks + 1 + 1)
  have F6 := F5.growO X6 (hYY off4)
  have lt4 : ∀ {b : Addr}, (∃ o, s4.heap.get? b = some o) → b < s4.heap.objs.size := fun ⟨o, e⟩ => Heap.lt_size e
  have stlt : st < s4.heap.objs.size := let ⟨_, _, x⟩ := hS4; x.lt
  have c2lt : s.heap.objs.size + 2 < s4.heap.objs.size := c2''.lt
  have off6 : (Mine.grow G4 s4.heap.objs.size s6.heap).get? st = none := grow_none off4 stlt
  have off62 : (Mine.grow G4 s4.heap.objs.size s6.heap).get? (s.heap.objs.size + 2) = none := grow_none off42 c2lt
  have l6 : Le G4 (Mine.grow G4 s4.heap.objs.size s6.heap) := le_grow (F5.fz.ext X6 fun b q => by subst q; exact off4).le
  have c26 : s6.heap.IsCell (s.heap.objs.size + 2) none := let ⟨o, e, q⟩ := c2''; ⟨o, X6.keep _ _ (Nat.ne_of_gt (Nat.lt_trans eP4 (Nat.lt_add_of_pos_right (by decide)))) (Ne.symm hst2) e, q⟩
  have z46 : s4.heap.objs.size ≤ s6.heap.objs.size := X6.size
  change St c noX s g (Mine.grow G4 s4.heap.objs.size s6.heap) _ _ _ at F6
  generalize Mine.grow G4 s4.heap.objs.size s6.heap = g6 at *
  refine wpAny_add_int (r_args_nil ?_)
  have e1r : (1 : Int) + (r : Int) = ((1 + r : Nat) : Int) := by omega
  rw [e1r]
  refine r_range (F6.toks _) (by omega) fun rr s7 F7 k7 _ hr7 => ?_
  obtain ⟨_, _, _, hr7⟩ := hr7
  refine r_iterR F7 hr7 (by omega) fun I fp Stt s8 Io F8 k8 hI8 => ?_
  have hS7 : Sta s7.heap st scr := hS6.keep fun o e => k7 _ _ e
  have hS8 : Sta s8.heap st scr := hS7.keep fun o e => k8 _ _ e
  have c27 : s7.heap.IsCell (s.heap.objs.size + 2) none := let ⟨o, e, q⟩ := c26; ⟨o, k7 _ _ e, q⟩
  have c28 : s8.heap.IsCell (s.heap.objs.size + 2) none := let ⟨o, e, q⟩ := c27; ⟨o, k8 _ _ e, q⟩
  have hIst : st < I := Nat.lt_of_lt_of_le (let ⟨_, _, x⟩ := hS7; x.lt) hI8
  have hI2 : s.heap.objs.size + 2 < I := Nat.lt_of_lt_of_le c27.lt hI8
  have hne2L : s.heap.objs.size + 2 ≠ (lawEnv s f cd).locals := Nat.ne_of_gt (Nat.lt_add_of_pos_right (by decide))
  have hneP : s.heap.objs.size + 2 ≠ c.eP := Nat.ne_of_gt (Nat.lt_trans eP4 (Nat.lt_add_of_pos_right (by decide)))
  refine ⟨g6, I, 1 + r, _, fp, Stt, rfl, Io, by omega, (fun b q => by rcases q with rfl | rfl; exact ⟨⟨.inr lo3, hstL⟩, hIst, off6⟩; exact ⟨⟨.inr (Nat.le_add_right _ 2), hne2L⟩, hI2, off62⟩), F8, ⟨⟨[], rfl, by simp, rfl⟩, hS8, c28⟩, ?_, ?_, ?_⟩
  · rintro j ys gg hh' gg' hh'' ⟨⟨ts, q1, q2, q3⟩, q4, q5⟩ hle hk
    exact ⟨⟨ts, q1, q2, q3.mono hle⟩, q4.keep fun o e => hk _ _ hIst hstL e, let ⟨o, e, q⟩ := q5; ⟨o, hk _ _ hI2 hne2L e, q⟩⟩
  · rintro B j ys v g' s10 C mC hB hBd ⟨⟨ts, q1, q2, q3⟩, q4, q5⟩ hle hP hj F10 hX10 hnC hmx
    have l4g' : Le G4 g' := fun b o e => hle _ _ (l6 _ _ e)
    refine r_call (r_global (env := compEnvC _ _ _ _) ok F10.fz hTf.nm (r_with_def ok hTf (r_args_cons (r_cell (ca := s.heap.objs.size + 1) F10.fz (d1.mono l4g') (by rfl) (r_args_cons (wpAny_Constant_int (r_args_nil ⟨fun b o q => F10.fz.le b o (F10.fz.base b o q), ?_⟩)))))))
    refine (tre_ok ok hTf 2).go (F10.toks _).fz (by rw [hBd]; simp only [depth_deeper]; omega) hB (hX10 st (.inl rfl)) q4 (hSc4.mono l4g') fun t v s11 X11 hS11 hB11 hT11 => ⟨(Ext.trans (Ext.toks) X11).mono fun _ => .inl, ⟨ts ++ [t], by simp [q1], ?_, ?_⟩, hS11, let ⟨o, e, q⟩ := q5; ⟨o, X11.keep _ _ hneP (Ne.symm hst2) e, q⟩⟩
    · intro u hu
      rcases List.mem_append.mp hu with hu | hu
      · exact q2 u hu
      · rw [List.mem_singleton] at hu; subst hu; exact hB11
    · exact (q3.mono (le_grow ((F10.toks _).fz.ext X11 fun b q => hX10 b (.inl q)).le)).append (Trs.one hT11)
  · rintro D ys G s10 ⟨⟨ts, q1, q2, q3⟩, q4, q5⟩ hle F10 hX10 hD hID
    refine r_storeC F10 (hX10 _ (.inr rfl)) q5 (Nat.le_add_right _ 2) (by rfl) fun G11 s11 l11 F11 d2 k11 o11 => ?_
    have l411 : Le G4 G11 := fun b o e => l11 _ _ (hle _ _ (l6 _ _ e))
    exact h cd m1 st scr D ts s11 G11 ⟨F11, q4.keep fun o e => k11 _ _ hst2 e, hSc4.mono l411, o11 st hst2 (hX10 st (.inl rfl)), lo3, d1.mono l411, d2, ⟨D, ys, rfl, hD.mono l11, q3.mono l11⟩, by omega, q2⟩
end
end Mine
end
section
open PySem PySem.Calls PySem.Spec PyProof.Rows PySem.W
open PySem.SeqAt
set_option maxRecDepth 100000
namespace Mine

/-- what a step keeps of the objects os -/
def Kp (os : List Addr) (h h' : Heap) : Prop := ∀ b ∈ os, ∀ o, h.get? b = some o → h'.get? b = some o
theorem Kp.refl {os : List Addr} {h : Heap} : Kp os h h := fun _ _ _ e => e
theorem Kp.trans {os : List Addr} {h h' h'' : Heap} (x : Kp os h h') (y : Kp os h' h'') : Kp os h h'' := fun b hb o e => y b hb o (x b hb o e)

section
variable {c : Cfg} {X : Addr → Prop} {A : Around} {E : Value → Shared → Prop} {s₀ s : Shared} {g₀ g : Heap} {L : Addr} {m : Str → Option Value} {env : Env}

theorem r_storeK {x : Str} {v : Value} {Q : Unit → Shared → Prop} (F : St c X s₀ g₀ g env.locals m s)
    (h : ∀ s', St c X s₀ g₀ g env.locals (fun y => if y = x then some v else m y) s' → (∀ b o, b ≠ env.locals → s.heap.get? b = some o → s'.heap.get? b = some o) → Q () s')
    (hl : env.kindOf x = some .local := by rfl) (hp : (env.scope.kind == .class || (env.scope.kind == .module && env.locals != env.globals)) = false := by rfl) :
    wpAny c.M A (storeName env x v) Q E s :=
  wpAny_storeName_local hl F.ns (fun h' hn hs => h _ (F.same _ hn hs) fun b o hb e => (hs.2 b hb).trans e) hp
theorem r_storeZ {x : Str} {v : Value} {Q : Unit → Shared → Prop} (F : St c X s₀ g₀ g env.locals m s)
    (h : ∀ s', St c X s₀ g₀ g env.locals (fun y => if y = x then some v else m y) s' → (∀ b o, b ≠ env.locals → s.heap.get? b = some o → s'.heap.get? b = some o) → s'.heap.objs.size = s.heap.objs.size → Q () s')
    (hl : env.kindOf x = some .local := by rfl) (hp : (env.scope.kind == .class || (env.scope.kind == .module && env.locals != env.globals)) = false := by rfl) :
    wpAny c.M A (storeName env x v) Q E s :=
  wpAny_storeName_local hl F.ns (fun h' hn hs => h _ (F.same _ hn hs) (fun b o hb e => (hs.2 b hb).trans e) hs.1) hp

theorem r_iterRx {r : Addr} {n : Nat} {t u v : Tok} {Q : Value → Shared → Prop} (F : St c X s₀ g₀ g L m s) (hr : IsRange s.heap r 0 n 1 t u v) (hn : n < 2 ^ 60)
    (h : ∀ I fp Stt s', ItOk c X s₀ s' g L I n (fun i v => ∃ t, v = .int (i : Nat) t) fp Stt → St c X s₀ g₀ g L m s' → (∀ b o, s.heap.get? b = some o → s'.heap.get? b = some o) → s.heap.objs.size ≤ I → (∀ i h, Stt i h → I < h.objs.size) → Q (.ref I) s') :
    wpAny c.M A (pyIter (.ref r)) Q E s := by
  refine wpAny_pyIter_range hr (small_one (by decide) (by decide) (by omega) (by omega)) ?_
  have hk : ∀ b o, s.heap.get? b = some o → (s.heap.push { cls := .type "range_iterator", data := .fields #[rawInt 0, rawInt (Builtin.Range.rangeSize 0 n 1), rawInt 1] }).get? b = some o := fun b o e => Heap.get?_push_of_some _ e
  have F' := F.keep (k := s.toks) hk
  obtain ⟨ps, tt⟩ := F.fz.tab
  have hL : L < s.heap.objs.size := F.ns.lt
  refine h s.heap.objs.size [s.heap.objs.size] (fun i h => IsRangeIter h s.heap.objs.size (0 + (i : Nat) * 1) ((n : Int) - (i : Nat)) 1) _ ⟨fun B hB => ?_, ?_, get_none_of_ge F.fz.le (Nat.le_refl _), F.ext.size,
    by show _ < (s.heap.push _).objs.size; rw [Heap.size_push]; exact Nat.lt_succ_self _, Nat.ne_of_gt hL, Nat.ne_of_gt tt.lt.1, Nat.ne_of_gt tt.lt.2, fun b hb => ?_, fun b hb => .inl (List.mem_singleton.mp hb)⟩ F' hk (Nat.le_refl _) (fun i h q => Heap.lt_size (show h.get? _ = some _ from q))
  · have W := Walks.range (prog := pw) (w := c.w) hB s.heap.objs.size 0 1 n
    refine ⟨W.sub, W.frame, fun i s Q E hi st hQ => W.item i s Q E hi st fun v h' tk hp => hQ v h' tk (by simpa using hp), W.done, W.self⟩
  · have e : Builtin.Range.rangeSize 0 (n : Int) 1 = n := by rw [rangeSize_nat]; omega
    show IsRangeIter _ _ _ _ _
    rw [e]
    simpa [IsRangeIter, rawInt] using Heap.get?_push_size s.heap (o := { cls := .type "range_iterator", data := .fields #[rawInt 0, rawInt (n : Int), rawInt 1] }) rfl
  · rw [List.mem_singleton] at hb; subst hb
    exact ⟨Nat.le_refl _, Nat.ne_of_gt tt.lt.2, Nat.ne_of_gt hL, fun q => Nat.lt_irrefl _ (Nat.lt_of_lt_of_le (F.ltX _ q) F.ext.size)⟩

theorem lenL_raw {l : Addr} {vs : List Value} {Q : Value → Shared → Prop} (hl : Ls s.heap l vs) (hz : vs.length ≤ 16777216) (h : Q (.int (vs.length : Nat) (s.toks + 1)) { s with toks := s.toks + 1 + 1 }) :
    wpAny c.M A (call (.builtin "len") [.ref l]) Q E s := len_list hl (by simp; omega) (by rw [List.size_toArray]; exact h)

theorem newT_raw {vs : List Value} {Q : Value → Shared → Prop} (hz : vs.length ≤ 1000) (h : Q (.ref s.heap.objs.size) { s with heap := s.heap.push { cls := .type "tuple", data := .seq vs.toArray } }) : wpAny c.M A (newTuple vs) Q E s :=
  wpAny_newObj_type h (by show vs.toArray.size ≤ sizeLine; rw [List.size_toArray, sizeLine_eq]; omega)
end

/-- the state between the statements of the first loop's body -/
structure LB (c : Cfg) (s₀ s : Shared) (g₀ gb g : Heap) (L : Addr) (m : Str → Option Value) (os : List Addr) (h0 : Heap) : Prop where
  F : St c noX s₀ g₀ g L m s
  le : Le gb g
  off : ∀ b ∈ os, g.get? b = none

section
variable {c : Cfg} {A : Around} {E : Value → Shared → Prop} {s₀ s : Shared} {g₀ g : Heap} {f : Addr} {cd : Value} {m : Str → Option Value}

set_option maxHeartbeats 8000000 in
theorem law_edits (ok : c.Ok) {st scr ta : Addr} {ts : List T} {Q : Flow → Shared → Prop} (C : LawC c s₀ s g₀ g f cd m st scr ta ts) (hd : A.depth ≤ 450) (hu : A.units ≤ 5000) (hh : A.handled = none)
    (h : ∀ s', Pex c s₀ s' → Q (.ret (.bool true)) s') : wpAny c.M A (execs (dLaw.body.drop 2) (lawEnv s₀ f cd)) Q (fun _ _ => False) s := by
  obtain ⟨fE, hEf⟩ := ok.at_ (d := dEnc) (by rw [recs_eq]; simp)
  obtain ⟨fN, hN⟩ := ok.at_ (d := dNxt) (by rw [recs_eq]; simp)
  obtain ⟨fT, hTf⟩ := ok.at_ (d := dTre) (by rw [recs_eq]; simp)
  obtain ⟨fW, hWf⟩ := ok.at_ (d := dWay) (by rw [recs_eq]; simp)
  have rl : recursionLimit = 1000 := rfl
  obtain ⟨F, hS, hSc, off, lo, d1, d2, hT, hlen, hbd⟩ := C
  have hz : (enc (.node ts)).length ≤ 100000 := by
    have h1 := encs_cap ts (B := 1101) fun t ht => (hbd t ht).enc (by decide)
    have h2 : ts.length * 1101 ≤ 4 * 1101 := Nat.mul_le_mul_right _ hlen
    have h3 := hd_len 192 (encs ts).length (by omega)
    rw [enc, List.length_append]; omega
  have hh3 : ht (.node ts) ≤ 3 := by
    rw [ht]
    have : ∀ us : List T, (∀ t ∈ us, Bd 2 t) → Mine.hts us ≤ 2 := by
      intro us
      induction us with
      | nil => intro _; simp [Mine.hts]
      | cons u us ihu => intro hu; rw [Mine.hts]; have := (hu u (List.mem_cons_self ..)).ht; have := ihu fun t ht => hu t (List.mem_cons_of_mem _ ht); omega
    have := this ts hbd
    omega
  obtain ⟨ps, tt⟩ := F.fz.tab
  have hstL : st ≠ (lawEnv s₀ f cd).locals := let ⟨_, _, x⟩ := hS; x.ne_L F
  have hstP : st ≠ c.eP := let ⟨_, _, x⟩ := hS; (x.ne_code tt).2
  -- octets
  refine wpAny_execs_cons (wpAny_Assign_Name (r_call (r_global ok F.fz hEf.nm (r_with_def ok hEf (r_args_cons (r_cell (ca := s₀.heap.objs.size + 2) F.fz d2 (by rfl) (r_args_nil ⟨fun b o q => F.fz.le b o (F.fz.base b o q), ?_⟩)))))))
  refine enc_ok ok hEf _ (Nat.le_refl _) hT F.fz (by omega) hh (by omega) fun to s1 P1 => ?_
  have F1 := F.stay P1
  have hS1 : Sta s1.heap st scr := hS.keep fun o e => P1.keep _ _ hstP (fun q => q) e
  refine r_storeK F1 fun s2 F2 k2 => ?_
  have hS2 := hS1.keep fun o e => k2 _ _ hstL e
  -- edits
  refine wpAny_execs_cons (wpAny_Assign_Name (r_list (r_args_nil (r_newO F2 (by simp) fun E0 s3 F3 e3 o3 lo3 z3 k3 => r_storeK F3 fun s4 F4 k4 => ?_))))
  have hS3 := hS2.keep fun o e => k3 _ _ e
  have hEL : E0 ≠ (lawEnv s₀ f cd).locals := lobj_neL e3 F3
  have hEP : E0 ≠ c.eP := let ⟨_, tt⟩ := F3.fz.tab; (lobj_ne e3 tt).2
  have hEC : E0 ≠ c.eC := let ⟨_, tt⟩ := F3.fz.tab; (lobj_ne e3 tt).1
  have hS4 := hS3.keep fun o e => k4 _ _ hstL e
  have e4 := k4 _ _ hEL e3
  have hEst : E0 ≠ st := by
    rintro rfl
    obtain ⟨k, t, x⟩ := hS2
    exact absurd x.lt (by rw [z3]; exact Nat.lt_irrefl _)
  obtain ⟨m4, F4, n_oct, n_ed⟩ : ∃ m4, St c noX s₀ g₀ g (lawEnv s₀ f cd).locals m4 s4 ∧ m4 (Str.ofString "octets") = some (.bytes (enc (.node ts)).toArray to) ∧ m4 (Str.ofString "edits") = some (.ref E0) := ⟨_, F4, by rfl, by rfl⟩
  -- the loop
  refine wpAny_execs_cons (wpAny_For (r_call (r_builtin ok F4.fz (by rfl) (r_with_type (r_args_cons (wpAny_Constant_int (r_args_nil (r_range (n := 2) (F4.toks _) (by decide) fun rr s5 F5 k5 _ hr5 => ?_))))))))
  obtain ⟨_, _, _, hr5⟩ := hr5
  refine r_iterRx F5 hr5 (by decide) fun I fp Stt s6 Io F6 k6 hI6 hlive => ?_
  have hIst : st < I := Nat.lt_of_lt_of_le (let ⟨_, _, x⟩ := (hS4.keep fun o e => k5 st o e); x.lt) hI6
  have hIE : E0 < I := Nat.lt_of_lt_of_le (Heap.lt_size (k5 _ _ e4)) hI6
  refine for_ok (Io.W _ hh) (fun j s' => ∃ m' gb es, St c noX s₀ g₀ gb (lawEnv s₀ f cd).locals m' s' ∧ Le g gb ∧ (∀ b ∈ [I, E0, st], gb.get? b = none) ∧ Sta s'.heap st scr ∧ (∃ n, s'.heap.get? E0 = some (lobj es n)) ∧ es.length = j ∧
      (∀ e ∈ es, ∃ w p how, EdS gb ts e w p how) ∧ m' (Str.ofString "octets") = some (.bytes (enc (.node ts)).toArray to) ∧ m' (Str.ofString "edits") = some (.ref E0))
    ⟨m4, g, [], F6, fun _ _ e => e, ?_, hS4.keep fun o e => k6 _ _ (k5 _ _ e), ⟨0, k6 _ _ (k5 _ _ e4)⟩, rfl, (fun _ q => nomatch q), n_oct, n_ed⟩ Io.st ?_ ?_ ?_
  · intro b hb
    rcases List.mem_cons.mp hb with rfl | hb
    · exact Io.off
    · rcases List.mem_cons.mp hb with rfl | hb
      · exact o3
      · rcases List.mem_cons.mp hb with rfl | hb
        · exact off
        · cases hb
  · rintro j s' h' tk ⟨m', gb, es, F', q1, q2, q3, ⟨n, q4⟩, q5⟩ hk'
    refine ⟨m', gb, es, F'.writeI Io.lo Io.neL Io.neC Io.neP (q2 I (by simp)) hk', q1, q2, q3.keep fun o e => hk' _ _ (by simpa using Nat.ne_of_lt hIst) e, ⟨n, hk' _ _ (by simpa using Nat.ne_of_lt hIE) q4⟩, q5⟩
  · rintro j v s7 hj ⟨tv, rfl⟩ ⟨m', gb, es, F7, lg, hoff, hS7, ⟨ne, e7⟩, hes, hed, o_oct, o_ed⟩ hI7
    have oI : gb.get? I = none := hoff I (by simp)
    have oE : gb.get? E0 = none := hoff E0 (by simp)
    have oS : gb.get? st = none := hoff st (by simp)
    have d1b := d1.mono lg
    have d2b := d2.mono lg
    have hTb := hT.mono lg
    have nIL : I ≠ (lawEnv s₀ f cd).locals := Io.neL
    have kIEL : ∀ b, (b = I ∨ b = E0) → b ≠ (lawEnv s₀ f cd).locals ∧ b ≠ c.eP ∧ b ≠ st := fun b hb => by
      rcases hb with rfl | rfl
      · exact ⟨Io.neL, Io.neP, Ne.symm (Nat.ne_of_lt hIst)⟩
      · exact ⟨hEL, hEP, hEst⟩
    refine wpAny_assign_Name (r_storeZ F7 fun s8 F8 k8 z8 => ?_)
    have K8 : ∀ b, (b = I ∨ b = E0) → ∀ o, s7.heap.get? b = some o → s8.heap.get? b = some o := fun b hb o e => k8 b o (kIEL b hb).1 e
    have hS8 := hS7.keep fun o e => k8 _ _ hstL e
    -- ways
    refine wpAny_execs_cons (wpAny_Assign_Name (r_call (r_global ok F8.fz hWf.nm (r_with_def ok hWf (r_args_cons (r_cell (ca := s₀.heap.objs.size + 2) F8.fz d2b (by rfl) (r_args_cons (r_list (r_args_nil (newL_raw (by simp) (r_args_nil ⟨fun b o q => Heap.get?_push_of_some _ (F8.fz.le b o (F8.fz.base b o q)), ?_⟩)))))))))))
    have P9 : Pex c s8 { s8 with heap := s8.heap.push { cls := .type "list", data := .seq ([] : List Value).toArray } } := Ext.push (tk := s8.toks) _
    have F9 := F8.pex P9
    have hw9 : Wy (Mine.grow gb s8.heap.objs.size (s8.heap.push { cls := .type "list", data := .seq ([] : List Value).toArray })) [] s8.heap.objs.size :=
      ⟨[], ⟨{ cls := .type "list", data := .seq ([] : List Value).toArray }, by rw [grow_new (Nat.le_refl _)]; exact Heap.get?_push_size _ rfl, rfl, 0, rfl⟩, IntsAre.nil⟩
    have l9 : Le gb (Mine.grow gb s8.heap.objs.size (s8.heap.push { cls := .type "list", data := .seq ([] : List Value).toArray })) := le_grow (F8.stay P9).fz.le
    refine (way_ok ok hWf 3).go hh3 (hTb.mono l9) hw9 (by simp) F9.fz (by omega) hh (by omega) fun aW ys s10 P10 hl10 hW10 => ?_
    have P910 := P9.trans P10
    have F10 := F8.pex P910
    have lgg : Le (Mine.grow (Mine.grow gb s8.heap.objs.size (s8.heap.push { cls := .type "list", data := .seq ([] : List Value).toArray })) (s8.heap.push { cls := .type "list", data := .seq ([] : List Value).toArray }).objs.size s10.heap) (Mine.grow gb s8.heap.objs.size s10.heap) := grow_grow (by rw [Heap.size_push]; exact Nat.le_succ _)
    have hlw := hl10.mono lgg
    have hWs : ∀ y ∈ ys, ∃ a w, y = .ref a ∧ Wy (Mine.grow gb s8.heap.objs.size s10.heap) w a ∧ vld 0 w (.node ts) ∧ w.length ≤ 3 := fun y hy => by
      obtain ⟨a, w, r1, r2, r3, r4⟩ := hW10.2.2 y hy
      exact ⟨a, w, r1, by simpa using r2.mono lgg, r3, by omega⟩
    have hW1 : ∃ r, ys = .ref s8.heap.objs.size :: r := hW10.1
    have hw10 := (hw9.mono (le_grow (F9.stay P10).fz.le)).mono lgg
    have hyl := hW10.2.1
    have K10 : ∀ b, (b = I ∨ b = E0) → ∀ o, s7.heap.get? b = some o → s10.heap.get? b = some o := fun b hb o e => P910.keep b o (kIEL b hb).2.1 (fun q => q) (K8 b hb o e)
    have hS10 := hS8.keep fun o e => P910.keep _ _ hstP (fun q => q) e
    have l10 : Le gb (Mine.grow gb s8.heap.objs.size s10.heap) := le_grow (F8.stay P910).fz.le
    have lt8 : ∀ b, (b = I ∨ b = E0) → b < s8.heap.objs.size := fun b hb => by
      rcases hb with rfl | rfl
      · exact Nat.lt_of_lt_of_le (hlive _ _ hI7) (z8 ▸ Nat.le_refl _)
      · exact Heap.lt_size (K8 _ (.inr rfl) _ e7)
    have lt8s : st < s8.heap.objs.size := let ⟨_, _, x⟩ := hS8; x.lt
    have o10 : ∀ b, (b = I ∨ b = E0 ∨ b = st) → (Mine.grow gb s8.heap.objs.size s10.heap).get? b = none := fun b hb => by
      rcases hb with rfl | rfl | rfl
      · exact grow_none oI (lt8 _ (.inl rfl))
      · exact grow_none oE (lt8 _ (.inr rfl))
      · exact grow_none oS lt8s
    generalize Mine.grow gb s8.heap.objs.size s10.heap = g10 at *
    generalize hwA : s8.heap.objs.size = wA at *
    refine r_storeZ F10 fun s11 F11 k11 z11 => ?_
    have K11 : ∀ b, (b = I ∨ b = E0) → ∀ o, s7.heap.get? b = some o → s11.heap.get? b = some o := fun b hb o e => k11 b o (kIEL b hb).1 (K10 b hb o e)
    have hS11 := hS10.keep fun o e => k11 _ _ hstL e
    obtain ⟨m11, F11, o_oct, o_ed, o_ways⟩ : ∃ m11, St c noX s₀ g₀ g10 (lawEnv s₀ f cd).locals m11 s11 ∧ m11 (Str.ofString "octets") = some (.bytes (enc (.node ts)).toArray to) ∧ m11 (Str.ofString "edits") = some (.ref E0) ∧ m11 (Str.ofString "ways") = some (.ref aW) := ⟨_, F11, o_oct, o_ed, by rfl⟩
    -- ways + [way + [len(tree)] for way in ways[:1]]
    obtain ⟨vs, hvs, hTs⟩ := Tr.size (hTb.mono l10)
    have hvz := hTs.length
    have hLo : ∀ b, (b = I ∨ b = E0 ∨ b = st) → s₀.heap.objs.size ≤ b ∧ b ≠ (lawEnv s₀ f cd).locals := fun b hb => by
      rcases hb with rfl | rfl | rfl
      · exact ⟨Io.lo, Io.neL⟩
      · exact ⟨lo3, hEL⟩
      · exact ⟨lo, hstL⟩
    refine wpAny_execs_cons (wpAny_Assign_Name (wpAny_BinOp (r_name F11 o_ways ?_)))
    refine compY_ok (c := c) (X := noX) (Y := fun b => b = I ∨ b = E0 ∨ b = st) (s₀ := s₀) (g₀ := g₀) (m := m11) (cl := [(Str.ofString "tree", s₀.heap.objs.size + 2)])
      (fun j zs g' h' => zs.length = j ∧ (∀ y ∈ zs, ∃ a, y = .ref a ∧ Wy g' [ts.length] a) ∧ (∀ b, (b = I ∨ b = E0) → ∀ o, s7.heap.get? b = some o → h'.get? b = some o) ∧ Sta h' st scr) (by rfl) (by decide) (by rfl) (by decide) (by rfl) hh ?_
    refine wpAny_Subscript_list_slice (r_name F11 o_ways (wpAny_evalPart_none (wpAny_evalPart_some (wpAny_Constant_int ⟨aW, ys.toArray, none, some 1, rfl, hlw.mono F11.fz.le, by rw [sizeLine_eq]; simp; omega, .none, .int _ _, ?_⟩))))
    have hk12 : ∀ b o, s11.heap.get? b = some o → ((s11.heap.push { cls := .type "slice", data := .fields #[.none, .int 1 s11.toks, .none] }).push { cls := .type "list", data := .seq (slicePick ys.toArray none (some 1) none) }).get? b = some o := fun b o e => Heap.get?_push_of_some _ (Heap.get?_push_of_some _ e)
    have P12 : Pex c s11 { s11 with heap := (s11.heap.push { cls := .type "slice", data := .fields #[.none, .int 1 s11.toks, .none] }).push { cls := .type "list", data := .seq (slicePick ys.toArray none (some 1) none) }, toks := s11.toks + 1 } :=
      (Ext.push (tk := s11.toks + 1) _).trans (Ext.push (tk := s11.toks + 1) _)
    have F12 := F11.pex P12
    have hl12 : Ls (Mine.grow g10 s11.heap.objs.size ((s11.heap.push { cls := .type "slice", data := .fields #[.none, .int 1 s11.toks, .none] }).push { cls := .type "list", data := .seq (slicePick ys.toArray none (some 1) none) })) (s11.heap.objs.size + 1) (ys.take 1) := by
      refine ⟨{ cls := .type "list", data := .seq (slicePick ys.toArray none (some 1) none) }, ?_, rfl, 0, ?_⟩
      · rw [grow_new (Nat.le_succ _)]
        have := Heap.get?_push_size (s11.heap.push { cls := .type "slice", data := .fields #[.none, .int 1 s11.toks, .none] }) (o := { cls := .type "list", data := .seq (slicePick ys.toArray none (some 1) none) }) rfl
        rw [Heap.size_push] at this
        exact this
      · have e := congrArg List.toArray (pick_run0 ys 1)
        rw [Array.toArray_toList] at e
        exact congrArg (fun a => Data.seq a 0) e
    have l12 : Le g10 (Mine.grow g10 s11.heap.objs.size ((s11.heap.push { cls := .type "slice", data := .fields #[.none, .int 1 s11.toks, .none] }).push { cls := .type "list", data := .seq (slicePick ys.toArray none (some 1) none) })) := le_grow (F11.stay P12).fz.le
    have lt11 : ∀ b, (b = I ∨ b = E0 ∨ b = st) → b < s11.heap.objs.size := fun b hb => by
      rcases hb with rfl | rfl | rfl
      · have h1 := hlive _ _ hI7
        have h2 := P910.size
        exact Nat.lt_of_lt_of_le h1 (by rw [z11]; exact Nat.le_trans (Nat.le_of_eq (z8.symm.trans hwA.symm)) h2)
      · exact Heap.lt_size (K11 _ (.inr rfl) _ e7)
      · exact (let ⟨_, _, x⟩ := hS11; x.lt)
    have o12 : ∀ b, (b = I ∨ b = E0 ∨ b = st) → (Mine.grow g10 s11.heap.objs.size ((s11.heap.push { cls := .type "slice", data := .fields #[.none, .int 1 s11.toks, .none] }).push { cls := .type "list", data := .seq (slicePick ys.toArray none (some 1) none) })).get? b = none := fun b hb => grow_none (o10 b hb) (lt11 b hb)
    have z12 : ((s11.heap.push { cls := .type "slice", data := .fields #[.none, .int 1 s11.toks, .none] }).push { cls := .type "list", data := .seq (slicePick ys.toArray none (some 1) none) }).objs.size = s11.heap.objs.size + 1 + 1 := by rw [Heap.size_push, Heap.size_push]
    dsimp only
    generalize Mine.grow g10 s11.heap.objs.size ((s11.heap.push { cls := .type "slice", data := .fields #[.none, .int 1 s11.toks, .none] }).push { cls := .type "list", data := .seq (slicePick ys.toArray none (some 1) none) }) = g12 at *
    generalize (s11.heap.push { cls := .type "slice", data := .fields #[.none, .int 1 s11.toks, .none] }).push { cls := .type "list", data := .seq (slicePick ys.toArray none (some 1) none) } = h12 at *
    have K12 : ∀ b, (b = I ∨ b = E0) → ∀ o, s7.heap.get? b = some o → h12.get? b = some o := fun b hb o e => hk12 b o (K11 b hb o e)
    have hS12 : Sta h12 st scr := hS11.keep fun o e => hk12 _ _ e
    refine r_iterL F12 hl12 (fun _ q => q.elim) fun I2 fp2 Stt2 s13 Io2 F13 k13 hI13 => ?_
    obtain ⟨yr, hyr⟩ := hW1
    have hy1 : ys.take 1 = [.ref wA] := by rw [hyr]; rfl
    have hI2 : ∀ b, (b = I ∨ b = E0 ∨ b = st) → b < I2 := fun b hb => by
      have h1 := lt11 b hb
      have h2 : s11.heap.objs.size ≤ h12.objs.size := by rw [z12]; exact Nat.le_trans (Nat.le_succ _) (Nat.le_succ _)
      exact Nat.lt_of_lt_of_le h1 (Nat.le_trans h2 hI13)
    have l1012 := l12
    refine ⟨g12, I2, _, _, fp2, Stt2, rfl, Io2, by rw [hy1]; simp, fun b hb => ⟨⟨.inr (hLo b hb).1, (hLo b hb).2⟩, hI2 b hb, o12 b hb⟩, F13, ⟨rfl, (fun _ q => nomatch q), fun b hb o e => k13 _ _ (K12 b hb o e), hS12.keep fun o e => k13 _ _ e⟩, ?_, ?_, ?_⟩
    · rintro j zs gg hh' gg' hh'' ⟨q1, q2, q3, q4⟩ hle hk
      refine ⟨q1, fun y hy => ?_, fun b hb o e => hk _ _ (hI2 b (by rcases hb with r | r; exact .inl r; exact .inr (.inl r))) (kIEL b hb).1 (q3 b hb o e), q4.keep fun o e => hk _ _ (hI2 st (.inr (.inr rfl))) hstL e⟩
      obtain ⟨a, r1, r2⟩ := q2 y hy
      exact ⟨a, r1, r2.mono hle⟩
    · rintro B j zs v g' s14 C mC hB hBd ⟨q1, q2, q3, q4⟩ hle hP hj F14 hX14 hnC hmx
      have hv : v = .ref wA := by
        rw [hy1] at hP
        match j, hP with
        | 0, hP => simpa using hP.symm
      subst hv
      have l10' : Le g10 g' := fun b o e => hle _ _ (l1012 _ _ e)
      have d2' : Cl g' (s₀.heap.objs.size + 2) (.ref ta) := (d2b.mono l10).mono l10'
      obtain ⟨wv, hwv, hwi⟩ := hw10.mono l10'
      have hwv0 : wv = [] := by cases hwi; rfl
      subst hwv0
      refine wpAny_BinOp (wpAny_Name (wpAny_loadName_local (by rfl) (by rfl) hnC hmx (r_list (r_args_cons (r_call (r_builtin (env := compEnvC _ _ _ _) ok F14.fz (by rfl) (r_with_builtin (r_args_cons (r_cell (ca := s₀.heap.objs.size + 2) F14.fz d2' (by rfl) (r_args_nil (lenL_raw ((hvs.mono l10').mono F14.fz.le) (by have := encs_len ts; have := no_self ts; omega) (r_args_nil (newL_raw (by simp) ?_)))))))))))))
      have hl1 : Ls (s14.heap.push { cls := .type "list", data := .seq ([Value.int (vs.length : Nat) (s14.toks + 1)] : List Value).toArray }) s14.heap.objs.size [.int (vs.length : Nat) (s14.toks + 1)] := ⟨_, Heap.get?_push_size _ rfl, rfl, 0, rfl⟩
      refine addL_raw (vs := []) (ws := [.int (vs.length : Nat) (s14.toks + 1)]) ((hwv.mono F14.fz.le).mono fun b o e => Heap.get?_push_of_some _ e) hl1 (by simp) ?_
      have P1 : Pex c s14 { s14 with heap := s14.heap.push { cls := .type "list", data := .seq ([Value.int (vs.length : Nat) (s14.toks + 1)] : List Value).toArray }, toks := s14.toks + 1 + 1 } := Ext.push (tk := s14.toks + 1 + 1) _
      have P2 : Pex c { s14 with heap := s14.heap.push { cls := .type "list", data := .seq ([Value.int (vs.length : Nat) (s14.toks + 1)] : List Value).toArray }, toks := s14.toks + 1 + 1 } { s14 with heap := (s14.heap.push { cls := .type "list", data := .seq ([Value.int (vs.length : Nat) (s14.toks + 1)] : List Value).toArray }).push { cls := .type "list", data := .seq ([] ++ [Value.int (vs.length : Nat) (s14.toks + 1)]).toArray }, toks := s14.toks + 1 + 1 } := Ext.push (tk := s14.toks + 1 + 1) _
      have P12' := P1.trans P2
      refine ⟨P12'.mono fun _ q => q.elim, by simp [q1], ?_, fun b hb o e => Heap.get?_push_of_some _ (Heap.get?_push_of_some _ (q3 b hb o e)), q4.keep fun o e => Heap.get?_push_of_some _ (Heap.get?_push_of_some _ e)⟩
      intro y hy
      rcases List.mem_append.mp hy with hy | hy
      · obtain ⟨a, r1, r2⟩ := q2 y hy
        exact ⟨a, r1, r2.mono (le_grow (F14.stay P12').fz.le)⟩
      · rw [List.mem_singleton] at hy
        refine ⟨_, hy, [.int (vs.length : Nat) (s14.toks + 1)], ⟨{ cls := .type "list", data := .seq ([] ++ [Value.int (vs.length : Nat) (s14.toks + 1)]).toArray }, ?_, rfl, 0, rfl⟩, ?_⟩
        · rw [grow_new (by rw [Heap.size_push]; exact Nat.le_succ _)]; exact Heap.get?_push_size _ rfl
        · rw [hvz]; exact IntsAre.cons _ _ IntsAre.nil
    · rintro D zs G14 s14 ⟨q1, q2, q3, q4⟩ hle F14 hX14 hD hID
      have l1014 : Le g10 G14 := fun b o e => hle _ _ (l1012 _ _ e)
      have hzl : zs.length = 1 := by rw [q1, hy1]; rfl
      have hyz : ys.length + 1 ≤ 100001 := by omega
      refine addL_raw ((hlw.mono l1014).mono F14.fz.le) (hD.mono F14.fz.le) (by omega) ?_
      have P15 : Pex c s14 { s14 with heap := s14.heap.push { cls := .type "list", data := .seq (ys ++ zs).toArray } } := Ext.push (tk := s14.toks) _
      have F15 := F14.pex P15
      have l15 : Le G14 (Mine.grow G14 s14.heap.objs.size (s14.heap.push { cls := .type "list", data := .seq (ys ++ zs).toArray })) := le_grow (F14.stay P15).fz.le
      have hl15 : Ls (Mine.grow G14 s14.heap.objs.size (s14.heap.push { cls := .type "list", data := .seq (ys ++ zs).toArray })) s14.heap.objs.size (ys ++ zs) := ⟨{ cls := .type "list", data := .seq (ys ++ zs).toArray }, by rw [grow_new (Nat.le_refl _)]; exact Heap.get?_push_size _ rfl, rfl, 0, rfl⟩
      have q3' : ∀ b, (b = I ∨ b = E0) → ∀ o, s7.heap.get? b = some o → (s14.heap.push { cls := .type "list", data := .seq (ys ++ zs).toArray }).get? b = some o := fun b hb o e => Heap.get?_push_of_some _ (q3 b hb o e)
      have q4' : Sta (s14.heap.push { cls := .type "list", data := .seq (ys ++ zs).toArray }) st scr := q4.keep fun o e => Heap.get?_push_of_some _ e
      have lt14 : ∀ b, (b = I ∨ b = E0 ∨ b = st) → b < s14.heap.objs.size := fun b hb => by
        have h1 := hI2 b hb
        have h2 : D < s14.heap.objs.size := (hD.mono F14.fz.le).lt
        exact Nat.lt_trans h1 (Nat.lt_trans hID h2)
      have o15 : ∀ b, (b = I ∨ b = E0 ∨ b = st) → (Mine.grow G14 s14.heap.objs.size (s14.heap.push { cls := .type "list", data := .seq (ys ++ zs).toArray })).get? b = none := fun b hb => grow_none (hX14 b hb) (lt14 b hb)
      have z15 : s14.heap.objs.size ≤ (s14.heap.push { cls := .type "list", data := .seq (ys ++ zs).toArray }).objs.size := by rw [Heap.size_push]; exact Nat.le_succ _
      generalize hg15 : Mine.grow G14 s14.heap.objs.size (s14.heap.push { cls := .type "list", data := .seq (ys ++ zs).toArray }) = g15 at *
      generalize s14.heap.push { cls := .type "list", data := .seq (ys ++ zs).toArray } = h15 at *
      have hWall : ∀ y ∈ ys ++ zs, ∃ a w, y = .ref a ∧ Wy g15 w a ∧ (vld 0 w (.node ts) ∨ w = [ts.length]) ∧ w.length ≤ 3 := fun y hy => by
        rcases List.mem_append.mp hy with hy | hy
        · obtain ⟨a, w, r1, r2, r3, r4⟩ := hWs y hy
          exact ⟨a, w, r1, (r2.mono l1014).mono l15, .inl r3, r4⟩
        · obtain ⟨a, r1, r2⟩ := q2 y hy
          exact ⟨a, _, r1, r2.mono l15, .inr rfl, by simp⟩
      refine r_storeZ F15 fun s16 F16 k16 z16 => ?_
      have K16 : ∀ b, (b = I ∨ b = E0) → ∀ o, s7.heap.get? b = some o → s16.heap.get? b = some o := fun b hb o e => k16 b o (kIEL b hb).1 (q3' b hb o e)
      have hS16 : Sta s16.heap st scr := q4'.keep fun o e => k16 _ _ hstL e
      have l0 : Le gb g15 := fun b o e => l15 _ _ (l1014 _ _ (l10 _ _ e))
      have lt16 : ∀ b, (b = I ∨ b = E0 ∨ b = st) → b < s16.heap.objs.size := fun b hb => by rw [z16]; exact Nat.lt_of_lt_of_le (lt14 b hb) z15
      obtain ⟨m16, F16, o_oct, o_ed, o_ways⟩ : ∃ m16, St c noX s₀ g₀ g15 (lawEnv s₀ f cd).locals m16 s16 ∧ m16 (Str.ofString "octets") = some (.bytes (enc (.node ts)).toArray to) ∧ m16 (Str.ofString "edits") = some (.ref E0) ∧ m16 (Str.ofString "ways") = some (.ref s14.heap.objs.size) := ⟨_, F16, o_oct, o_ed, by rfl⟩
      -- way = ways[a draw]
      refine wpAny_execs_cons (wpAny_Assign_Name (Subscript_ (r_name F16 o_ways (r_call (r_global ok F16.fz hN.nm (r_with_def ok hN (r_args_cons (r_cell (ca := s₀.heap.objs.size + 1) F16.fz (d1b.mono l0) (by rfl) (r_args_cons (r_call (r_builtin ok F16.fz (by rfl) (r_with_builtin (r_args_cons (r_name F16 o_ways (r_args_nil (lenL_raw (hl15.mono F16.fz.le) (by simp; omega) (r_args_nil ⟨fun b o q => F16.fz.le b o (F16.fz.base b o q), ?_⟩)))))))))))))))))
      have F17 := F16.toks (s16.toks + 1 + 1)
      have hYst : ∀ {G : Heap}, G.get? st = none → ∀ b, b = st → (noX b ∨ s₀.heap.objs.size ≤ b) ∧ b ≠ (lawEnv s₀ f cd).locals ∧ G.get? b = none := fun q b e => by subst e; exact ⟨.inr lo, hstL, q⟩
      refine nxt_ok (lim := (ys ++ zs).length) ok hN F17.fz (by omega) (o15 st (.inr (.inr rfl))) hS16 ((hSc.mono lg).mono l0) (by simp; omega) fun r tr s18 hr X18 hS18 => ?_
      have F18 := F17.growO X18 (hYst (o15 st (.inr (.inr rfl))))
      have l18 : Le g15 (Mine.grow g15 s16.heap.objs.size s18.heap) := le_grow (F17.fz.ext X18 fun b q => by subst q; exact o15 _ (.inr (.inr rfl))).le
      have o18 : ∀ b, (b = I ∨ b = E0 ∨ b = st) → (Mine.grow g15 s16.heap.objs.size s18.heap).get? b = none := fun b hb => grow_none (o15 b hb) (lt16 b hb)
      have K18 : ∀ b, (b = I ∨ b = E0) → ∀ o, s7.heap.get? b = some o → s18.heap.get? b = some o := fun b hb o e => X18.keep b o (kIEL b hb).2.1 (kIEL b hb).2.2 (K16 b hb o e)
      have lt18 : ∀ b, (b = I ∨ b = E0 ∨ b = st) → b < s18.heap.objs.size := fun b hb => Nat.lt_of_lt_of_le (lt16 b hb) X18.size
      change St c noX s₀ g₀ (Mine.grow g15 s16.heap.objs.size s18.heap) _ _ _ at F18
      generalize Mine.grow g15 s16.heap.objs.size s18.heap = g18 at *
      have hrl : r < (ys ++ zs).length := hr
      obtain ⟨aw, w, hyr2, hw18, hvw, hwl⟩ := hWall _ (List.getElem_mem hrl)
      refine r_itemL (i := r) F18 (hl15.mono l18) rfl (by simp at hrl; omega) (by rw [List.getElem?_eq_getElem hrl, hyr2]) ?_
      have hw18 := hw18.mono l18
      refine r_storeZ F18 fun s19 F19 k19 z19 => ?_
      have K19 : ∀ b, (b = I ∨ b = E0) → ∀ o, s7.heap.get? b = some o → s19.heap.get? b = some o := fun b hb o e => k19 b o (kIEL b hb).1 (K18 b hb o e)
      have hS19 : Sta s19.heap st scr := hS18.keep fun o e => k19 _ _ hstL e
      have lt19 : ∀ b, (b = I ∨ b = E0 ∨ b = st) → b < s19.heap.objs.size := fun b hb => by rw [z19]; exact lt18 b hb
      have l018 : Le gb g18 := fun b o e => l18 _ _ (l0 _ _ e)
      obtain ⟨m19, F19, o_oct, o_ed, o_way⟩ : ∃ m19, St c noX s₀ g₀ g18 (lawEnv s₀ f cd).locals m19 s19 ∧ m19 (Str.ofString "octets") = some (.bytes (enc (.node ts)).toArray to) ∧ m19 (Str.ofString "edits") = some (.ref E0) ∧ m19 (Str.ofString "way") = some (.ref aw) := ⟨_, F19, o_oct, o_ed, by rfl⟩
      -- how
      refine wpAny_execs_cons (wpAny_Assign_Name (wpAny_mono (Q := fun v s' => ∃ (how : Nat) (th : Tok) (gx : Heap), v = .int how th ∧ Le g18 gx ∧ (∀ b, (b = I ∨ b = E0 ∨ b = st) → gx.get? b = none) ∧ St c noX s₀ g₀ gx (lawEnv s₀ f cd).locals m19 s' ∧
          (∀ b, (b = I ∨ b = E0) → ∀ o, s7.heap.get? b = some o → s'.heap.get? b = some o) ∧ Sta s'.heap st scr ∧ (∀ b, (b = I ∨ b = E0 ∨ b = st) → b < s'.heap.objs.size) ∧ how ≤ 2 ∧ (w = [ts.length] → how = 1)) ?_ (fun v s20 q => ?_) fun _ _ q => q))
      · refine wpAny_IfExp (wpAny_isTrue_Compare1 (r_name F19 o_way (r_list (r_args_cons (r_call (r_builtin ok F19.fz (by rfl) (r_with_builtin (r_args_cons (r_cell (ca := s₀.heap.objs.size + 2) F19.fz (d2b.mono l018) (by rfl) (r_args_nil (lenL_raw ((hvs.mono fun b o e => l18 _ _ (l15 _ _ (l1014 _ _ e))).mono F19.fz.le) (by have := encs_len ts; have := no_self ts; omega) (r_args_nil (newL_raw (by simp) ?_)))))))))))))
        have P20 : Pex c s19 { s19 with heap := s19.heap.push { cls := .type "list", data := .seq ([Value.int (vs.length : Nat) (s19.toks + 1)] : List Value).toArray }, toks := s19.toks + 1 + 1 } := Ext.push (tk := s19.toks + 1 + 1) _
        have F20 := F19.pex P20
        have l20 : Le g18 (Mine.grow g18 s19.heap.objs.size (s19.heap.push { cls := .type "list", data := .seq ([Value.int (vs.length : Nat) (s19.toks + 1)] : List Value).toArray })) := le_grow (F19.stay P20).fz.le
        have o20 : ∀ b, (b = I ∨ b = E0 ∨ b = st) → (Mine.grow g18 s19.heap.objs.size (s19.heap.push { cls := .type "list", data := .seq ([Value.int (vs.length : Nat) (s19.toks + 1)] : List Value).toArray })).get? b = none := fun b hb => grow_none (o18 b hb) (lt19 b hb)
        have hw20 : Wy (Mine.grow g18 s19.heap.objs.size (s19.heap.push { cls := .type "list", data := .seq ([Value.int (vs.length : Nat) (s19.toks + 1)] : List Value).toArray })) [ts.length] s19.heap.objs.size :=
          ⟨[.int (vs.length : Nat) (s19.toks + 1)], ⟨{ cls := .type "list", data := .seq ([Value.int (vs.length : Nat) (s19.toks + 1)] : List Value).toArray }, by rw [grow_new (Nat.le_refl _)]; exact Heap.get?_push_size _ rfl, rfl, 0, rfl⟩, by rw [hvz]; exact IntsAre.cons _ _ IntsAre.nil⟩
        have K20 : ∀ b, (b = I ∨ b = E0) → ∀ o, s7.heap.get? b = some o → (s19.heap.push { cls := .type "list", data := .seq ([Value.int (vs.length : Nat) (s19.toks + 1)] : List Value).toArray }).get? b = some o := fun b hb o e => Heap.get?_push_of_some _ (K19 b hb o e)
        have hS20 : Sta (s19.heap.push { cls := .type "list", data := .seq ([Value.int (vs.length : Nat) (s19.toks + 1)] : List Value).toArray }) st scr := hS19.keep fun o e => Heap.get?_push_of_some _ e
        have lt20 : ∀ b, (b = I ∨ b = E0 ∨ b = st) → b < (s19.heap.push { cls := .type "list", data := .seq ([Value.int (vs.length : Nat) (s19.toks + 1)] : List Value).toArray }).objs.size := fun b hb => by rw [Heap.size_push]; exact Nat.lt_succ_of_lt (lt19 b hb)
        dsimp only at F20
        generalize Mine.grow g18 s19.heap.objs.size (s19.heap.push { cls := .type "list", data := .seq ([Value.int (vs.length : Nat) (s19.toks + 1)] : List Value).toArray }) = g20 at *
        generalize s19.heap.push { cls := .type "list", data := .seq ([Value.int (vs.length : Nat) (s19.toks + 1)] : List Value).toArray } = h20 at *
        refine r_eqWy F20 (hw18.mono l20) hw20 (by have : cLine = 9900 := rfl; omega) ?_
        by_cases hwn : w = [ts.length]
        · refine r_yesD hwn (wpAny_Constant_int ⟨1, _, g20, rfl, l20, o20, F20.toks _, K20, hS20, lt20, by decide, fun _ => rfl⟩)
        · refine r_noD hwn (r_call (r_global ok F20.fz hN.nm (r_with_def ok hN (r_args_cons (r_cell (ca := s₀.heap.objs.size + 1) F20.fz ((d1b.mono l018).mono l20) (by rfl) (r_args_cons (wpAny_Constant_int (r_args_nil ⟨fun b o q => F20.fz.le b o (F20.fz.base b o q), ?_⟩))))))))
          have F21 := F20.toks (s19.toks + 1 + 1 + 1)
          refine nxt_ok (lim := 3) ok hN F21.fz (by omega) (o20 st (.inr (.inr rfl))) hS20 (((hSc.mono lg).mono l018).mono l20) (by decide) fun how th s22 hhow X22 hS22 => ?_
          have F22 := F21.growO X22 (hYst (o20 st (.inr (.inr rfl))))
          have l22 : Le g20 (Mine.grow g20 h20.objs.size s22.heap) := le_grow (F21.fz.ext X22 fun b q => by subst q; exact o20 _ (.inr (.inr rfl))).le
          exact ⟨how, th, Mine.grow g20 h20.objs.size s22.heap, rfl, fun b o e => l22 _ _ (l20 _ _ e), fun b hb => grow_none (o20 b hb) (lt20 b hb), F22, fun b hb o e => X22.keep b o (kIEL b hb).2.1 (kIEL b hb).2.2 (K20 b hb o e), hS22, fun b hb => Nat.lt_of_lt_of_le (lt20 b hb) X22.size, by omega, fun q => absurd q hwn⟩
      obtain ⟨how, th, g20, rfl, l20, o20, F20, K20, hS20, lt20, hhow, hw1⟩ := q
      refine r_storeZ F20 fun s21 F21 k21 z21 => ?_
      have K21 : ∀ b, (b = I ∨ b = E0) → ∀ o, s7.heap.get? b = some o → s21.heap.get? b = some o := fun b hb o e => k21 b o (kIEL b hb).1 (K20 b hb o e)
      have hS21 : Sta s21.heap st scr := hS20.keep fun o e => k21 _ _ hstL e
      have lt21 : ∀ b, (b = I ∨ b = E0 ∨ b = st) → b < s21.heap.objs.size := fun b hb => by rw [z21]; exact lt20 b hb
      have l020 : Le gb g20 := fun b o e => l20 _ _ (l018 _ _ e)
      -- part
      refine wpAny_execs_cons (wpAny_Assign_Name (r_call (r_global ok F21.fz hTf.nm (r_with_def ok hTf (r_args_cons (r_cell (ca := s₀.heap.objs.size + 1) F21.fz (d1b.mono l020) (by rfl) (r_args_cons (wpAny_Constant_int (r_args_nil ⟨fun b o q => F21.fz.le b o (F21.fz.base b o q), ?_⟩)))))))))
      have F22 := F21.toks (s21.toks + 1)
      refine (tre_ok ok hTf 1).go F22.fz (by omega) hh (o20 st (.inr (.inr rfl))) hS21 ((hSc.mono lg).mono l020) fun p pv s23 X23 hS23 hB23 hT23 => ?_
      have F23 := F22.growO X23 (hYst (o20 st (.inr (.inr rfl))))
      have l23 : Le g20 (Mine.grow g20 s21.heap.objs.size s23.heap) := le_grow (F22.fz.ext X23 fun b q => by subst q; exact o20 _ (.inr (.inr rfl))).le
      have o23 : ∀ b, (b = I ∨ b = E0 ∨ b = st) → (Mine.grow g20 s21.heap.objs.size s23.heap).get? b = none := fun b hb => grow_none (o20 b hb) (lt21 b hb)
      have K23 : ∀ b, (b = I ∨ b = E0) → ∀ o, s7.heap.get? b = some o → s23.heap.get? b = some o := fun b hb o e => X23.keep b o (kIEL b hb).2.1 (kIEL b hb).2.2 (K21 b hb o e)
      have lt23 : ∀ b, (b = I ∨ b = E0 ∨ b = st) → b < s23.heap.objs.size := fun b hb => Nat.lt_of_lt_of_le (lt21 b hb) X23.size
      change St c noX s₀ g₀ (Mine.grow g20 s21.heap.objs.size s23.heap) _ _ _ at F23
      change Tr (Mine.grow g20 s21.heap.objs.size s23.heap) p pv at hT23
      generalize Mine.grow g20 s21.heap.objs.size s23.heap = g23 at *
      refine r_storeZ F23 fun s24 F24 k24 z24 => ?_
      have K24 : ∀ b, (b = I ∨ b = E0) → ∀ o, s7.heap.get? b = some o → s24.heap.get? b = some o := fun b hb o e => k24 b o (kIEL b hb).1 (K23 b hb o e)
      have hS24 : Sta s24.heap st scr := hS23.keep fun o e => k24 _ _ hstL e
      have lt24 : ∀ b, (b = I ∨ b = E0 ∨ b = st) → b < s24.heap.objs.size := fun b hb => by rw [z24]; exact lt23 b hb
      obtain ⟨m24, F24, o_oct, o_ed, o_way, o_part, o_how⟩ : ∃ m24, St c noX s₀ g₀ g23 (lawEnv s₀ f cd).locals m24 s24 ∧ m24 (Str.ofString "octets") = some (.bytes (enc (.node ts)).toArray to) ∧ m24 (Str.ofString "edits") = some (.ref E0) ∧
          m24 (Str.ofString "way") = some (.ref aw) ∧ m24 (Str.ofString "part") = some pv ∧ m24 (Str.ofString "how") = some (.int how th) := ⟨_, F24, o_oct, o_ed, o_way, by rfl, by rfl⟩
      have e24 := K24 E0 (.inr rfl) _ e7
      refine wpAny_execs_cons (wpAny_Expr_any (MethodCall_ (r_name F24 o_ed ?_)))
      refine getMethod_list_append e24 rfl rfl (callWith_method1 (r_args_cons (r_tuple (r_args_cons (r_name F24 o_way (r_args_cons (r_name F24 o_part (r_args_cons (r_name F24 o_how (r_args_nil (newT_raw (by simp) (r_args_nil ?_))))))))))))
      have P25 : Pex c s24 { s24 with heap := s24.heap.push { cls := .type "tuple", data := .seq [Value.ref aw, pv, .int how th].toArray } } := Ext.push (tk := s24.toks) _
      have F25 := F24.pex P25
      have l25 : Le g23 (Mine.grow g23 s24.heap.objs.size (s24.heap.push { cls := .type "tuple", data := .seq [Value.ref aw, pv, .int how th].toArray })) := le_grow (F24.stay P25).fz.le
      have hT25 : Tp (Mine.grow g23 s24.heap.objs.size (s24.heap.push { cls := .type "tuple", data := .seq [Value.ref aw, pv, .int how th].toArray })) s24.heap.objs.size [.ref aw, pv, .int how th] :=
        ⟨{ cls := .type "tuple", data := .seq [Value.ref aw, pv, .int how th].toArray }, by rw [grow_new (Nat.le_refl _)]; exact Heap.get?_push_size _ rfl, rfl, 0, rfl⟩
      have o25 : ∀ b, (b = I ∨ b = E0 ∨ b = st) → (Mine.grow g23 s24.heap.objs.size (s24.heap.push { cls := .type "tuple", data := .seq [Value.ref aw, pv, .int how th].toArray })).get? b = none := fun b hb => grow_none (o23 b hb) (lt24 b hb)
      have e25 : (s24.heap.push { cls := .type "tuple", data := .seq [Value.ref aw, pv, .int how th].toArray }).get? E0 = some (lobj es ne) := Heap.get?_push_of_some _ e24
      refine append_at (its := es.toArray) (n := ne) e25 (fun h26 hs26 ho26 => ?_) (by rw [sizeLine_eq]; simp; omega)
      have F26 := F25.write (tk := s24.toks) (.inl lo3) hEL hEC hEP (o25 E0 (.inr (.inl rfl))) hs26
      have l2325 : Le g20 (Mine.grow g23 s24.heap.objs.size (s24.heap.push { cls := .type "tuple", data := .seq [Value.ref aw, pv, .int how th].toArray })) := fun b o e => l25 _ _ (l23 _ _ e)
      generalize Mine.grow g23 s24.heap.objs.size (s24.heap.push { cls := .type "tuple", data := .seq [Value.ref aw, pv, .int how th].toArray }) = g25 at *
      have lgb25 : Le gb g25 := fun b o e => l2325 _ _ (l020 _ _ e)
      have eo : ({ cls := .type "list", data := .seq (es.toArray.push (.ref s24.heap.objs.size)) (ne + 1) } : Obj) = lobj (es ++ [.ref s24.heap.objs.size]) (ne + 1) := by simp [lobj]
      rw [eo] at ho26
      refine wpAny_execs_nil ⟨⟨m24, g25, es ++ [.ref s24.heap.objs.size], F26, fun b o e => lgb25 _ _ (lg _ _ e), fun b hb => o25 b (by simpa using hb), hS24.keep fun o e => (hs26.2 _ (Ne.symm hEst)).trans (Heap.get?_push_of_some _ e), ⟨ne + 1, ho26⟩, by simp [hes], fun e he => ?_, o_oct, o_ed⟩, ?_⟩
      · rcases List.mem_append.mp he with he | he
        · obtain ⟨w', p', how', q⟩ := hed e he
          exact ⟨w', p', how', q.mono lgb25⟩
        · rw [List.mem_singleton] at he
          refine ⟨w, p, how, s24.heap.objs.size, aw, pv, th, he, hT25, (hw18.mono l20).mono l2325, hT23.mono l25, ?_, hB23, hhow, by omega⟩
          rcases hvw with q | q
          · exact .inl q
          · exact .inr ⟨q, hw1 q⟩
      · refine (Io.W _ hh).frame _ _ _ hI7 fun b hb o e => ?_
        rcases Io.own b hb with r | r
        · subst r
          exact (hs26.2 _ (Ne.symm (Nat.ne_of_lt hIE))).trans (Heap.get?_push_of_some _ (K24 _ (.inl rfl) o e))
        · obtain ⟨o', r⟩ := Option.isSome_iff_exists.mp r
          have e1 := F7.fz.le _ _ (lg _ _ r)
          rw [e] at e1; cases e1
          exact F26.fz.le _ _ (lgb25 _ _ (lg _ _ r))
  · rintro s7 ⟨m', gb, es, F7, lg, hoff, hS7, ⟨ne, e7⟩, hes, hed, o_oct, o_ed⟩
    have F8 := F7.put (.inl (by rw [z3] at hEst; exact lo3)) hEL hEP
    have hl8 : Ls (Mine.put gb E0 s7.heap) E0 es := ⟨_, by rw [put_self]; exact e7, rfl, ne, rfl⟩
    have lb8 : Le gb (Mine.put gb E0 s7.heap) := le_put F7.fz.le
    match es, hes with
    | [x0, x1], _ =>
      obtain ⟨w0, p0, h0, q0⟩ := hed x0 (by simp)
      obtain ⟨w1, p1, h1, q1⟩ := hed x1 (by simp)
      have lg8 : Le g (Mine.put gb E0 s7.heap) := fun b o e => lb8 _ _ (lg _ _ e)
      exact wpAny_execs_nil (law_mid ok F8 (by omega) hu hh hbd hz o_oct o_ed hl8 (q0.mono lb8) (q1.mono lb8) (d2.mono lg8) (hT.mono lg8) h)
end
end Mine
end
section
open PySem PySem.Calls PySem.Spec PyProof.Rows PySem.W
set_option maxRecDepth 100000
namespace Mine

/-- the law answers True -/
theorem law_ok {c : Cfg} {A : Around} {E : Value → Shared → Prop} {s : Shared} {g : Heap} {f scr0 : Addr} {vs : List Value} {Q : Value → Shared → Prop} (ok : c.Ok) (hf : At c dLaw f) (z : Fz c g s) (hd : A.depth ≤ 400) (hu : A.units ≤ 4000) (hh : A.handled = none)
    (hl : Ls g scr0 vs) (hi : ∀ v ∈ vs, ∃ z t, v = .int z t) (hvz : vs.length ≤ 1000000) (h : ∀ s', Pex c s s' → Q (.bool true) s') : wpAny c.M A (call (.ref f) [.ref scr0]) Q E s :=
  law_start ok hf z hd hh hl hi hvz fun cd m st scr ta ts s' g' C =>
    wpAny_mono (law_edits (Q := fun fl s' => Q (match fl with | .ret v => v | _ => .none) s') ok C (by simp only [depth_deeper]; omega) (by simp only [Around.deeper_units]; omega) hh fun s'' P => h s'' P) (fun _ _ q => q) fun _ _ q => q
end Mine
end
section
open PySem PySem.Calls PySem.Spec PyProof.Rows PySem.W
set_option maxRecDepth 100000
namespace Mine

def wo (P : Addr) (h : Heap) : Heap := cut (fun b => decide (b ≠ P)) h
theorem wo_get {P : Addr} {h : Heap} {b : Addr} (hb : b ≠ P) : (wo P h).get? b = h.get? b := by unfold wo; rw [cut_get]; simp [hb]
theorem wo_self {P : Addr} {h : Heap} : (wo P h).get? P = none := by unfold wo; rw [cut_get]; simp
theorem wo_le {P : Addr} {h : Heap} : Le (wo P h) h := fun b o e => by
  unfold wo at e; rw [cut_get] at e; split at e
  · exact e
  · cases e
/-- what is not an empty record stands still -/
theorem wo_of {P : Addr} {h : Heap} (hP : h.get? P = some { cls := .none, data := .fields #[] }) {b : Addr} {o : Obj} (e : h.get? b = some o) (hd : o.data ≠ .fields #[]) : (wo P h).get? b = some o := by
  rw [wo_get]; exact e
  rintro rfl; rw [hP] at e; cases e; exact hd rfl

/-- the facts of the head, on the frozen heap -/
theorem mkOk {w : World} {h : Heap} {mg mb : Str → Option Value} (g : h.Ns mainGlobals mg) (b : h.Ns builtinsNs mb) (lim : h.NoLimit)
    (fn : ∀ d ∈ recsOf pw, ∃ a o pm code doc, mg d.name = some (.ref a) ∧ h.get? a = some o ∧ o.data = .func (docDef d.name d.params d.body d.scope pm code doc) ∧ h.CodeRec code d.name)
    (bt : ∀ x ∈ usedB, mg x = none ∧ mb x = bootBuiltins x)
    (bi : ∃ bm ob, mg "__builtins__" = some (.ref bm) ∧ bm ≠ builtinsNs ∧ h.get? bm = some ob ∧ ob.cls = .type "module" ∧ ob.dict = some builtinsNs ∧ ob.data = .plain)
    (tab : ∀ d ∈ recsOf pw, ∃ a o fd c P, mg d.name = some (.ref a) ∧ h.get? a = some o ∧ o.data = .func fd ∧ fd.code = .ref c ∧ h.IsCode c P #[] ∧ h.TableAt c P #[])
    (allb : ∃ a items, mg "ALL_BYTES" = some (.ref a) ∧ IsTup h a items ∧ items.size = 256 ∧ ∀ i : Nat, i < 256 → ∃ t, items[i]? = some (.bytes #[UInt8.ofNat i] t))
    (long : ∃ t, mg "LONG_LENGTH" = some (.int (2 ^ 64) t)) (short : ∃ t, mg "SHORT_STRING" = some (.int 184 t)) :
    ∃ c : Cfg, c.w = w ∧ c.G = wo c.eP h ∧ c.mg = mg ∧ c.Ok ∧ Tab c h #[] := by
  obtain ⟨a, o, fd, eC, eP, q1, q2, q3, q4, q5, q6⟩ := tab dEnc (by rw [recs_eq]; simp)
  have hP := q6.2
  have nsk : ∀ {a m}, h.Ns a m → (wo eP h).Ns a m := fun ⟨o, es, ep, e, hd, r⟩ => ⟨o, es, ep, wo_of hP e (by rw [hd]; simp), hd, r⟩
  refine ⟨⟨w, wo eP h, mg, mb, eC, eP, gPos⟩, rfl, rfl, rfl, ⟨nsk g, nsk b, let ⟨mc, hn, hh⟩ := lim; ⟨mc, nsk hn, hh⟩, fun d hd => ?_, bt, ?_, ?_, long, short, rfl⟩, ⟨q5, q6⟩⟩
  · obtain ⟨a', o', pm, code, doc, r1, r2, r3, r4⟩ := fn d hd
    refine ⟨a', o', pm, code, doc, r1, wo_of hP r2 (by rw [r3]; simp), r3, ?_, fun hn => ?_⟩
    · obtain ⟨cc, oc, vs, t, e1, e2, e3, e4⟩ := r4
      exact ⟨cc, oc, vs, t, e1, wo_of hP e2 (by rw [e3]; rintro q; injection q with q; subst q; simp at e4), e3, e4⟩
    · rw [hn, q1] at r1
      cases r1
      rw [q2] at r2; cases r2
      rw [q3] at r3; injection r3 with r3
      rw [r3] at q4
      exact q4
  · obtain ⟨bm, ob, r1, r2, r3, r4, r5, r6⟩ := bi
    exact ⟨bm, ob, r1, r2, wo_of hP r3 (by rw [r6]; simp), r4, r5, r6⟩
  · obtain ⟨a', items, r1, ⟨o', r2, r3, n, r4⟩, r5⟩ := allb
    exact ⟨a', items, r1, ⟨o', wo_of hP r2 (by rw [r4]; simp), r3, n, r4⟩, r5⟩
end Mine
end
section
open PySem PySem.Calls PySem.Spec PyProof.Rows PySem.W
set_option maxRecDepth 100000
namespace Mine

/-- a tuple of bytes as it lies on the heap -/
theorem reads_tup {R : WRecords} {cl : Str → Option Addr} {h : Heap} {v : Value} {xs : List (List UInt8)} {as : List Addr} (x : ReadsW R cl h v (.tuple (xs.map .bytes)) as) :
    ∃ a items, v = .ref a ∧ IsTup h a items ∧ items.size = xs.length ∧ ∀ (i : Nat) (b : List UInt8), xs[i]? = some b → ∃ t, items[i]? = some (Value.bytes b.toArray t) := by
  have all : ∀ {vs : List Value} {xs : List (List UInt8)} {as : List Addr}, ReadsAllW R cl h vs (xs.map .bytes) as → vs.length = xs.length ∧ ∀ (i : Nat) (b : List UInt8), xs[i]? = some b → ∃ t, vs[i]? = some (Value.bytes b.toArray t) := by
    intro vs xs
    induction xs generalizing vs with
    | nil => intro as q; cases q; exact ⟨rfl, fun i b e => by simp at e⟩
    | cons y ys ih =>
      intro as q
      rw [List.map_cons] at q
      cases q with
      | cons q1 q2 =>
        obtain ⟨r1, r2⟩ := ih q2
        refine ⟨by simp [r1], fun i b e => ?_⟩
        cases i with
        | zero =>
          simp at e; subst e
          generalize hd : WData.bytes y = d at q1
          cases q1 <;> cases hd
          exact ⟨_, rfl⟩
        | succ i => simpa using r2 i b (by simpa using e)
  generalize hd : WData.tuple (xs.map .bytes) = d at x
  cases x <;> cases hd
  rename_i a o vs n q1 q2 q3 q4
  obtain ⟨r1, r2⟩ := all q4
  exact ⟨a, vs, rfl, ⟨o, q1, q2, n, q3⟩, by rw [← r1]; simp, fun i b e => by simpa using r2 i b e⟩

theorem reads_int {R : WRecords} {cl : Str → Option Addr} {h : Heap} {v : Value} {i : Int} {as : List Addr} (x : ReadsW R cl h v (.int i) as) : ∃ t, v = .int i t := by
  cases x; exact ⟨_, rfl⟩

theorem reads_ints {R : WRecords} {cl : Str → Option Addr} {h : Heap} {v : Value} {xs : List Int} {as : List Addr} (x : ReadsW R cl h v (.list (xs.map .int)) as) :
    ∃ a vs, v = .ref a ∧ Ls h a vs ∧ vs.length = xs.length ∧ ∀ v ∈ vs, ∃ z t, v = Value.int z t := by
  have all : ∀ {vs : List Value} {xs : List Int} {as : List Addr}, ReadsAllW R cl h vs (xs.map .int) as → vs.length = xs.length ∧ ∀ v ∈ vs, ∃ z t, v = Value.int z t := by
    intro vs xs
    induction xs generalizing vs with
    | nil => intro as q; cases q; exact ⟨rfl, fun v e => by cases e⟩
    | cons y ys ih =>
      intro as q
      rw [List.map_cons] at q
      cases q with
      | cons q1 q2 =>
        obtain ⟨r1, r2⟩ := ih q2
        refine ⟨by simp [r1], fun v e => ?_⟩
        rcases List.mem_cons.mp e with rfl | e
        · obtain ⟨t, rfl⟩ := reads_int q1; exact ⟨_, _, rfl⟩
        · exact r2 v e
  generalize hd : WData.list (xs.map .int) = d at x
  cases x <;> cases hd
  rename_i a o vs n as' q1 q2 q3 q4
  obtain ⟨r1, r2⟩ := all q4
  exact ⟨a, vs.toList, rfl, ⟨o, q1, q2, n, by simpa using q3⟩, r1, r2⟩
end Mine
end
section
open PySem PySem.Calls PySem.Spec PyProof.Rows PySem.W
set_option maxRecDepth 100000
namespace Mine

theorem good_end {c : Cfg} {s s' : Shared} (P : Pex c s s') (t : Tab c s.heap #[]) (hg : s.gens = #[]) : OldK s.heap s'.heap ∧ s'.os = s.os ∧ AllBare s'.gens := by
  obtain ⟨more, t'⟩ := P.tab _ t
  refine ⟨⟨fun b o e => ?_, fun b o e => ?_⟩, P.os, ?_⟩
  · by_cases hb : b = c.eP
    · subst hb
      have := e.symm.trans t.obj
      injection this with this
      subst this
      exact .inr (.inl ⟨t.2.isCodeTable, rfl, #[], more, rfl, t'.obj⟩)
    · exact .inl (P.keep b o hb (fun q => q) e)
  · by_cases hb : b = c.eP
    · subst hb; exact ⟨_, t'.obj⟩
    · exact ⟨o, P.keep b o hb (fun q => q) e⟩
  · intro x hx
    obtain ⟨i, hi, rfl⟩ := Array.mem_iff_getElem.mp hx
    exact P.bare i _ (by rw [hg]; exact Nat.zero_le _) (Array.getElem?_eq_getElem hi)
end Mine
end
section
open PySem PySem.Calls PySem.Spec PyProof.Rows PySem.W
set_option maxRecDepth 100000
set_option maxHeartbeats 4000000
namespace Mine
open MineT (qv loo lvs byts xt)
theorem recs_qv : recsOf qv = recsOf pw := by kernel_rfl
theorem bt_ok : (usedB.all fun x => !(startupNames.contains x) && !((looseW qv loo).contains x) && !(((recsOf qv).map (·.name)).contains x) && !(((litsOf qv).map (·.1)).contains x) && !(((clssOf qv (looseW qv loo)).map (·.name)).contains x) && !(x == "__name__")) = true := by kernel_rfl
theorem byts_at : (byts.length, (List.range 256).all fun i => byts[i]? == some [UInt8.ofNat i]) = (256, true) := by kernel_rfl
theorem ints_of {R : WRecords} : ∀ {xs : List WData}, WShape.hasItems R xs .int = true → ∃ zs : List Int, xs = zs.map .int
  | [], _ => ⟨[], rfl⟩
  | x :: xs, h => by
    simp only [WShape.hasItems, Bool.and_eq_true] at h
    obtain ⟨i, rfl⟩ := hasW_int h.1
    obtain ⟨zs, rfl⟩ := ints_of h.2
    exact ⟨i :: zs, rfl⟩
theorem pre_len {xs : List WData} (h : (OpenLaw.pre PySem.Challenge.rw_fb0045_01).holds [] { args := [.list xs] } = true) : xs.length ≤ 63 := by
  revert h
  simp [OpenLaw.pre, PySem.Challenge.rw_fb0045_01, WTm.holds, WTm.value]
  rw [show W.less? (.int 63) (.int (xs.length : Int)) = some (decide ((63 : Int) < xs.length)) from rfl]
  intro h
  by_cases q : (63 : Int) < xs.length
  · simp [q] at h
  · omega
theorem post_ok (a b : List WData) : PySem.Challenge.rw_fb0045_01.row.toRowW.claim.post a (.bool true) b = true := by
  simp [RowW.claim, OpenLaw.row, PySem.Challenge.rw_fb0045_01, WTm.holds, WTm.value, WShape.has, WShape.arms]
  rw [show W.same (.bool true) (.bool true) = true by decide +kernel]
theorem law_at : defOf qv PySem.Challenge.rw_fb0045_01.row.name = some (dLaw, []) := by kernel_rfl
theorem walk : WalkO qv loo (XL qv lvs) (fun _ _ => True) PySem.Challenge.rw_fb0045_01.row.toRowW dLaw [] (fun f vs => PySem.call f vs) := by
  intro w s₀ s₁ mg mb Gr Y fa o pm cd doc dV kV ho hd hcd hD hmg hg args vals as hpre hlay hrd hwl hlo
  have T := Gr.T
  have V := Gr.X.2
  have bt : ∀ x ∈ usedB, mg x = none ∧ mb x = bootBuiltins x := by
    intro x hx
    have h := List.all_eq_true.mp bt_ok x hx
    simp only [Bool.and_eq_true, Bool.not_eq_true', List.contains_eq_mem, decide_eq_false_iff_not, beq_eq_false_iff_ne] at h
    obtain ⟨⟨⟨⟨⟨h1, h2⟩, h3⟩, h4⟩, h5⟩, h6⟩ := h
    exact ⟨T.free x h1 h2 h3 h4 h5, T.builtins x h6⟩
  have allb : ∃ a items, mg "ALL_BYTES" = some (.ref a) ∧ IsTup s₁.heap a items ∧ items.size = 256 ∧ ∀ i : Nat, i < 256 → ∃ t, items[i]? = some (.bytes #[UInt8.ofNat i] t) := by
    obtain ⟨v, hv, hr⟩ := V.val (Str.ofString "ALL_BYTES", .tuple (byts.map .bytes)) (by unfold lvs; simp)
    obtain ⟨a, items, rfl, ht, hsz, hit⟩ := reads_tup hr
    have hb := byts_at
    rw [Prod.mk.injEq] at hb
    refine ⟨a, items, hv, ht, hsz.trans hb.1, fun i hi => ?_⟩
    exact hit i _ (by simpa using List.all_eq_true.mp hb.2 i (List.mem_range.mpr hi))
  have long : ∃ t, mg "LONG_LENGTH" = some (.int (2 ^ 64) t) := by
    obtain ⟨v, hv, hr⟩ := V.val (Str.ofString "LONG_LENGTH", .int 18446744073709551616) (by unfold lvs; simp)
    obtain ⟨t, rfl⟩ := reads_int hr
    exact ⟨t, hv⟩
  have short : ∃ t, mg "SHORT_STRING" = some (.int 184 t) := by
    obtain ⟨v, hv, hr⟩ := V.val (Str.ofString "SHORT_STRING", .int 184) (by unfold lvs; simp)
    obtain ⟨t, rfl⟩ := reads_int hr
    exact ⟨t, hv⟩
  obtain ⟨c, hw, hG, hmg', ok, tab⟩ := mkOk (w := w) T.g T.b T.nolimit (fun d hd => T.fn d (recs_qv ▸ hd)) bt T.bmain (fun d hd => T.tab d (recs_qv ▸ hd)) allb long short
  obtain ⟨hp1, hp2⟩ := pre_splitW (r := PySem.Challenge.rw_fb0045_01.row.toRowW) hpre
  obtain ⟨d, r, rfl, hd1, hd2⟩ := hasAllW_cons hp1
  obtain rfl := hasAllW_nil hd2
  obtain ⟨xs, rfl, hit⟩ := hasW_list hd1
  obtain ⟨zs, rfl⟩ := ints_of hit
  have hlen : (zs.map WData.int).length ≤ 63 := pre_len hp2
  obtain ⟨v, vr, a1, a2, rfl, rfl, r1, r2⟩ := readsAllW_cons_inv hrd
  obtain rfl := (readsAllW_nil_inv r2).1
  obtain ⟨a, vs, rfl, hl, hvl, hvi⟩ := reads_ints r1
  subst hw
  have P0 := tab
  have hPobj := tab.2.2
  have hlG : Ls c.G a vs := by
    rw [hG]
    obtain ⟨o', e1, e2, n, e3⟩ := hl
    exact ⟨o', wo_of hPobj e1 (by rw [e3]; simp), e2, n, e3⟩
  have z : Fz c c.G s₁ := ⟨hG ▸ wo_le, fun _ _ e => e, hG ▸ wo_self, ⟨#[], tab⟩⟩
  have hat : At c dLaw fa := by
    exact ⟨(congrFun hmg' dLaw.name).trans hmg, by rw [recs_eq]; simp⟩
  refine law_ok (c := c) ok hat z (by decide +kernel) (by decide +kernel) rfl hlG hvi (by rw [hvl]; rw [List.length_map] at hlen; omega) fun s' P => ?_
  obtain ⟨g1, g2, g3⟩ := good_end P tab hg
  refine ⟨.inl ⟨.bool true, .bool true, [], rfl, fun _ => rfl, .bool true, ?_, fun _ => ⟨List.nodup_nil, fun _ h => by cases h⟩⟩, g1, g2, g3⟩
  exact post_ok _ _
theorem law_def : PySem.Challenge.rw_fb0045_01.row.prog.theDef PySem.Challenge.rw_fb0045_01.row.name = some (dLaw.params, dLaw.body, dLaw.scope) := by kernel_rfl
theorem law_kw : kwWritten? dLaw.params.kwonlyargs dLaw.params.kw_defaults = some [] := by kernel_rfl
theorem chains_ok : chainsOk qv = true := by kernel_rfl
end Mine
end
open PySem PySem.W PyProof.Rows
set_option maxRecDepth 100000 in
set_option maxHeartbeats 8000000 in
theorem PySem.Challenge.cw_fb0045_01_holds : PySem.Challenge.rw_fb0045_01.Holds := by
  w_on
  o_law
  refine holds_open (r := PySem.Challenge.rw_fb0045_01.row) (q := MineT.qv) (loose := MineT.loo) (Xt := MineT.xt) (XP := XL MineT.qv MineT.lvs) (Yf := fun _ => ()) (Ya := fun _ => ()) (YP := fun _ _ => True) (d := Mine.dLaw) (kwd := []) (N := 52528)
    MineT.left (fun _ _ _ => trivial) (fun _ _ _ _ _ => trivial) (fun s e => xl_of s (Bool.and_eq_true_iff.mp e).1) XL.keeps Mine.law_at Mine.law_def Mine.law_kw (fun s e => recFacts_of (Bool.and_eq_true_iff.mp e).2) rfl (by assumption) ?ok ⟨rfl, rfl, rfl, rfl, rfl, by decide +kernel⟩ ?hw Mine.walk
  case ok => decide +kernel
  case hw => w_witness2
