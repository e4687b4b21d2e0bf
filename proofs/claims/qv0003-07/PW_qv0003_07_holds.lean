import PyProof.Rows.All
import Wide.All
import OpenK.AllK
import Wide.FinOn
import Lean
import PySem.Challenge.RW_qv0003_07
open PySem PySem.W PyProof.Rows PySem.Calls
set_option Elab.async false
set_option autoImplicit false
set_option linter.unusedVariables false
set_option bootstrap.genMatcherCode false
set_option compiler.extract_closed false
set_option genInjectivity true
namespace TC
open Str renaming ofString → oS
section
set_option maxRecDepth 100000
set_option maxHeartbeats 8000000
abbrev PW : Program := PySem.Challenge.pw_qv0003_07
abbrev ORW : OpenRow := PySem.Challenge.rw_qv0003_07.row
noncomputable def hEnv : Env := { scope := PW.main.scope,locals := mainNs,globals := mainNs,cells := [],code := Value.ref 13,frame := some 14 }
noncomputable def hCode : Code := Code.body (behindTheImports PW) hEnv
abbrev hPos : Pos := { line := 0,col := 0,endLine := 0,endCol := 0 }
abbrev hFrame : Frame := topFrame hPos
noncomputable def ho_11 : Obj := { cls := .type "tuple",data := .seq #[] }
noncomputable def ho_12 : Obj := { cls := .none,data := .fields #[] }
noncomputable def ho_13 : Obj := { cls := .type "code",data := .fields #[.str (oS "<module>") 182,.str (oS "<module>") 183,.str (oS "/claim/cut.py") 184,.int 1 0,.int 0 0,.int 0 0,.int 0 0,.int 0 0,.ref 11,.bool false,.int 181 0,.ref 12,.none,.none,.none,.none,.int 185 0,.int 1 0,.str (oS "/claim/cut.py") 186] }
noncomputable def ho_14 : Obj := { cls := .type "frame",slots := #[some (.ref 13),some (.ref 3),some (.ref 3),none,some (.str (oS "__main__") 164),none,some (.ref 0)] }
noncomputable def hTree (P : Params) : BT := .node (boot_o_0 P) (.node (boot_o_1 P) (.node (boot_o_3 P) (.node (boot_o_7 P) .nil .nil) (.node ho_11 .nil .nil)) (.node (boot_o_5 P) (.node (boot_o_9 P) .nil .nil) (.node ho_13 .nil .nil))) (.node (boot_o_2 P) (.node (boot_o_4 P) (.node (boot_o_8 P) .nil .nil) (.node ho_12 .nil .nil)) (.node (boot_o_6 P) (.node (boot_o_10 P) .nil .nil) (.node ho_14 .nil .nil)))
noncomputable def hHeap (P : Params) : Heap := { objs := #[boot_o_0 P,boot_o_1 P,boot_o_2 P,boot_o_3 P,boot_o_4 P,boot_o_5 P,boot_o_6 P,boot_o_7 P,boot_o_8 P,boot_o_9 P,boot_o_10 P,ho_11,ho_12,ho_13,ho_14] }
noncomputable def hStart (P : Params) (os : OsState) : SharedT := { tree := hTree P,n := 15,life := {},gens := #[],drawn := {},toks := 187,os := os }
theorem h_open : ∀ w : World,(fencedOpening treeTable PW w 14698).map (fun s => (s.heap,s.gens,s.drawn,s.toks)) = some (boot_heap w.params,Array.mk [],boot_drawn,boot_toks) := boot_open (by kernel_rfl) (by decide) (fun s => by kernel_rfl)
theorem h_size' (w : World) : ((boot_heap w.params).isNs mainGlobals && (#[] : Array GenState).size == 0,(boot_heap w.params).objs.size,PySem.W.Fast.tw8920871248978507458 (boot_heap w.params) mainGlobals "__annotations__") = (true,11,some (Value.ref 6)) := by kernel_rfl
theorem h_size (w : World) : ((boot_heap w.params).isNs mainGlobals && (#[] : Array GenState).size == 0,(boot_heap w.params).objs.size,(boot_heap w.params).nsMap mainGlobals "__annotations__") = (true,11,some (Value.ref 6)) := by
  rw [PySem.W.Fast.te8920871248978507458]; exact h_size' w
theorem h_go' (w : World) : (fun os => PySem.W.Fast.tw15667345088766844465 PySem.W.Fast.tw14364793385576792824 PW w 11 (some (Value.ref 6)) 12 { heap := boot_heap w.params,drawn := boot_drawn,toks := boot_toks,os := os } (topStub PW)) = fun os => some ({ heap := hHeap w.params,toks := 187,os := os },{ cur := PySem.W.Fast.tw11892475500146522536 PySem.W.Fast.tw14364793385576792824 hCode,code := hCode,pos := hPos,stack := [hFrame] }) := by kernel_rfl
theorem h_go (w : World) (os : OsState) : topGo treeTable PW w 11 (some (Value.ref 6)) 12 { heap := boot_heap w.params,drawn := boot_drawn,toks := boot_toks,os := os } (topStub PW) = some ({ heap := hHeap w.params,toks := 187,os := os },{ cur := denote treeTable hCode,code := hCode,pos := hPos,stack := [hFrame] }) := by
  rw [PySem.W.Fast.te15667345088766844465,PySem.W.Fast.te14364793385576792824,PySem.W.Fast.te11892475500146522536]
  exact congrFun (h_go' w) os
theorem h_blk' (w : World) : (fun os => PySem.W.Fast.tw14374325043358763698 PySem.W.Fast.tw14364793385576792824 PW w 11 (some (Value.ref 6)) 1 1 { heap := hHeap w.params,toks := 187,os := os } (blockOf (behindTheImports PW) hEnv hCode hPos [hFrame])) = fun os => some (Flow.next,(hStart w.params os).abs,hCode,hPos) := by kernel_rfl
theorem h_blk (w : World) (os : OsState) : segRun treeTable PW w 11 (some (Value.ref 6)) 1 1 { heap := hHeap w.params,toks := 187,os := os } (blockOf (behindTheImports PW) hEnv hCode hPos [hFrame]) = some (Flow.next,(hStart w.params os).abs,hCode,hPos) := by
  rw [PySem.W.Fast.te14374325043358763698,PySem.W.Fast.te14364793385576792824]
  exact congrFun (h_blk' w) os
theorem h_end {s : Shared} {c : Code} {pos : Pos} {w : World} : topRun treeTable PW w 11 (some (Value.ref 6)) 2 s { cur := doneF .next,code := c,pos := pos,stack := [hFrame] } = some s := rfl
theorem h_run {w : World} {os : OsState} {n : Nat} {s' : SharedT} {p' : Pos} (h : segRunT treeTable PW w 11 (some (Value.ref 6)) 1 n (hStart w.params os) (piecesOf (behindTheImports PW) hEnv hCode hPos [hFrame]) = some (Flow.next,s',hCode,p')) :
    topRun treeTable PW w 11 (some (Value.ref 6)) (12 + (1 + (n + 2))) { heap := boot_heap w.params,drawn := boot_drawn,toks := boot_toks,os := os } (topStub PW) = some s'.abs := by
  refine go_top (h_go w os) ?_
  refine piece_block (h_blk w os) ?_
  have := piece_app (rest := []) (segRun_of h) (piece_nil (h_end (w := w) (s := s'.abs)))
  rw [List.append_nil] at this
  exact this

noncomputable def hQ : Program := view PW [5,6,49]
noncomputable def hLoose : List Str := (PW.main.body.filterMap fun x => match x with | .FunctionDef n .. => some n | .ClassDef n .. => some n | .Assign [.Name n _] _ _ => some n | _ => none).filter fun n => !(n == "law" || n == "serialize_string_value" || n == "serialize_url")
noncomputable def hX (s : Shared) : Bool := recOk (RowW.records ORW.toRowW) s
noncomputable def hLooks (w : World) (s : Shared) : Bool := staticsOk (importedModules PW.main.body) (boot_heap w.params) s.heap && namesBound PW s.heap && gensDone s && laidKept (boot_heap w.params) s.heap
theorem left_of {α : Type} {Yf : Shared → α} {Ya : World → α} (n : Nat) (hn : Nat.ble (12 + (1 + (n + 2))) 14698 = true) (h : ∀ (w : World) (os : OsState),(segRunT treeTable PW w 11 (some (Value.ref 6)) 1 n (hStart w.params os) (piecesOf (behindTheImports PW) hEnv hCode hPos [hFrame])).map (fun r => (r.1,r.2.2.1,hLooks w r.2.1.abs,openSeen hQ hLoose (importedModules PW.main.body) hX true r.2.1.abs,Yf r.2.1.abs)) = some (Flow.next,hCode,true,openGood hQ hLoose,Ya w)) :
    LeftO PW hQ hLoose hX Yf Ya 14698 := fun w => by
  obtain ⟨⟨hp,gs,d,k,os⟩,e,e'⟩ := Option.map_eq_some_iff.mp (h_open w)
  obtain ⟨rfl,rfl,rfl,rfl⟩ : hp = boot_heap w.params ∧ gs = Array.mk [] ∧ d = boot_drawn ∧ k = boot_toks := by simpa using e'
  obtain ⟨z1,z2,z3⟩ : _ ∧ _ ∧ _ := by simpa only [Prod.mk.injEq] using h_size w
  obtain ⟨⟨f,s',c,p'⟩,r1,r2⟩ := Option.map_eq_some_iff.mp (h w os)
  obtain ⟨y1,y2,y3,y4,y5⟩ : f = Flow.next ∧ c = hCode ∧ hLooks w s'.abs = true ∧ openSeen hQ hLoose (importedModules PW.main.body) hX true s'.abs = openGood hQ hLoose ∧ Yf s'.abs = Ya w := by simpa only [Prod.mk.injEq] using r2
  subst y1 y2
  have r := topRun_mono (14698 - (12 + (1 + (n + 2)))) _ _ _ _ (h_run r1)
  rw [show 12 + (1 + (n + 2)) + (14698 - (12 + (1 + (n + 2)))) = 14698 by have := Nat.le_of_ble_eq_true hn; (first|lia -abstractProof|omega)] at r
  have t : topFrom treeTable PW w 14698 ⟨boot_heap w.params,Array.mk [],boot_drawn,boot_toks,os⟩ = some s'.abs := by
    unfold topFrom
    dsimp only
    rw [z1,z2,z3,r]
    show (match hLooks w s'.abs with | true => _ | false => _) = _
    rw [y3]
  unfold openEnds
  rw [e]
  show (topFrom treeTable PW w 14698 _).map _ = _
  rw [t]
  exact congrArg some (Prod.ext y4 y5)
end
section
set_option maxRecDepth 100000
set_option maxHeartbeats 0
noncomputable def dOf : Stmt → Arguments × List Stmt × Scope
  | .FunctionDef _ a b _ _ _ s _ _ _ => (a,b,s)
  | _ => default
noncomputable def dTop (i : Nat) : Arguments × List Stmt × Scope := dOf (PW.main.body.getD i default)
noncomputable def dCls (i j : Nat) : Arguments × List Stmt × Scope := match PW.main.body.getD i default with
  | .ClassDef _ _ _ b _ _ _ _ _ _ _ => dOf (b.getD j default)
  | _ => default
noncomputable def ob0 : Obj := { cls := .type "tuple",data := .seq #[] }
noncomputable def ob1 (x0 : String) (x1 : String) (x2 : Nat) (x3 : Nat) (x4 : Nat) : Obj := { cls := .type "function",data := .func { name := oS x0,qualname := oS x1,params := (dCls x2 x3).1,body := .stmts (dCls x2 x3).2.1,scope := (dCls x2 x3).2.2,globals := 3,closure := [],defaults := .none,kwdefaults := .none,pyModule := .str (oS "tinycss2.ast") 234,code := .ref x4 } }
noncomputable def ob2 (x0 : String) (x1 : Nat) : Obj := { cls := .type "list",data := .seq #[.str (oS x0) x1] 1 }
noncomputable def ob3 (x0 : String) (x1 : Nat) (x2 : String) (x3 : Nat) : Obj := { cls := .type "list",data := .seq #[.str (oS x0) x1,.str (oS x2) x3] 1 }
noncomputable def ob4 (x0 : String) (x1 : String) (x2 : Nat) (x3 : String) (x4 : Nat) : Obj := { cls := .type x0,data := .seq #[.str (oS x1) x2,.str (oS x3) x4] }
noncomputable def ob5 (x0 : String) (x1 : String) (x2 : Nat) (x3 : Nat) : Obj := { cls := .none,data := .func { name := oS x0,qualname := oS x1,params := (dCls x2 x3).1,body := .stmts (dCls x2 x3).2.1,scope := (dCls x2 x3).2.2,globals := 0,closure := [],defaults := .none,kwdefaults := .none } }
noncomputable def ob6 : Obj := { cls := .type "tuple",data := .seq #[.ref 74] }
noncomputable def ob7 : Obj := { cls := .none,data := .fields #[] }
noncomputable def ob8 (x0 : String) (x1 : Nat) (x2 : Nat) (x3 : Int) : Obj := { cls := .type "member_descriptor",data := .fields #[.str (oS x0) x1,.ref x2,.builtin "proto.slot",.builtin "proto.slot#set",.int x3 0] }
noncomputable def ob9 (x0 : String) (x1 : Nat) (x2 : String) (x3 : Nat) (x4 : Nat) (x5 : Int) (x6 : Int) (x7 : Nat) (x8 : Nat) (x9 : Nat) (x10 : Nat) (x11 : Nat) (x12 : Int) (x13 : Nat) : Obj := { cls := .type "code",data := .fields #[.str (oS x0) x1,.str (oS x2) x3,.str (oS "/claim/cut.py") x4,.int x5 0,.int x6 0,.int 0 0,.int 0 0,.int 3 0,.ref x7,.bool true,.int 181 0,.ref x8,.none,.ref x9,.ref x10,.ref x11,.int x12 0,.int x5 0,.str (oS "/claim/cut.py") x13] }
noncomputable def ob10 (x0 : String) (x1 : Nat) (x2 : Nat) (x3 : Nat) (x4 : Int) (x5 : Nat) (x6 : Nat) (x7 : Int) (x8 : Nat) : Obj := { cls := .type "code",data := .fields #[.str (oS x0) x1,.str (oS x0) x2,.str (oS "/claim/cut.py") x3,.int x4 0,.int 0 0,.int 0 0,.int 0 0,.int 0 0,.ref x5,.bool false,.int 181 0,.ref x6,.none,.none,.none,.none,.int x7 0,.int x4 0,.str (oS "/claim/cut.py") x8] }
noncomputable def ob11 : Obj := { cls := .type "builtin_function_or_method",data := .fields #[.builtin "type.__prepare__",.type "type"] }
noncomputable def ob12 (x0 : String) (x1 : String) (x2 : Nat) (x3 : String) (x4 : Nat) (x5 : String) (x6 : Nat) (x7 : String) (x8 : Nat) : Obj := { cls := .type x0,data := .seq #[.str (oS x1) x2,.str (oS x3) x4,.str (oS x5) x6,.str (oS x7) x8] }
noncomputable def ob13 (x0 : Nat) : Obj := { cls := .type "builtin_function_or_method",data := .fields #[.builtin "object.__init_subclass__",.ref x0] }
noncomputable def ob14 (x0 : String) (x1 : String) (x2 : Nat) : Obj := { cls := .type x0,data := .seq #[.str (oS x1) x2] }
noncomputable def ob15 (x0 : String) (x1 : Nat) : Obj := { cls := .none,data := .func { name := oS x0,qualname := oS x0,params := (dTop x1).1,body := .stmts (dTop x1).2.1,scope := (dTop x1).2.2,globals := 0,closure := [],defaults := .none,kwdefaults := .none } }
noncomputable def ob16 (x0 : String) (x1 : Nat) (x2 : Nat) (x3 : String) (x4 : String) (x5 : Nat) (x6 : Nat) (x7 : Nat) : Obj := { cls := .type "type",data := .cls { name := oS x0,bases := [.ref 74],mro := [.ref x1,.ref 74,.type "object"],ns := x2,qualname := oS x0,hasDict := false,slotNames := [oS "source_column",oS "source_line",oS x3,oS x4] },slots := #[some (.ref x5),none,some (.str (oS x0) x6),some (.str (oS x0) x7),some (.builtin "object.__new__"),some (.bool false)] }
noncomputable def ob17 (x0 : String) (x1 : Nat) (x2 : String) (x3 : Nat) (x4 : Nat) : Obj := { cls := .type "function",data := .func { name := oS x0,qualname := oS x0,params := (dTop x1).1,body := .stmts (dTop x1).2.1,scope := (dTop x1).2.2,globals := 3,closure := [],defaults := .none,kwdefaults := .none,pyModule := .str (oS x2) x3,code := .ref x4 } }
noncomputable def ob18 (x0 : String) (x1 : String) (x2 : Nat) (x3 : String) (x4 : Nat) (x5 : String) (x6 : Nat) : Obj := { cls := .type x0,data := .seq #[.str (oS x1) x2,.str (oS x3) x4,.str (oS x5) x6] }
noncomputable def ob19 (x0 : Nat) : Obj := { cls := .type "super",data := .fields #[.ref x0,.ref x0,.ref x0] }
noncomputable def ob20 (x0 : Int) (x1 : Nat) (x2 : Int) (x3 : Nat) : Obj := { cls := .none,data := .fields #[.int x0 0,.int 4 0,.ref x1,.int x2 0,.int 4 0,.ref x3] }
noncomputable def ob21 (x0 : String) (x1 : Nat) (x2 : Nat) (x3 : String) (x4 : Nat) (x5 : Nat) (x6 : Nat) : Obj := { cls := .type "type",data := .cls { name := oS x0,bases := [.ref 74],mro := [.ref x1,.ref 74,.type "object"],ns := x2,qualname := oS x0,hasDict := false,slotNames := [oS "source_column",oS "source_line",oS x3] },slots := #[some (.ref x4),none,some (.str (oS x0) x5),some (.str (oS x0) x6),some (.builtin "object.__new__"),some (.bool false)] }
noncomputable def ob22 (x0 : Nat) (x1 : Nat) (x2 : String) (x3 : Nat) : Obj := { cls := .type "frame",slots := #[some (.ref x0),some (.ref 3),some (.ref x1),none,some (.str (oS x2) x3),none,some (.ref 0)] }
noncomputable def ob23 (x0 : String) (x1 : String) (x2 : Nat) (x3 : String) (x4 : Nat) (x5 : String) (x6 : Nat) (x7 : String) (x8 : Nat) (x9 : String) (x10 : Nat) (x11 : String) (x12 : Nat) : Obj := { cls := .type x0,data := .seq #[.str (oS x1) x2,.str (oS x3) x4,.str (oS x5) x6,.str (oS x7) x8,.str (oS x9) x10,.str (oS x11) x12] }
noncomputable def ob24 (x0 : String) (x1 : Nat) (x2 : String) (x3 : Nat) (x4 : String) (x5 : Nat) (x6 : String) (x7 : Nat) (x8 : String) (x9 : Nat) : Obj := { cls := .type "tuple",data := .seq #[.str (oS x0) x1,.str (oS x2) x3,.str (oS x4) x5,.str (oS x6) x7,.str (oS x8) x9] }
noncomputable def treeE (P : Params) : BT :=
  (.node (boot_o_0 P) (.node (boot_o_1 P) (.node { cls := .type "dict",data := .dict #[{ hash := PyData.keyHash P (oS "__name__"),key := .str (oS "__name__") 165,val := .str (oS "law_qv0003_07") 1242 },{ hash := PyData.keyHash P (oS "__doc__"),key := .str (oS "__doc__") 166,val := .none },{ hash := PyData.keyHash P (oS "__package__"),key := .str (oS "__package__") 167,val := .none },{ hash := PyData.keyHash P (oS "__loader__"),key := .str (oS "__loader__") 168,val := .builtin "__main__.__loader__#opaque" },{ hash := PyData.keyHash P (oS "__spec__"),key := .str (oS "__spec__") 169,val := .none },{ hash := PyData.keyHash P (oS "__annotations__"),key := .str (oS "__annotations__") 170,val := .ref 6 },{ hash := PyData.keyHash P (oS "__builtins__"),key := .str (oS "__builtins__") 171,val := .ref 4 },{ hash := PyData.keyHash P (oS "__file__"),key := .str (oS "__file__") 173,val := .str (oS "/claim/cut.py") 172 },{ hash := PyData.keyHash P (oS "__cached__"),key := .str (oS "__cached__") 174,val := .none },{ hash := PyData.keyHash P (oS "_wall"),key := .str (oS "_wall") 193,val := .ref 21 },{ hash := PyData.keyHash P (oS "ascii_lower"),key := .str (oS "ascii_lower") 201,val := .ref 26 },{ hash := PyData.keyHash P (oS "_replacement_string_value"),key := .str (oS "_replacement_string_value") 219,val := .ref 27 },{ hash := PyData.keyHash P (oS "serialize_string_value"),key := .str (oS "serialize_string_value") 226,val := .ref 34 },{ hash := PyData.keyHash P (oS "serialize_url"),key := .str (oS "serialize_url") 233,val := .ref 41 },{ hash := PyData.keyHash P (oS "Node"),key := .str (oS "Node") 284,val := .ref 74 },{ hash := PyData.keyHash P (oS "ParseError"),key := .str (oS "ParseError") 330,val := .ref 104 },{ hash := PyData.keyHash P (oS "Comment"),key := .str (oS "Comment") 371,val := .ref 134 },{ hash := PyData.keyHash P (oS "WhitespaceToken"),key := .str (oS "WhitespaceToken") 412,val := .ref 163 },{ hash := PyData.keyHash P (oS "LiteralToken"),key := .str (oS "LiteralToken") 470,val := .ref 206 },{ hash := PyData.keyHash P (oS "IdentToken"),key := .str (oS "IdentToken") 515,val := .ref 235 },{ hash := PyData.keyHash P (oS "AtKeywordToken"),key := .str (oS "AtKeywordToken") 560,val := .ref 265 },{ hash := PyData.keyHash P (oS "HashToken"),key := .str (oS "HashToken") 606,val := .ref 295 },{ hash := PyData.keyHash P (oS "StringToken"),key := .str (oS "StringToken") 652,val := .ref 325 },{ hash := PyData.keyHash P (oS "URLToken"),key := .str (oS "URLToken") 698,val := .ref 355 },{ hash := PyData.keyHash P (oS "UnicodeRangeToken"),key := .str (oS "UnicodeRangeToken") 744,val := .ref 385 },{ hash := PyData.keyHash P (oS "NumberToken"),key := .str (oS "NumberToken") 799,val := .ref 415 },{ hash := PyData.keyHash P (oS "PercentageToken"),key := .str (oS "PercentageToken") 854,val := .ref 447 },{ hash := PyData.keyHash P (oS "DimensionToken"),key := .str (oS "DimensionToken") 918,val := .ref 479 },{ hash := PyData.keyHash P (oS "ParenthesesBlock"),key := .str (oS "ParenthesesBlock") 959,val := .ref 513 },{ hash := PyData.keyHash P (oS "SquareBracketsBlock"),key := .str (oS "SquareBracketsBlock") 1000,val := .ref 542 },{ hash := PyData.keyHash P (oS "CurlyBracketsBlock"),key := .str (oS "CurlyBracketsBlock") 1041,val := .ref 571 },{ hash := PyData.keyHash P (oS "FunctionBlock"),key := .str (oS "FunctionBlock") 1091,val := .ref 600 },{ hash := PyData.keyHash P (oS "_DIGITS"),key := .str (oS "_DIGITS") 1104,val := .ref 606 },{ hash := PyData.keyHash P (oS "_number_end"),key := .str (oS "_number_end") 1116,val := .ref 613 },{ hash := PyData.keyHash P (oS "_hex_end"),key := .str (oS "_hex_end") 1125,val := .ref 620 },{ hash := PyData.keyHash P (oS "parse_component_value_list"),key := .str (oS "parse_component_value_list") 1160,val := .ref 628 },{ hash := PyData.keyHash P (oS "_is_name_start"),key := .str (oS "_is_name_start") 1169,val := .ref 635 },{ hash := PyData.keyHash P (oS "_is_ident_start"),key := .str (oS "_is_ident_start") 1177,val := .ref 642 },{ hash := PyData.keyHash P (oS "_consume_ident"),key := .str (oS "_consume_ident") 1189,val := .ref 649 },{ hash := PyData.keyHash P (oS "_consume_quoted_string"),key := .str (oS "_consume_quoted_string") 1203,val := .ref 656 },{ hash := PyData.keyHash P (oS "_consume_escape"),key := .str (oS "_consume_escape") 1213,val := .ref 663 },{ hash := PyData.keyHash P (oS "_consume_url"),key := .str (oS "_consume_url") 1227,val := .ref 670 },{ hash := PyData.keyHash P (oS "_consume_unicode_range"),key := .str (oS "_consume_unicode_range") 1241,val := .ref 677 },{ hash := PyData.keyHash P (oS "_law_ENDS"),key := .str (oS "_law_ENDS") 1249,val := .ref 684 },{ hash := PyData.keyHash P (oS "_law_BLANKS"),key := .str (oS "_law_BLANKS") 1256,val := .ref 685 },{ hash := PyData.keyHash P (oS "_law_HEX"),key := .str (oS "_law_HEX") 1262,val := .ref 692 },{ hash := PyData.keyHash P (oS "_law_PLAIN"),key := .str (oS "_law_PLAIN") 1268,val := .ref 699 },{ hash := PyData.keyHash P (oS "_law_ESCAPED"),key := .str (oS "_law_ESCAPED") 1274,val := .ref 706 },{ hash := PyData.keyHash P (oS "_law_line_end"),key := .str (oS "_law_line_end") 1283,val := .ref 713 },{ hash := PyData.keyHash P (oS "_law_hex"),key := .str (oS "_law_hex") 1298,val := .ref 720 },{ hash := PyData.keyHash P (oS "_law_entries"),key := .str (oS "_law_entries") 1307,val := .ref 727 },{ hash := PyData.keyHash P (oS "_law_places"),key := .str (oS "_law_places") 1318,val := .ref 734 },{ hash := PyData.keyHash P (oS "_law_read"),key := .str (oS "_law_read") 1328,val := .ref 741 },{ hash := PyData.keyHash P (oS "law"),key := .str (oS "law") 1334,val := .ref 746 }] 54 } (.node (boot_o_7 P) (.node ob0 (.node ob0 (.node (ob1 "serialize" "Node.serialize" 8 2 62) (.node ob0 (.node ob0 (.node (ob2 "content" 931) .nil .nil) .nil) (.node (ob3 "end" 711 "start" 712) (.node ob0 .nil .nil) .nil)) (.node (ob4 "tuple" "self" 450 "other" 451) (.node (ob5 "_serialize_to" "StringToken._serialize_to" 16 3) (.node ob6 .nil .nil) .nil) (.node { cls := .type "type",data := .cls { name := oS "PercentageToken",bases := [.ref 74],mro := [.ref 447,.ref 74,.type "object"],ns := 446,qualname := oS "PercentageToken",hasDict := false,slotNames := [oS "source_column",oS "source_line",oS "int_value",oS "is_integer",oS "representation",oS "value"] },slots := #[some (.ref 422),none,some (.str (oS "PercentageToken") 800),some (.str (oS "PercentageToken") 808),some (.builtin "object.__new__"),some (.bool false)] } (.node ob0 .nil .nil) .nil))) (.node ob7 (.node (ob1 "_serialize_to" "WhitespaceToken._serialize_to" 11 3 158) (.node (ob4 "tuple" "self" 592 "write" 593) (.node (ob8 "content" 996 542 2) .nil .nil) .nil) (.node { cls := .type "type",data := .cls { name := oS "NumberToken",bases := [.ref 74],mro := [.ref 415,.ref 74,.type "object"],ns := 414,qualname := oS "NumberToken",hasDict := false,slotNames := [oS "source_column",oS "source_line",oS "int_value",oS "is_integer",oS "representation",oS "value"] },slots := #[some (.ref 390),none,some (.str (oS "NumberToken") 745),some (.str (oS "NumberToken") 753),some (.builtin "object.__new__"),some (.bool false)] } (.node ob0 .nil .nil) .nil)) (.node (ob9 "__init__" 488 "IdentToken.__init__" 489 490 77 4 218 219 220 221 222 495 496) (.node (ob1 "_serialize_to" "URLToken._serialize_to" 17 3 350) (.node ob0 .nil .nil) .nil) (.node { cls := .type "type",data := .cls { name := oS "DimensionToken",bases := [.ref 74],mro := [.ref 479,.ref 74,.type "object"],ns := 478,qualname := oS "DimensionToken",hasDict := false,slotNames := [oS "source_column",oS "source_line",oS "int_value",oS "is_integer",oS "lower_unit",oS "representation",oS "unit",oS "value"] },slots := #[some (.ref 454),none,some (.str (oS "DimensionToken") 855),some (.str (oS "DimensionToken") 863),some (.builtin "object.__new__"),some (.bool false)] } (.node ob0 .nil .nil) .nil)))) (.node (ob10 "Node" 238 239 240 14 45 46 241 242) (.node ob6 (.node (ob10 "WhitespaceToken" 374 375 376 47 141 142 377 378) (.node ob11 (.node (ob12 "tuple" "self" 979 "line" 980 "column" 981 "content" 982) .nil .nil) .nil) (.node ob7 (.node (ob9 "_consume_quoted_string" 1190 "_consume_quoted_string" 1191 1192 453 2 650 651 652 653 654 1201 1202) .nil .nil) .nil)) (.node (ob8 "value" 465 206 2) (.node (ob10 "URLToken" 655 656 657 123 333 334 658 659) (.node ob7 .nil .nil) .nil) (.node ob7 (.node (ob9 "_law_hex" 1284 "_law_hex" 1285 1286 590 2 714 715 716 717 718 1296 1297) .nil .nil) .nil))) (.node { cls := .type "dict",data := .dict #[{ hash := PyData.keyHash P (oS "__module__"),key := .str (oS "__module__") 338,val := .str (oS "tinycss2.ast") 234 },{ hash := PyData.keyHash P (oS "__qualname__"),key := .str (oS "__qualname__") 340,val := .str (oS "Comment") 339 },{ hash := PyData.keyHash P (oS "__firstlineno__"),key := .str (oS "__firstlineno__") 342,val := .int 37 341 },{ hash := PyData.keyHash P (oS "__slots__"),key := .str (oS "__slots__") 344,val := .ref 116 },{ hash := PyData.keyHash P (oS "type"),key := .str (oS "type") 346,val := .str (oS "comment") 345 },{ hash := PyData.keyHash P (oS "__init__"),key := .str (oS "__init__") 356,val := .ref 123 },{ hash := PyData.keyHash P (oS "_serialize_to"),key := .str (oS "_serialize_to") 364,val := .ref 130 },{ hash := PyData.keyHash P (oS "__static_attributes__"),key := .str (oS "__static_attributes__") 366,val := .ref 131 }] 8 } (.node ob0 (.node ob0 (.node (ob9 "__init__" 1017 "CurlyBracketsBlock.__init__" 1018 1019 213 4 554 555 556 557 558 1024 1025) .nil .nil) .nil) (.node ob7 (.node ob7 .nil .nil) .nil)) (.node (ob13 235) (.node (ob4 "list" "end" 711 "start" 712) (.node ob7 .nil .nil) .nil) (.node (ob14 "list" "content" 931) .nil .nil))))) (.node ob7 (.node (ob15 "serialize_url" 6) (.node (ob4 "tuple" "source_column" 275 "source_line" 276) (.node (ob8 "value" 367 134 2) (.node (ob3 "lower_value" 528 "value" 529) (.node { cls := .type "dict",data := .dict #[{ hash := PyData.keyHash P (oS "__module__"),key := .str (oS "__module__") 967,val := .str (oS "tinycss2.ast") 234 },{ hash := PyData.keyHash P (oS "__qualname__"),key := .str (oS "__qualname__") 969,val := .str (oS "SquareBracketsBlock") 968 },{ hash := PyData.keyHash P (oS "__firstlineno__"),key := .str (oS "__firstlineno__") 971,val := .int 199 970 },{ hash := PyData.keyHash P (oS "__slots__"),key := .str (oS "__slots__") 973,val := .ref 524 },{ hash := PyData.keyHash P (oS "type"),key := .str (oS "type") 975,val := .str (oS "[] block") 974 },{ hash := PyData.keyHash P (oS "__init__"),key := .str (oS "__init__") 985,val := .ref 531 },{ hash := PyData.keyHash P (oS "_serialize_to"),key := .str (oS "_serialize_to") 993,val := .ref 538 },{ hash := PyData.keyHash P (oS "__static_attributes__"),key := .str (oS "__static_attributes__") 995,val := .ref 539 }] 8 } .nil .nil) .nil) (.node ob11 (.node (ob15 "_consume_ident" 33) .nil .nil) .nil)) (.node ob0 (.node (ob8 "value" 648 325 2) (.node ob0 .nil .nil) .nil) (.node ob11 (.node (ob15 "_law_line_end" 44) .nil .nil) .nil))) (.node { cls := .type "dict",data := .dict #[{ hash := PyData.keyHash P (oS "__module__"),key := .str (oS "__module__") 292,val := .str (oS "tinycss2.ast") 234 },{ hash := PyData.keyHash P (oS "__firstlineno__"),key := .str (oS "__firstlineno__") 296,val := .int 26 295 },{ hash := PyData.keyHash P (oS "__slots__"),key := .str (oS "__slots__") 299,val := .ref 86 },{ hash := PyData.keyHash P (oS "type"),key := .str (oS "type") 301,val := .str (oS "error") 300 },{ hash := PyData.keyHash P (oS "__init__"),key := .str (oS "__init__") 312,val := .ref 93 },{ hash := PyData.keyHash P (oS "_serialize_to"),key := .str (oS "_serialize_to") 320,val := .ref 100 },{ hash := PyData.keyHash P (oS "__static_attributes__"),key := .str (oS "__static_attributes__") 323,val := .ref 101 },{ hash := PyData.keyHash P (oS "kind"),key := .str (oS "kind") 325,val := .ref 105 },{ hash := PyData.keyHash P (oS "message"),key := .str (oS "message") 327,val := .ref 106 },{ hash := PyData.keyHash P (oS "__doc__"),key := .str (oS "__doc__") 328,val := .none }] 4 } (.node ob6 (.node (ob16 "HashToken" 295 294 "is_identifier" "value" 270 561 569) (.node (ob10 "CurlyBracketsBlock" 1003 1004 1005 209 549 550 1006 1007) .nil .nil) .nil) (.node ob11 (.node ob7 .nil .nil) .nil)) (.node (ob1 "_serialize_to" "IdentToken._serialize_to" 13 3 230) (.node (ob13 355) (.node ob7 .nil .nil) .nil) (.node (ob13 479) (.node ob7 .nil .nil) .nil)))) (.node (ob9 "__init__" 251 "Node.__init__" 252 253 17 3 50 51 52 53 54 257 258) (.node ob0 (.node (ob9 "__init__" 388 "WhitespaceToken.__init__" 389 390 51 4 146 147 148 149 150 395 396) (.node ob7 (.node ob0 .nil .nil) .nil) (.node (ob4 "tuple" "self" 779 "write" 780) (.node (ob17 "_consume_escape" 35 "tinycss2.tokenizer" 1092 662) .nil .nil) .nil)) (.node (ob10 "IdentToken" 473 474 475 73 213 214 476 477) (.node (ob9 "__init__" 670 "URLToken.__init__" 671 672 127 5 338 339 340 341 342 678 679) (.node { cls := .type "dict",data := .dict #[{ hash := PyData.keyHash P (oS "__module__"),key := .str (oS "__module__") 1049,val := .str (oS "tinycss2.ast") 234 },{ hash := PyData.keyHash P (oS "__firstlineno__"),key := .str (oS "__firstlineno__") 1053,val := .int 219 1052 },{ hash := PyData.keyHash P (oS "__slots__"),key := .str (oS "__slots__") 1057,val := .ref 582 },{ hash := PyData.keyHash P (oS "type"),key := .str (oS "type") 1059,val := .str (oS "function") 1058 },{ hash := PyData.keyHash P (oS "__init__"),key := .str (oS "__init__") 1070,val := .ref 589 },{ hash := PyData.keyHash P (oS "_serialize_to"),key := .str (oS "_serialize_to") 1078,val := .ref 596 },{ hash := PyData.keyHash P (oS "__static_attributes__"),key := .str (oS "__static_attributes__") 1082,val := .ref 597 },{ hash := PyData.keyHash P (oS "arguments"),key := .str (oS "arguments") 1084,val := .ref 601 },{ hash := PyData.keyHash P (oS "lower_name"),key := .str (oS "lower_name") 1086,val := .ref 602 },{ hash := PyData.keyHash P (oS "name"),key := .str (oS "name") 1088,val := .ref 603 },{ hash := PyData.keyHash P (oS "__doc__"),key := .str (oS "__doc__") 1089,val := .none }] 5 } .nil .nil) .nil) (.node (ob4 "tuple" "self" 892 "write" 893) (.node (ob17 "_law_entries" 46 "law_qv0003_07" 1242 726) .nil .nil) .nil))) (.node (ob12 "tuple" "self" 350 "line" 351 "column" 352 "value" 353) (.node ob7 (.node ob0 (.node (ob1 "_serialize_to" "CurlyBracketsBlock._serialize_to" 24 3 566) .nil .nil) .nil) (.node (ob4 "tuple" "self" 834 "write" 835) (.node ob0 .nil .nil) .nil)) (.node (ob4 "list" "lower_value" 528 "value" 529) (.node ob0 (.node (ob18 "tuple" "css" 1164 "pos" 1165 "c" 1166) .nil .nil) .nil) (.node ob0 .nil .nil)))))) (.node ob0 (.node (ob15 "_wall" 0) (.node ob0 (.node ob0 (.node (ob14 "tuple" "value" 365) (.node (ob5 "_serialize_to" "AtKeywordToken._serialize_to" 14 3) (.node (ob19 513) .nil .nil) .nil) (.node (ob8 "start" 740 385 2) (.node ob0 .nil .nil) .nil)) (.node (ob1 "__ne__" "LiteralToken.__ne__" 12 4 194) (.node (ob3 "representation" 619 "value" 620) (.node (ob20 223 588 232 595) .nil .nil) .nil) (.node (ob8 "value" 850 447 2) (.node ob0 .nil .nil) .nil))) (.node (ob9 "_serialize_to" 313 "ParseError._serialize_to" 314 315 35 2 94 95 96 97 98 318 319) (.node (ob21 "WhitespaceToken" 163 162 "value" 138 372 380) (.node (ob1 "_serialize_to" "HashToken._serialize_to" 15 3 290) (.node ob11 .nil .nil) .nil) (.node (ob8 "value" 795 415 2) (.node (ob15 "_consume_unicode_range" 37) .nil .nil) .nil)) (.node (ob4 "tuple" "self" 501 "write" 502) (.node (ob16 "URLToken" 355 354 "representation" "value" 330 653 661) (.node (ob15 "_number_end" 28) .nil .nil) .nil) (.node (ob8 "representation" 910 479 4) (.node (ob15 "_law_read" 48) .nil .nil) .nil)))) (.node ob7 (.node (ob20 30 92 35 99) (.node ob7 (.node (ob10 "HashToken" 563 564 565 101 273 274 566 567) (.node (ob1 "__init__" "SquareBracketsBlock.__init__" 23 2 530) .nil .nil) .nil) (.node (ob9 "__init__" 764 "NumberToken.__init__" 765 766 149 6 398 399 400 401 402 773 774) (.node (ob12 "tuple" "css" 1207 "pos" 1208 "end" 1209 "codepoint" 1210) .nil .nil) .nil)) (.node ob11 (.node ob7 (.node (ob9 "_serialize_to" 1071 "FunctionBlock._serialize_to" 1072 1073 232 2 590 591 592 593 594 1076 1077) .nil .nil) .nil) (.node (ob9 "__init__" 876 "DimensionToken.__init__" 877 878 175 7 462 463 464 465 466 886 887) (.node (ob18 "tuple" "fault" 1302 "left" 1303 "value" 1304) .nil .nil) .nil))) (.node (ob22 114 111 "tinycss2.ast" 234) (.node (ob5 "__init__" "LiteralToken.__init__" 12 2) (.node (ob4 "list" "representation" 619 "value" 620) (.node (ob4 "tuple" "self" 1030 "write" 1031) .nil .nil) .nil) (.node (ob9 "__init__" 819 "PercentageToken.__init__" 820 821 162 6 430 431 432 433 434 828 829) (.node (ob9 "_law_HEX" 1257 "_law_HEX" 1258 1259 581 0 686 687 688 689 690 1260 1261) .nil .nil) .nil)) (.node ob0 (.node ob0 (.node (ob9 "parse_component_value_list" 1126 "parse_component_value_list" 1127 1128 266 2 622 623 624 625 626 1158 1159) .nil .nil) .nil) (.node ob0 .nil .nil))))) (.node { cls := .type "dict",data := .dict #[{ hash := PyData.keyHash P (oS "\""),key := .str (oS "\"") 204,val := .str (oS "\\\"") 205 },{ hash := PyData.keyHash P (oS "\\"),key := .str (oS "\\") 206,val := .str (oS "\\\\") 207 },{ hash := PyData.keyHash P (oS "\n"),key := .str (oS "\n") 208,val := .str (oS "\\A ") 209 },{ hash := PyData.keyHash P (oS "\x0d"),key := .str (oS "\x0d") 210,val := .str (oS "\\D ") 211 },{ hash := PyData.keyHash P (oS "\x0c"),key := .str (oS "\x0c") 212,val := .str (oS "\\C ") 213 }] 5 } (.node ob11 (.node (ob8 "source_column" 278 74 1) (.node ob11 (.node (ob8 "value" 556 265 2) (.node (ob22 522 519 "tinycss2.ast" 234) .nil .nil) .nil) (.node (ob10 "NumberToken" 747 748 749 145 393 394 750 751) (.node ob7 .nil .nil) .nil)) (.node (ob14 "tuple" "value" 463) (.node ob11 (.node (ob5 "__init__" "FunctionBlock.__init__" 25 2) .nil .nil) .nil) (.node (ob10 "DimensionToken" 857 858 859 171 457 458 860 861) (.node ob7 .nil .nil) .nil))) (.node (ob19 104) (.node { cls := .none,data := .fields #[.int 61 0,.int 4 0,.ref 180,.int 65 0,.int 4 0,.ref 187,.int 68 0,.int 4 0,.ref 194,.int 71 0,.int 4 0,.ref 201] } (.node (ob13 295) (.node ob7 .nil .nil) .nil) (.node (ob10 "PercentageToken" 802 803 804 158 425 426 805 806) (.node (ob9 "_law_ENDS" 1244 "_law_ENDS" 1245 1246 578 0 678 679 680 681 682 1247 1248) .nil .nil) .nil)) (.node (ob16 "IdentToken" 235 234 "lower_value" "value" 210 471 479) (.node ob0 (.node (ob9 "_hex_end" 1117 "_hex_end" 1118 1119 261 2 614 615 616 617 618 1123 1124) .nil .nil) .nil) (.node ob0 .nil .nil)))) (.node (ob14 "tuple" "self" 263) (.node (ob5 "__init__" "ParseError.__init__" 9 2) (.node (ob4 "tuple" "self" 401 "write" 402) (.node (ob9 "__init__" 578 "HashToken.__init__" 579 580 105 5 278 279 280 281 282 586 587) (.node (ob14 "tuple" "content" 994) .nil .nil) .nil) (.node (ob1 "_serialize_to" "NumberToken._serialize_to" 19 3 410) (.node ob0 .nil .nil) .nil)) (.node ob7 (.node (ob4 "tuple" "self" 684 "write" 685) (.node (ob8 "name" 1087 600 2) .nil .nil) .nil) (.node (ob1 "_serialize_to" "DimensionToken._serialize_to" 21 3 474) (.node ob0 .nil .nil) .nil))) (.node (ob1 "__init__" "Comment.__init__" 10 2 122) (.node (ob9 "__eq__" 439 "LiteralToken.__eq__" 440 441 65 2 182 183 184 185 186 444 445) (.node ob0 (.node (ob21 "CurlyBracketsBlock" 571 570 "content" 546 1001 1009) .nil .nil) .nil) (.node (ob1 "_serialize_to" "PercentageToken._serialize_to" 20 3 442) (.node (ob17 "_law_PLAIN" 42 "law_qv0003_07" 1242 698) .nil .nil) .nil)) (.node ob0 (.node (ob5 "_serialize_to" "UnicodeRangeToken._serialize_to" 18 3) (.node (ob17 "_is_name_start" 31 "tinycss2.tokenizer" 1092 634) .nil .nil) .nil) (.node (ob5 "_serialize_to" "ParenthesesBlock._serialize_to" 22 3) .nil .nil))))))) (.node (boot_o_5 P) (.node (boot_o_9 P) (.node (ob14 "tuple" "k" 190) (.node (ob9 "serialize_string_value" 220 "serialize_string_value" 221 222 9 1 28 29 30 31 32 224 225) (.node ob7 (.node (ob9 "_serialize_to" 357 "Comment._serialize_to" 358 359 45 2 124 125 126 127 128 362 363) (.node (ob4 "tuple" "self" 546 "write" 547) (.node (ob21 "ParenthesesBlock" 513 512 "content" 488 919 927) .nil .nil) .nil) (.node (ob16 "UnicodeRangeToken" 385 384 "end" "start" 360 699 707) (.node (ob9 "_is_ident_start" 1170 "_is_ident_start" 1171 1172 427 2 636 637 638 639 640 1175 1176) .nil .nil) .nil)) (.node (ob5 "__ne__" "LiteralToken.__ne__" 12 4) (.node (ob1 "_serialize_to" "StringToken._serialize_to" 16 3 320) (.node { cls := .type "dict",data := .dict #[{ hash := PyData.keyHash P (oS "__module__"),key := .str (oS "__module__") 1049,val := .str (oS "tinycss2.ast") 234 },{ hash := PyData.keyHash P (oS "__qualname__"),key := .str (oS "__qualname__") 1051,val := .str (oS "FunctionBlock") 1050 },{ hash := PyData.keyHash P (oS "__firstlineno__"),key := .str (oS "__firstlineno__") 1053,val := .int 219 1052 },{ hash := PyData.keyHash P (oS "__slots__"),key := .str (oS "__slots__") 1057,val := .ref 582 },{ hash := PyData.keyHash P (oS "type"),key := .str (oS "type") 1059,val := .str (oS "function") 1058 },{ hash := PyData.keyHash P (oS "__init__"),key := .str (oS "__init__") 1070,val := .ref 589 },{ hash := PyData.keyHash P (oS "_serialize_to"),key := .str (oS "_serialize_to") 1078,val := .ref 596 },{ hash := PyData.keyHash P (oS "__static_attributes__"),key := .str (oS "__static_attributes__") 1082,val := .ref 597 }] 8 } .nil .nil) .nil) (.node (ob8 "is_integer" 846 447 4) (.node (ob9 "_law_ESCAPED" 1269 "_law_ESCAPED" 1270 1271 585 0 700 701 702 703 704 1272 1273) .nil .nil) .nil))) (.node ob0 (.node (ob2 "value" 384) (.node (ob5 "_serialize_to" "HashToken._serialize_to" 15 3) (.node (ob13 542) .nil .nil) .nil) (.node (ob8 "is_integer" 791 415 4) (.node { cls := .type "tuple",data := .seq #[.str (oS "css") 1231,.str (oS "pos") 1232,.str (oS "length") 1233,.str (oS "start_pos") 1234,.str (oS "max_pos") 1235,.str (oS "start") 1236,.str (oS "question_marks") 1237,.str (oS "end") 1238] } .nil .nil) .nil)) (.node ob0 (.node (ob3 "representation" 665 "value" 666) (.node (ob23 "tuple" "css" 1108 "pos" 1109 "end" 1110 "start" 1111 "plain" 1112 "power" 1113) .nil .nil) .nil) (.node (ob8 "is_integer" 906 479 6) (.node (ob12 "tuple" "nodes" 1322 "row" 1323 "node" 1324 "value" 1325) .nil .nil) .nil)))) (.node (ob4 "list" "source_column" 248 "source_line" 249) (.node { cls := .type "dict",data := .dict #[{ hash := PyData.keyHash P (oS "__module__"),key := .str (oS "__module__") 292,val := .str (oS "tinycss2.ast") 234 },{ hash := PyData.keyHash P (oS "__qualname__"),key := .str (oS "__qualname__") 294,val := .str (oS "ParseError") 293 },{ hash := PyData.keyHash P (oS "__firstlineno__"),key := .str (oS "__firstlineno__") 296,val := .int 26 295 },{ hash := PyData.keyHash P (oS "__slots__"),key := .str (oS "__slots__") 299,val := .ref 86 },{ hash := PyData.keyHash P (oS "type"),key := .str (oS "type") 301,val := .str (oS "error") 300 },{ hash := PyData.keyHash P (oS "__init__"),key := .str (oS "__init__") 312,val := .ref 93 },{ hash := PyData.keyHash P (oS "_serialize_to"),key := .str (oS "_serialize_to") 320,val := .ref 100 },{ hash := PyData.keyHash P (oS "__static_attributes__"),key := .str (oS "__static_attributes__") 323,val := .ref 101 }] 8 } (.node (ob14 "list" "value" 384) (.node ob0 (.node (ob5 "__init__" "SquareBracketsBlock.__init__" 23 2) .nil .nil) .nil) (.node ob0 (.node ob0 .nil .nil) .nil)) (.node (ob13 206) (.node (ob4 "list" "representation" 665 "value" 666) (.node ob0 .nil .nil) .nil) (.node ob0 (.node ob0 .nil .nil) .nil))) (.node (ob20 41 122 45 129) (.node (ob12 "tuple" "self" 432 "line" 433 "column" 434 "value" 435) (.node (ob10 "StringToken" 609 610 611 112 303 304 612 613) (.node ob0 .nil .nil) .nil) (.node ob0 (.node ob0 .nil .nil) .nil)) (.node ob11 (.node ob7 (.node ob0 .nil .nil) .nil) (.node ob7 .nil .nil))))) (.node { cls := .type "code",data := .fields #[.str (oS "ascii_lower") 196,.str (oS "ascii_lower") 197,.str (oS "/claim/cut.py") 198,.int 5 0,.int 1 0,.int 0 0,.int 0 0,.int 3 0,.ref 22,.bool true,.int 181 0,.ref 23,.none,.none,.none,.ref 24,.int 199 0,.int 5 0,.str (oS "/claim/cut.py") 200] } (.node (ob17 "serialize_url" 6 "tinycss2.serializer" 202 40) (.node { cls := .type "dict",data := .dict #[{ hash := PyData.keyHash P (oS "__module__"),key := .str (oS "__module__") 243,val := .str (oS "tinycss2.ast") 234 },{ hash := PyData.keyHash P (oS "__firstlineno__"),key := .str (oS "__firstlineno__") 247,val := .int 14 246 },{ hash := PyData.keyHash P (oS "__slots__"),key := .str (oS "__slots__") 250,val := .ref 49 },{ hash := PyData.keyHash P (oS "__init__"),key := .str (oS "__init__") 259,val := .ref 56 },{ hash := PyData.keyHash P (oS "serialize"),key := .str (oS "serialize") 266,val := .ref 63 },{ hash := PyData.keyHash P (oS "_serialize_to"),key := .str (oS "_serialize_to") 274,val := .ref 70 },{ hash := PyData.keyHash P (oS "__static_attributes__"),key := .str (oS "__static_attributes__") 277,val := .ref 71 },{ hash := PyData.keyHash P (oS "source_column"),key := .str (oS "source_column") 279,val := .ref 75 },{ hash := PyData.keyHash P (oS "source_line"),key := .str (oS "source_line") 281,val := .ref 76 },{ hash := PyData.keyHash P (oS "__doc__"),key := .str (oS "__doc__") 282,val := .none }] 4 } (.node (ob13 134) (.node (ob16 "AtKeywordToken" 265 264 "lower_value" "value" 240 516 524) (.node (ob20 203 530 207 537) .nil .nil) .nil) (.node ob0 (.node (ob17 "_consume_ident" 33 "tinycss2.tokenizer" 1092 648) .nil .nil) .nil)) (.node (ob9 "_serialize_to" 455 "LiteralToken._serialize_to" 456 457 71 2 196 197 198 199 200 460 461) (.node (ob13 325) (.node (ob24 "self" 1063 "line" 1064 "column" 1065 "name" 1066 "arguments" 1067) .nil .nil) .nil) (.node ob0 (.node (ob17 "_law_line_end" 44 "law_qv0003_07" 1242 712) .nil .nil) .nil))) (.node (ob8 "kind" 324 104 3) (.node { cls := .type "dict",data := .dict #[{ hash := PyData.keyHash P (oS "__module__"),key := .str (oS "__module__") 420,val := .str (oS "tinycss2.ast") 234 },{ hash := PyData.keyHash P (oS "__qualname__"),key := .str (oS "__qualname__") 422,val := .str (oS "LiteralToken") 421 },{ hash := PyData.keyHash P (oS "__firstlineno__"),key := .str (oS "__firstlineno__") 424,val := .int 57 423 },{ hash := PyData.keyHash P (oS "__slots__"),key := .str (oS "__slots__") 426,val := .ref 174 },{ hash := PyData.keyHash P (oS "type"),key := .str (oS "type") 428,val := .str (oS "literal") 427 },{ hash := PyData.keyHash P (oS "__init__"),key := .str (oS "__init__") 438,val := .ref 181 },{ hash := PyData.keyHash P (oS "__eq__"),key := .str (oS "__eq__") 446,val := .ref 188 },{ hash := PyData.keyHash P (oS "__ne__"),key := .str (oS "__ne__") 454,val := .ref 195 },{ hash := PyData.keyHash P (oS "_serialize_to"),key := .str (oS "_serialize_to") 462,val := .ref 202 },{ hash := PyData.keyHash P (oS "__static_attributes__"),key := .str (oS "__static_attributes__") 464,val := .ref 203 }] 10 } (.node (ob8 "value" 602 295 2) (.node (ob14 "list" "content" 1013) .nil .nil) .nil) (.node ob0 (.node ob0 .nil .nil) .nil)) (.node (ob3 "lower_value" 483 "value" 484) (.node ob11 (.node ob0 .nil .nil) .nil) (.node ob11 (.node { cls := .type "code",data := .fields #[.str (oS "law") 1329,.str (oS "law") 1330,.str (oS "/claim/cut.py") 1331,.int 635 0,.int 1 0,.int 0 0,.int 0 0,.int 3 0,.ref 742,.bool true,.int 181 0,.ref 743,.none,.none,.none,.ref 744,.int 1332 0,.int 635 0,.str (oS "/claim/cut.py") 1333] } .nil .nil) .nil)))) (.node ob0 (.node (ob24 "self" 305 "line" 306 "column" 307 "kind" 308 "message" 309) (.node ob0 (.node ob0 (.node (ob9 "_serialize_to" 986 "SquareBracketsBlock._serialize_to" 987 988 207 2 532 533 534 535 536 991 992) .nil .nil) .nil) (.node (ob5 "_serialize_to" "NumberToken._serialize_to" 19 3) (.node ob7 .nil .nil) .nil)) (.node (ob4 "list" "lower_value" 483 "value" 484) (.node ob0 (.node (ob8 "arguments" 1083 600 4) .nil .nil) .nil) (.node (ob5 "_serialize_to" "DimensionToken._serialize_to" 21 3) (.node ob7 .nil .nil) .nil))) (.node (ob5 "__init__" "Comment.__init__" 10 2) (.node ob0 (.node (ob9 "__init__" 624 "StringToken.__init__" 625 626 116 5 308 309 310 311 312 632 633) (.node (ob2 "content" 1013) .nil .nil) .nil) (.node (ob5 "_serialize_to" "PercentageToken._serialize_to" 20 3) (.node (ob15 "_law_PLAIN" 42) .nil .nil) .nil)) (.node ob7 (.node (ob4 "tuple" "self" 730 "write" 731) (.node (ob15 "_is_name_start" 31) .nil .nil) .nil) (.node (ob4 "tuple" "self" 948 "write" 949) .nil .nil)))))) (.node (ob10 "<module>" 182 183 184 1 11 12 185 186) (.node (ob17 "_wall" 0 "__main__" 164 20) (.node (ob14 "tuple" "value" 230) (.node (ob9 "_serialize_to" 267 "Node._serialize_to" 268 269 24 2 64 65 66 67 68 272 273) (.node { cls := .type "dict",data := .dict #[{ hash := PyData.keyHash P (oS "__module__"),key := .str (oS "__module__") 338,val := .str (oS "tinycss2.ast") 234 },{ hash := PyData.keyHash P (oS "__firstlineno__"),key := .str (oS "__firstlineno__") 342,val := .int 37 341 },{ hash := PyData.keyHash P (oS "__slots__"),key := .str (oS "__slots__") 344,val := .ref 116 },{ hash := PyData.keyHash P (oS "type"),key := .str (oS "type") 346,val := .str (oS "comment") 345 },{ hash := PyData.keyHash P (oS "__init__"),key := .str (oS "__init__") 356,val := .ref 123 },{ hash := PyData.keyHash P (oS "_serialize_to"),key := .str (oS "_serialize_to") 364,val := .ref 130 },{ hash := PyData.keyHash P (oS "__static_attributes__"),key := .str (oS "__static_attributes__") 366,val := .ref 131 },{ hash := PyData.keyHash P (oS "value"),key := .str (oS "value") 368,val := .ref 135 },{ hash := PyData.keyHash P (oS "__doc__"),key := .str (oS "__doc__") 369,val := .none }] 3 } (.node (ob1 "_serialize_to" "AtKeywordToken._serialize_to" 14 3 260) (.node ob6 .nil .nil) .nil) (.node (ob13 385) (.node (ob23 "tuple" "css" 1181 "pos" 1182 "chunks" 1183 "length" 1184 "start_pos" 1185 "c" 1186) .nil .nil) .nil)) (.node ob7 (.node (ob16 "StringToken" 325 324 "representation" "value" 300 607 615) (.node (ob22 580 577 "tinycss2.ast" 234) .nil .nil) .nil) (.node (ob13 447) (.node (ob18 "tuple" "way" 1278 "rest" 1279 "sign" 1280) .nil .nil) .nil))) (.node (ob4 "tuple" "kind" 321 "message" 322) (.node (ob19 163) (.node (ob3 "is_identifier" 573 "value" 574) (.node ob0 .nil .nil) .nil) (.node (ob13 415) (.node (ob17 "_consume_unicode_range" 37 "tinycss2.tokenizer" 1092 676) .nil .nil) .nil)) (.node (ob5 "_serialize_to" "IdentToken._serialize_to" 13 3) (.node (ob8 "value" 694 355 2) (.node (ob17 "_number_end" 28 "tinycss2.tokenizer" 1092 612) .nil .nil) .nil) (.node (ob8 "value" 914 479 2) (.node (ob17 "_law_read" 48 "law_qv0003_07" 1242 740) .nil .nil) .nil)))) (.node ob0 (.node (ob22 84 81 "tinycss2.ast" 234) (.node ob0 (.node (ob4 "list" "is_identifier" 573 "value" 574) (.node ob7 .nil .nil) .nil) (.node ob0 (.node (ob15 "_consume_escape" 35) .nil .nil) .nil)) (.node ob0 (.node ob0 (.node (ob18 "tuple" "arguments" 1079 "lower_name" 1080 "name" 1081) .nil .nil) .nil) (.node ob0 (.node (ob15 "_law_entries" 46) .nil .nil) .nil))) (.node ob0 (.node (ob1 "__init__" "LiteralToken.__init__" 12 2 180) (.node ob7 (.node (ob5 "_serialize_to" "CurlyBracketsBlock._serialize_to" 24 3) .nil .nil) .nil) (.node ob0 (.node ob0 .nil .nil) .nil)) (.node (ob10 "AtKeywordToken" 518 519 520 87 243 244 521 522) (.node (ob9 "__init__" 716 "UnicodeRangeToken.__init__" 717 718 138 5 368 369 370 371 372 724 725) (.node ob0 .nil .nil) .nil) (.node (ob9 "__init__" 935 "ParenthesesBlock.__init__" 936 937 193 4 496 497 498 499 500 942 943) .nil .nil))))) (.node ob7 (.node ob0 (.node (ob19 74) (.node ob0 (.node (ob13 265) (.node ob0 .nil .nil) .nil) (.node (ob12 "list" "int_value" 757 "is_integer" 758 "representation" 759 "value" 760) (.node ob0 .nil .nil) .nil)) (.node { cls := .type "dict",data := .dict #[{ hash := PyData.keyHash P (oS "__module__"),key := .str (oS "__module__") 420,val := .str (oS "tinycss2.ast") 234 },{ hash := PyData.keyHash P (oS "__firstlineno__"),key := .str (oS "__firstlineno__") 424,val := .int 57 423 },{ hash := PyData.keyHash P (oS "__slots__"),key := .str (oS "__slots__") 426,val := .ref 174 },{ hash := PyData.keyHash P (oS "type"),key := .str (oS "type") 428,val := .str (oS "literal") 427 },{ hash := PyData.keyHash P (oS "__init__"),key := .str (oS "__init__") 438,val := .ref 181 },{ hash := PyData.keyHash P (oS "__eq__"),key := .str (oS "__eq__") 446,val := .ref 188 },{ hash := PyData.keyHash P (oS "__ne__"),key := .str (oS "__ne__") 454,val := .ref 195 },{ hash := PyData.keyHash P (oS "_serialize_to"),key := .str (oS "_serialize_to") 462,val := .ref 202 },{ hash := PyData.keyHash P (oS "__static_attributes__"),key := .str (oS "__static_attributes__") 464,val := .ref 203 },{ hash := PyData.keyHash P (oS "value"),key := .str (oS "value") 466,val := .ref 207 },{ hash := PyData.keyHash P (oS "__doc__"),key := .str (oS "__doc__") 467,val := .none },{ hash := PyData.keyHash P (oS "__hash__"),key := .str (oS "__hash__") 468,val := .none }] 4 } (.node ob0 (.node (ob1 "__init__" "FunctionBlock.__init__" 25 2 588) .nil .nil) .nil) (.node (ob23 "list" "int_value" 867 "is_integer" 868 "lower_unit" 869 "representation" 870 "unit" 871 "value" 872) (.node ob0 .nil .nil) .nil))) (.node ob6 (.node (ob22 172 169 "tinycss2.ast" 234) (.node ob11 (.node ob0 .nil .nil) .nil) (.node (ob12 "list" "int_value" 812 "is_integer" 813 "representation" 814 "value" 815) (.node (ob23 "list" " " 1250 "\x09" 1251 "\n" 1252 "\x0d\n" 1253 "\x0d" 1254 "\x0c" 1255) .nil .nil) .nil)) (.node (ob8 "value" 511 235 2) (.node (ob10 "UnicodeRangeToken" 701 702 703 134 363 364 704 705) (.node { cls := .type "tuple",data := .seq #[.bool false] } .nil .nil) .nil) (.node (ob10 "ParenthesesBlock" 921 922 923 189 491 492 924 925) .nil .nil)))) (.node (ob5 "serialize" "Node.serialize" 8 2) (.node (ob1 "__init__" "ParseError.__init__" 9 2 92) (.node (ob5 "_serialize_to" "WhitespaceToken._serialize_to" 11 3) (.node ob0 (.node { cls := .type "dict",data := .dict #[{ hash := PyData.keyHash P (oS "__module__"),key := .str (oS "__module__") 967,val := .str (oS "tinycss2.ast") 234 },{ hash := PyData.keyHash P (oS "__firstlineno__"),key := .str (oS "__firstlineno__") 971,val := .int 199 970 },{ hash := PyData.keyHash P (oS "__slots__"),key := .str (oS "__slots__") 973,val := .ref 524 },{ hash := PyData.keyHash P (oS "type"),key := .str (oS "type") 975,val := .str (oS "[] block") 974 },{ hash := PyData.keyHash P (oS "__init__"),key := .str (oS "__init__") 985,val := .ref 531 },{ hash := PyData.keyHash P (oS "_serialize_to"),key := .str (oS "_serialize_to") 993,val := .ref 538 },{ hash := PyData.keyHash P (oS "__static_attributes__"),key := .str (oS "__static_attributes__") 995,val := .ref 539 },{ hash := PyData.keyHash P (oS "content"),key := .str (oS "content") 997,val := .ref 543 },{ hash := PyData.keyHash P (oS "__doc__"),key := .str (oS "__doc__") 998,val := .none }] 3 } .nil .nil) .nil) (.node { cls := .type "list",data := .seq #[.str (oS "int_value") 757,.str (oS "is_integer") 758,.str (oS "representation") 759,.str (oS "value") 760] 1 } (.node (ob9 "_consume_url" 1214 "_consume_url" 1215 1216 494 2 664 665 666 667 668 1225 1226) .nil .nil) .nil)) (.node ob0 (.node (ob5 "_serialize_to" "URLToken._serialize_to" 17 3) (.node (ob13 600) .nil .nil) .nil) (.node { cls := .type "list",data := .seq #[.str (oS "int_value") 867,.str (oS "is_integer") 868,.str (oS "lower_unit") 869,.str (oS "representation") 870,.str (oS "unit") 871,.str (oS "value") 872] 1 } (.node (ob9 "_law_places" 1308 "_law_places" 1309 1310 614 1 728 729 730 731 732 1316 1317) .nil .nil) .nil))) (.node ob7 (.node ob0 (.node (ob4 "tuple" "self" 638 "write" 639) (.node (ob19 571) .nil .nil) .nil) (.node { cls := .type "list",data := .seq #[.str (oS "int_value") 812,.str (oS "is_integer") 813,.str (oS "representation") 814,.str (oS "value") 815] 1 } (.node ob7 .nil .nil) .nil)) (.node (ob9 "__init__" 533 "AtKeywordToken.__init__" 534 535 91 4 248 249 250 251 252 540 541) (.node (ob1 "_serialize_to" "UnicodeRangeToken._serialize_to" 18 3 380) (.node ob7 .nil .nil) .nil) (.node (ob1 "_serialize_to" "ParenthesesBlock._serialize_to" 22 3 508) .nil .nil)))))))) (.node (boot_o_2 P) (.node (boot_o_4 P) (.node (boot_o_8 P) (.node ob7 (.node (ob15 "serialize_string_value" 5) (.node ob0 (.node (ob5 "_serialize_to" "Comment._serialize_to" 10 3) (.node ob7 (.node { cls := .type "dict",data := .dict #[{ hash := PyData.keyHash P (oS "__module__"),key := .str (oS "__module__") 926,val := .str (oS "tinycss2.ast") 234 },{ hash := PyData.keyHash P (oS "__firstlineno__"),key := .str (oS "__firstlineno__") 930,val := .int 189 929 },{ hash := PyData.keyHash P (oS "__slots__"),key := .str (oS "__slots__") 932,val := .ref 495 },{ hash := PyData.keyHash P (oS "type"),key := .str (oS "type") 934,val := .str (oS "() block") 933 },{ hash := PyData.keyHash P (oS "__init__"),key := .str (oS "__init__") 944,val := .ref 502 },{ hash := PyData.keyHash P (oS "_serialize_to"),key := .str (oS "_serialize_to") 952,val := .ref 509 },{ hash := PyData.keyHash P (oS "__static_attributes__"),key := .str (oS "__static_attributes__") 954,val := .ref 510 },{ hash := PyData.keyHash P (oS "content"),key := .str (oS "content") 956,val := .ref 514 },{ hash := PyData.keyHash P (oS "__doc__"),key := .str (oS "__doc__") 957,val := .none }] 3 } .nil .nil) .nil) (.node { cls := .type "dict",data := .dict #[{ hash := PyData.keyHash P (oS "__module__"),key := .str (oS "__module__") 706,val := .str (oS "tinycss2.ast") 234 },{ hash := PyData.keyHash P (oS "__firstlineno__"),key := .str (oS "__firstlineno__") 710,val := .int 134 709 },{ hash := PyData.keyHash P (oS "__slots__"),key := .str (oS "__slots__") 713,val := .ref 367 },{ hash := PyData.keyHash P (oS "type"),key := .str (oS "type") 715,val := .str (oS "unicode-range") 714 },{ hash := PyData.keyHash P (oS "__init__"),key := .str (oS "__init__") 726,val := .ref 374 },{ hash := PyData.keyHash P (oS "_serialize_to"),key := .str (oS "_serialize_to") 734,val := .ref 381 },{ hash := PyData.keyHash P (oS "__static_attributes__"),key := .str (oS "__static_attributes__") 737,val := .ref 382 },{ hash := PyData.keyHash P (oS "end"),key := .str (oS "end") 739,val := .ref 386 },{ hash := PyData.keyHash P (oS "start"),key := .str (oS "start") 741,val := .ref 387 },{ hash := PyData.keyHash P (oS "__doc__"),key := .str (oS "__doc__") 742,val := .none }] 4 } (.node (ob15 "_is_ident_start" 32) .nil .nil) .nil)) (.node ob0 (.node (ob9 "_serialize_to" 635 "StringToken._serialize_to" 636 637 121 2 315 316 317 318 319 640 641) (.node ob11 .nil .nil) .nil) (.node (ob8 "int_value" 844 447 5) (.node (ob15 "_law_ESCAPED" 43) .nil .nil) .nil))) (.node (ob4 "tuple" "self" 316 "write" 317) (.node (ob14 "tuple" "value" 406) (.node ob0 (.node (ob19 542) .nil .nil) .nil) (.node (ob8 "int_value" 789 415 5) (.node ob7 .nil .nil) .nil)) (.node (ob1 "__init__" "IdentToken.__init__" 13 2 223) (.node (ob4 "tuple" "representation" 689 "value" 690) (.node ob7 .nil .nil) .nil) (.node (ob8 "int_value" 904 479 7) (.node ob7 .nil .nil) .nil)))) (.node (ob22 47 44 "tinycss2.ast" 234) (.node ob11 (.node (ob22 143 140 "tinycss2.ast" 234) (.node { cls := .type "dict",data := .dict #[{ hash := PyData.keyHash P (oS "__module__"),key := .str (oS "__module__") 568,val := .str (oS "tinycss2.ast") 234 },{ hash := PyData.keyHash P (oS "__qualname__"),key := .str (oS "__qualname__") 570,val := .str (oS "HashToken") 569 },{ hash := PyData.keyHash P (oS "__firstlineno__"),key := .str (oS "__firstlineno__") 572,val := .int 101 571 },{ hash := PyData.keyHash P (oS "__slots__"),key := .str (oS "__slots__") 575,val := .ref 277 },{ hash := PyData.keyHash P (oS "type"),key := .str (oS "type") 577,val := .str (oS "hash") 576 },{ hash := PyData.keyHash P (oS "__init__"),key := .str (oS "__init__") 588,val := .ref 284 },{ hash := PyData.keyHash P (oS "_serialize_to"),key := .str (oS "_serialize_to") 596,val := .ref 291 },{ hash := PyData.keyHash P (oS "__static_attributes__"),key := .str (oS "__static_attributes__") 599,val := .ref 292 }] 8 } (.node ob0 .nil .nil) .nil) (.node (ob23 "tuple" "self" 767 "line" 768 "column" 769 "value" 770 "int_value" 771 "representation" 772) (.node (ob17 "_consume_quoted_string" 34 "tinycss2.tokenizer" 1092 655) .nil .nil) .nil)) (.node (ob19 206) (.node (ob22 335 332 "tinycss2.ast" 234) (.node (ob4 "tuple" "self" 1074 "write" 1075) .nil .nil) .nil) (.node { cls := .type "tuple",data := .seq #[.str (oS "self") 879,.str (oS "line") 880,.str (oS "column") 881,.str (oS "value") 882,.str (oS "int_value") 883,.str (oS "representation") 884,.str (oS "unit") 885] } (.node (ob17 "_law_hex" 45 "law_qv0003_07" 1242 719) .nil .nil) .nil))) (.node ob0 (.node ob7 (.node (ob20 116 313 121 320) (.node (ob1 "__init__" "CurlyBracketsBlock.__init__" 24 2 559) .nil .nil) .nil) (.node (ob23 "tuple" "self" 822 "line" 823 "column" 824 "value" 825 "int_value" 826 "representation" 827) (.node ob0 .nil .nil) .nil)) (.node ob6 (.node ob0 (.node { cls := .type "tuple",data := .seq #[.str (oS "css") 1129,.str (oS "skip_comments") 1130,.str (oS "length") 1131,.str (oS "token_start_pos") 1132,.str (oS "pos") 1133,.str (oS "line") 1134,.str (oS "last_newline") 1135,.str (oS "root") 1136,.str (oS "tokens") 1137,.str (oS "end_char") 1138,.str (oS "stack") 1139,.str (oS "newline") 1140,.str (oS "column") 1141,.str (oS "c") 1142,.str (oS "value") 1143,.str (oS "start") 1144,.str (oS "end") 1145,.str (oS "is_url") 1146,.str (oS "url_pos") 1147,.str (oS "error") 1148,.str (oS "repr") 1149,.str (oS "error_key") 1150,.str (oS "arguments") 1151,.str (oS "plain") 1152,.str (oS "repr_") 1153,.str (oS "int_value") 1154,.str (oS "unit") 1155,.str (oS "is_identifier") 1156,.str (oS "content") 1157] } .nil .nil) .nil) (.node ob0 .nil .nil))))) (.node (ob15 "ascii_lower" 2) (.node (ob9 "serialize_url" 227 "serialize_url" 228 229 11 1 35 36 37 38 39 231 232) (.node (ob3 "source_column" 248 "source_line" 249) (.node (ob19 134) (.node { cls := .type "dict",data := .dict #[{ hash := PyData.keyHash P (oS "__module__"),key := .str (oS "__module__") 523,val := .str (oS "tinycss2.ast") 234 },{ hash := PyData.keyHash P (oS "__firstlineno__"),key := .str (oS "__firstlineno__") 527,val := .int 87 526 },{ hash := PyData.keyHash P (oS "__slots__"),key := .str (oS "__slots__") 530,val := .ref 247 },{ hash := PyData.keyHash P (oS "type"),key := .str (oS "type") 532,val := .str (oS "at-keyword") 531 },{ hash := PyData.keyHash P (oS "__init__"),key := .str (oS "__init__") 542,val := .ref 254 },{ hash := PyData.keyHash P (oS "_serialize_to"),key := .str (oS "_serialize_to") 550,val := .ref 261 },{ hash := PyData.keyHash P (oS "__static_attributes__"),key := .str (oS "__static_attributes__") 553,val := .ref 262 },{ hash := PyData.keyHash P (oS "lower_value"),key := .str (oS "lower_value") 555,val := .ref 266 },{ hash := PyData.keyHash P (oS "value"),key := .str (oS "value") 557,val := .ref 267 },{ hash := PyData.keyHash P (oS "__doc__"),key := .str (oS "__doc__") 558,val := .none }] 4 } (.node ob0 .nil .nil) .nil) (.node { cls := .type "dict",data := .dict #[{ hash := PyData.keyHash P (oS "__module__"),key := .str (oS "__module__") 752,val := .str (oS "tinycss2.ast") 234 },{ hash := PyData.keyHash P (oS "__qualname__"),key := .str (oS "__qualname__") 754,val := .str (oS "NumberToken") 753 },{ hash := PyData.keyHash P (oS "__firstlineno__"),key := .str (oS "__firstlineno__") 756,val := .int 145 755 },{ hash := PyData.keyHash P (oS "__slots__"),key := .str (oS "__slots__") 761,val := .ref 397 },{ hash := PyData.keyHash P (oS "type"),key := .str (oS "type") 763,val := .str (oS "number") 762 },{ hash := PyData.keyHash P (oS "__init__"),key := .str (oS "__init__") 775,val := .ref 404 },{ hash := PyData.keyHash P (oS "_serialize_to"),key := .str (oS "_serialize_to") 783,val := .ref 411 },{ hash := PyData.keyHash P (oS "__static_attributes__"),key := .str (oS "__static_attributes__") 788,val := .ref 412 }] 8 } (.node (ob9 "_consume_ident" 1178 "_consume_ident" 1179 1180 436 2 643 644 645 646 647 1187 1188) .nil .nil) .nil)) (.node (ob5 "_serialize_to" "LiteralToken._serialize_to" 12 5) (.node (ob19 325) (.node ob7 .nil .nil) .nil) (.node { cls := .type "dict",data := .dict #[{ hash := PyData.keyHash P (oS "__module__"),key := .str (oS "__module__") 862,val := .str (oS "tinycss2.ast") 234 },{ hash := PyData.keyHash P (oS "__qualname__"),key := .str (oS "__qualname__") 864,val := .str (oS "DimensionToken") 863 },{ hash := PyData.keyHash P (oS "__firstlineno__"),key := .str (oS "__firstlineno__") 866,val := .int 171 865 },{ hash := PyData.keyHash P (oS "__slots__"),key := .str (oS "__slots__") 873,val := .ref 461 },{ hash := PyData.keyHash P (oS "type"),key := .str (oS "type") 875,val := .str (oS "dimension") 874 },{ hash := PyData.keyHash P (oS "__init__"),key := .str (oS "__init__") 888,val := .ref 468 },{ hash := PyData.keyHash P (oS "_serialize_to"),key := .str (oS "_serialize_to") 896,val := .ref 475 },{ hash := PyData.keyHash P (oS "__static_attributes__"),key := .str (oS "__static_attributes__") 903,val := .ref 476 }] 8 } (.node (ob9 "_law_line_end" 1275 "_law_line_end" 1276 1277 587 2 707 708 709 710 711 1281 1282) .nil .nil) .nil))) (.node (ob16 "ParseError" 104 103 "kind" "message" 79 285 293) (.node ob11 (.node (ob8 "is_identifier" 600 295 3) (.node (ob22 551 548 "tinycss2.ast" 234) .nil .nil) .nil) (.node { cls := .type "dict",data := .dict #[{ hash := PyData.keyHash P (oS "__module__"),key := .str (oS "__module__") 807,val := .str (oS "tinycss2.ast") 234 },{ hash := PyData.keyHash P (oS "__qualname__"),key := .str (oS "__qualname__") 809,val := .str (oS "PercentageToken") 808 },{ hash := PyData.keyHash P (oS "__firstlineno__"),key := .str (oS "__firstlineno__") 811,val := .int 158 810 },{ hash := PyData.keyHash P (oS "__slots__"),key := .str (oS "__slots__") 816,val := .ref 429 },{ hash := PyData.keyHash P (oS "type"),key := .str (oS "type") 818,val := .str (oS "percentage") 817 },{ hash := PyData.keyHash P (oS "__init__"),key := .str (oS "__init__") 830,val := .ref 436 },{ hash := PyData.keyHash P (oS "_serialize_to"),key := .str (oS "_serialize_to") 838,val := .ref 443 },{ hash := PyData.keyHash P (oS "__static_attributes__"),key := .str (oS "__static_attributes__") 843,val := .ref 444 }] 8 } (.node ob0 .nil .nil) .nil)) (.node (ob4 "tuple" "lower_value" 506 "value" 507) (.node ob6 (.node (ob18 "tuple" "css" 1120 "pos" 1121 "end" 1122) .nil .nil) .nil) (.node ob6 (.node (ob15 "law" 49) .nil .nil) .nil)))) (.node (ob1 "__init__" "Node.__init__" 8 1 55) (.node ob7 (.node (ob1 "__init__" "WhitespaceToken.__init__" 11 2 151) (.node (ob24 "self" 581 "line" 582 "column" 583 "value" 584 "is_identifier" 585) (.node (ob5 "_serialize_to" "SquareBracketsBlock._serialize_to" 23 3) .nil .nil) .nil) (.node ob0 (.node ob0 .nil .nil) .nil)) (.node (ob22 215 212 "tinycss2.ast" 234) (.node (ob1 "__init__" "URLToken.__init__" 17 2 343) (.node { cls := .type "type",data := .cls { name := oS "FunctionBlock",bases := [.ref 74],mro := [.ref 600,.ref 74,.type "object"],ns := 599,qualname := oS "FunctionBlock",hasDict := false,slotNames := [oS "source_column",oS "source_line",oS "arguments",oS "lower_name",oS "name"] },slots := #[some (.ref 575),none,some (.str (oS "FunctionBlock") 1042),some (.str (oS "FunctionBlock") 1050),some (.builtin "object.__new__"),some (.bool false)] } .nil .nil) .nil) (.node ob0 (.node ob0 .nil .nil) .nil))) (.node ob0 (.node (ob4 "tuple" "self" 442 "other" 443) (.node (ob5 "__init__" "StringToken.__init__" 16 2) (.node (ob14 "tuple" "content" 1035) .nil .nil) .nil) (.node ob0 (.node ob0 .nil .nil) .nil)) (.node ob0 (.node ob7 (.node ob0 .nil .nil) .nil) (.node ob7 .nil .nil)))))) (.node { cls := .none,data := .fields #[.int 1 0,.int 0 0,.ref 20,.int 5 0,.int 0 0,.ref 25,.int 9 0,.int 0 0,.ref 33,.int 11 0,.int 0 0,.ref 40,.int 14 0,.int 0 0,.ref 47,.int 26 0,.int 0 0,.ref 84,.int 37 0,.int 0 0,.ref 114,.int 47 0,.int 0 0,.ref 143,.int 57 0,.int 0 0,.ref 172,.int 73 0,.int 0 0,.ref 215,.int 87 0,.int 0 0,.ref 245,.int 101 0,.int 0 0,.ref 275,.int 112 0,.int 0 0,.ref 305,.int 123 0,.int 0 0,.ref 335,.int 134 0,.int 0 0,.ref 365,.int 145 0,.int 0 0,.ref 395,.int 158 0,.int 0 0,.ref 427,.int 171 0,.int 0 0,.ref 459,.int 189 0,.int 0 0,.ref 493,.int 199 0,.int 0 0,.ref 522,.int 209 0,.int 0 0,.ref 551,.int 219 0,.int 0 0,.ref 580,.int 236 0,.int 0 0,.ref 612,.int 261 0,.int 0 0,.ref 619,.int 266 0,.int 0 0,.ref 627,.int 424 0,.int 0 0,.ref 634,.int 427 0,.int 0 0,.ref 641,.int 436 0,.int 0 0,.ref 648,.int 453 0,.int 0 0,.ref 655,.int 485 0,.int 0 0,.ref 662,.int 494 0,.int 0 0,.ref 669,.int 553 0,.int 0 0,.ref 676,.int 578 0,.int 0 0,.ref 683,.int 581 0,.int 0 0,.ref 691,.int 583 0,.int 0 0,.ref 698,.int 585 0,.int 0 0,.ref 705,.int 587 0,.int 0 0,.ref 712,.int 590 0,.int 0 0,.ref 719,.int 608 0,.int 0 0,.ref 726,.int 614 0,.int 0 0,.ref 733,.int 625 0,.int 0 0,.ref 740,.int 635 0,.int 0 0,.ref 745] } (.node (ob9 "_wall" 187 "_wall" 188 189 1 1 15 16 17 18 19 191 192) (.node ob7 (.node (ob5 "_serialize_to" "Node._serialize_to" 8 3) (.node (ob2 "value" 343) (.node (ob9 "_serialize_to" 543 "AtKeywordToken._serialize_to" 544 545 99 2 255 256 257 258 259 548 549) (.node (ob13 513) .nil .nil) .nil) (.node (ob19 385) (.node ob7 .nil .nil) .nil)) (.node ob0 (.node { cls := .type "dict",data := .dict #[{ hash := PyData.keyHash P (oS "__module__"),key := .str (oS "__module__") 614,val := .str (oS "tinycss2.ast") 234 },{ hash := PyData.keyHash P (oS "__firstlineno__"),key := .str (oS "__firstlineno__") 618,val := .int 112 617 },{ hash := PyData.keyHash P (oS "__slots__"),key := .str (oS "__slots__") 621,val := .ref 307 },{ hash := PyData.keyHash P (oS "type"),key := .str (oS "type") 623,val := .str (oS "string") 622 },{ hash := PyData.keyHash P (oS "__init__"),key := .str (oS "__init__") 634,val := .ref 314 },{ hash := PyData.keyHash P (oS "_serialize_to"),key := .str (oS "_serialize_to") 642,val := .ref 321 },{ hash := PyData.keyHash P (oS "__static_attributes__"),key := .str (oS "__static_attributes__") 645,val := .ref 322 },{ hash := PyData.keyHash P (oS "representation"),key := .str (oS "representation") 647,val := .ref 326 },{ hash := PyData.keyHash P (oS "value"),key := .str (oS "value") 649,val := .ref 327 },{ hash := PyData.keyHash P (oS "__doc__"),key := .str (oS "__doc__") 650,val := .none }] 4 } (.node (ob10 "FunctionBlock" 1044 1045 1046 219 578 579 1047 1048) .nil .nil) .nil) (.node (ob19 447) (.node ob7 .nil .nil) .nil))) (.node (ob1 "_serialize_to" "ParseError._serialize_to" 9 3 99) (.node (ob8 "value" 408 163 2) (.node (ob4 "tuple" "is_identifier" 597 "value" 598) (.node { cls := .type "dict",data := .dict #[{ hash := PyData.keyHash P (oS "__module__"),key := .str (oS "__module__") 1008,val := .str (oS "tinycss2.ast") 234 },{ hash := PyData.keyHash P (oS "__qualname__"),key := .str (oS "__qualname__") 1010,val := .str (oS "CurlyBracketsBlock") 1009 },{ hash := PyData.keyHash P (oS "__firstlineno__"),key := .str (oS "__firstlineno__") 1012,val := .int 209 1011 },{ hash := PyData.keyHash P (oS "__slots__"),key := .str (oS "__slots__") 1014,val := .ref 553 },{ hash := PyData.keyHash P (oS "type"),key := .str (oS "type") 1016,val := .str (oS "{} block") 1015 },{ hash := PyData.keyHash P (oS "__init__"),key := .str (oS "__init__") 1026,val := .ref 560 },{ hash := PyData.keyHash P (oS "_serialize_to"),key := .str (oS "_serialize_to") 1034,val := .ref 567 },{ hash := PyData.keyHash P (oS "__static_attributes__"),key := .str (oS "__static_attributes__") 1036,val := .ref 568 }] 8 } .nil .nil) .nil) (.node (ob19 415) (.node (ob9 "_consume_unicode_range" 1228 "_consume_unicode_range" 1229 1230 553 2 671 672 673 674 675 1239 1240) .nil .nil) .nil)) (.node ob0 (.node (ob8 "representation" 692 355 3) (.node (ob9 "_number_end" 1105 "_number_end" 1106 1107 236 2 607 608 609 610 611 1114 1115) .nil .nil) .nil) (.node (ob8 "unit" 912 479 3) (.node (ob9 "_law_read" 1319 "_law_read" 1320 1321 625 1 735 736 737 738 739 1326 1327) .nil .nil) .nil)))) (.node (ob18 "tuple" "self" 254 "source_line" 255 "source_column" 256) (.node (ob10 "ParseError" 287 288 289 26 82 83 290 291) (.node (ob12 "tuple" "self" 391 "line" 392 "column" 393 "value" 394) (.node (ob22 275 272 "tinycss2.ast" 234) (.node ob0 .nil .nil) .nil) (.node (ob1 "__init__" "NumberToken.__init__" 19 2 403) (.node ob0 .nil .nil) .nil)) (.node { cls := .type "dict",data := .dict #[{ hash := PyData.keyHash P (oS "__module__"),key := .str (oS "__module__") 478,val := .str (oS "tinycss2.ast") 234 },{ hash := PyData.keyHash P (oS "__qualname__"),key := .str (oS "__qualname__") 480,val := .str (oS "IdentToken") 479 },{ hash := PyData.keyHash P (oS "__firstlineno__"),key := .str (oS "__firstlineno__") 482,val := .int 73 481 },{ hash := PyData.keyHash P (oS "__slots__"),key := .str (oS "__slots__") 485,val := .ref 217 },{ hash := PyData.keyHash P (oS "type"),key := .str (oS "type") 487,val := .str (oS "ident") 486 },{ hash := PyData.keyHash P (oS "__init__"),key := .str (oS "__init__") 497,val := .ref 224 },{ hash := PyData.keyHash P (oS "_serialize_to"),key := .str (oS "_serialize_to") 505,val := .ref 231 },{ hash := PyData.keyHash P (oS "__static_attributes__"),key := .str (oS "__static_attributes__") 508,val := .ref 232 }] 8 } (.node (ob24 "self" 673 "line" 674 "column" 675 "value" 676 "representation" 677) (.node (ob1 "_serialize_to" "FunctionBlock._serialize_to" 25 3 595) .nil .nil) .nil) (.node (ob1 "__init__" "DimensionToken.__init__" 21 2 467) (.node ob0 .nil .nil) .nil))) (.node (ob14 "list" "value" 343) (.node (ob9 "__init__" 429 "LiteralToken.__init__" 430 431 61 4 175 176 177 178 179 436 437) (.node ob0 (.node ob0 .nil .nil) .nil) (.node (ob1 "__init__" "PercentageToken.__init__" 20 2 435) (.node (ob17 "_law_HEX" 41 "law_qv0003_07" 1242 691) .nil .nil) .nil)) (.node (ob20 91 253 99 260) (.node (ob5 "__init__" "UnicodeRangeToken.__init__" 18 2) (.node { cls := .type "function",data := .func { name := oS "parse_component_value_list",qualname := oS "parse_component_value_list",params := (dTop 30).1,body := .stmts (dTop 30).2.1,scope := (dTop 30).2.2,globals := 3,closure := [],defaults := .ref 621,kwdefaults := .none,pyModule := .str (oS "tinycss2.tokenizer") 1092,code := .ref 627 } } .nil .nil) .nil) (.node (ob5 "__init__" "ParenthesesBlock.__init__" 22 2) .nil .nil))))) (.node ob0 (.node { cls := .type "dict",data := .dict #[{ hash := PyData.keyHash P (oS "__module__"),key := .str (oS "__module__") 243,val := .str (oS "tinycss2.ast") 234 },{ hash := PyData.keyHash P (oS "__qualname__"),key := .str (oS "__qualname__") 245,val := .str (oS "Node") 244 },{ hash := PyData.keyHash P (oS "__firstlineno__"),key := .str (oS "__firstlineno__") 247,val := .int 14 246 },{ hash := PyData.keyHash P (oS "__slots__"),key := .str (oS "__slots__") 250,val := .ref 49 },{ hash := PyData.keyHash P (oS "__init__"),key := .str (oS "__init__") 259,val := .ref 56 },{ hash := PyData.keyHash P (oS "serialize"),key := .str (oS "serialize") 266,val := .ref 63 },{ hash := PyData.keyHash P (oS "_serialize_to"),key := .str (oS "_serialize_to") 274,val := .ref 70 },{ hash := PyData.keyHash P (oS "__static_attributes__"),key := .str (oS "__static_attributes__") 277,val := .ref 71 }] 8 } (.node (ob8 "source_line" 280 74 0) (.node { cls := .type "dict",data := .dict #[{ hash := PyData.keyHash P (oS "__module__"),key := .str (oS "__module__") 379,val := .str (oS "tinycss2.ast") 234 },{ hash := PyData.keyHash P (oS "__qualname__"),key := .str (oS "__qualname__") 381,val := .str (oS "WhitespaceToken") 380 },{ hash := PyData.keyHash P (oS "__firstlineno__"),key := .str (oS "__firstlineno__") 383,val := .int 47 382 },{ hash := PyData.keyHash P (oS "__slots__"),key := .str (oS "__slots__") 385,val := .ref 145 },{ hash := PyData.keyHash P (oS "type"),key := .str (oS "type") 387,val := .str (oS "whitespace") 386 },{ hash := PyData.keyHash P (oS "__init__"),key := .str (oS "__init__") 397,val := .ref 152 },{ hash := PyData.keyHash P (oS "_serialize_to"),key := .str (oS "_serialize_to") 405,val := .ref 159 },{ hash := PyData.keyHash P (oS "__static_attributes__"),key := .str (oS "__static_attributes__") 407,val := .ref 160 }] 8 } (.node (ob19 265) (.node (ob14 "list" "content" 972) .nil .nil) .nil) (.node (ob22 395 392 "tinycss2.ast" 234) (.node { cls := .type "tuple",data := .seq #[.str (oS "css") 1193,.str (oS "pos") 1194,.str (oS "error") 1195,.str (oS "quote") 1196,.str (oS "chunks") 1197,.str (oS "length") 1198,.str (oS "start_pos") 1199,.str (oS "c") 1200] } .nil .nil) .nil)) (.node (ob2 "value" 425) (.node { cls := .type "dict",data := .dict #[{ hash := PyData.keyHash P (oS "__module__"),key := .str (oS "__module__") 660,val := .str (oS "tinycss2.ast") 234 },{ hash := PyData.keyHash P (oS "__qualname__"),key := .str (oS "__qualname__") 662,val := .str (oS "URLToken") 661 },{ hash := PyData.keyHash P (oS "__firstlineno__"),key := .str (oS "__firstlineno__") 664,val := .int 123 663 },{ hash := PyData.keyHash P (oS "__slots__"),key := .str (oS "__slots__") 667,val := .ref 337 },{ hash := PyData.keyHash P (oS "type"),key := .str (oS "type") 669,val := .str (oS "url") 668 },{ hash := PyData.keyHash P (oS "__init__"),key := .str (oS "__init__") 680,val := .ref 344 },{ hash := PyData.keyHash P (oS "_serialize_to"),key := .str (oS "_serialize_to") 688,val := .ref 351 },{ hash := PyData.keyHash P (oS "__static_attributes__"),key := .str (oS "__static_attributes__") 691,val := .ref 352 }] 8 } (.node (ob9 "__init__" 1060 "FunctionBlock.__init__" 1061 1062 223 5 583 584 585 586 587 1068 1069) .nil .nil) .nil) (.node (ob22 459 456 "tinycss2.ast" 234) (.node { cls := .type "tuple",data := .seq #[.str (oS "way") 1287,.str (oS "rest") 1288,.str (oS "figures") 1289,.str (oS "code") 1290,.str (oS "value") 1291,.str (oS "behind") 1292,.str (oS "blank") 1293,.str (oS "signs") 1294,.str (oS "_") 1295] } .nil .nil) .nil))) (.node (ob13 104) (.node (ob10 "LiteralToken" 415 416 417 57 170 171 418 419) (.node ob6 (.node (ob12 "tuple" "self" 1020 "line" 1021 "column" 1022 "content" 1023) .nil .nil) .nil) (.node (ob22 427 424 "tinycss2.ast" 234) (.node (ob17 "_law_ENDS" 39 "law_qv0003_07" 1242 683) .nil .nil) .nil)) (.node (ob8 "lower_value" 509 235 3) (.node (ob20 138 373 143 380) (.node (ob17 "_hex_end" 29 "tinycss2.tokenizer" 1092 619) .nil .nil) .nil) (.node (ob20 193 501 197 508) .nil .nil)))) (.node ob0 (.node (ob9 "__init__" 302 "ParseError.__init__" 303 304 30 5 87 88 89 90 91 310 311) (.node ob0 (.node (ob1 "__init__" "HashToken.__init__" 15 2 283) (.node (ob2 "content" 972) .nil .nil) .nil) (.node (ob12 "tuple" "int_value" 784 "is_integer" 785 "representation" 786 "value" 787) (.node (ob15 "_consume_url" 36) .nil .nil) .nil)) (.node (ob12 "tuple" "self" 491 "line" 492 "column" 493 "value" 494) (.node ob0 (.node (ob19 600) .nil .nil) .nil) (.node (ob23 "tuple" "int_value" 897 "is_integer" 898 "lower_unit" 899 "representation" 900 "unit" 901 "value" 902) (.node (ob15 "_law_places" 47) .nil .nil) .nil))) (.node ob0 (.node (ob1 "__eq__" "LiteralToken.__eq__" 12 3 187) (.node ob7 (.node (ob8 "content" 1037 571 2) .nil .nil) .nil) (.node (ob12 "tuple" "int_value" 839 "is_integer" 840 "representation" 841 "value" 842) (.node ob0 .nil .nil) .nil)) (.node (ob5 "__init__" "AtKeywordToken.__init__" 14 2) (.node (ob9 "_serialize_to" 727 "UnicodeRangeToken._serialize_to" 728 729 143 2 375 376 377 378 379 732 733) (.node ob0 .nil .nil) .nil) (.node (ob9 "_serialize_to" 945 "ParenthesesBlock._serialize_to" 946 947 197 2 503 504 505 506 507 950 951) .nil .nil))))))) (.node (boot_o_6 P) (.node (boot_o_10 P) (.node ob0 (.node (ob17 "serialize_string_value" 5 "tinycss2.serializer" 202 33) (.node (ob4 "tuple" "self" 270 "write" 271) (.node (ob1 "_serialize_to" "Comment._serialize_to" 10 3 129) (.node ob0 (.node (ob8 "content" 955 513 2) .nil .nil) .nil) (.node (ob8 "end" 738 385 3) (.node (ob17 "_is_ident_start" 32 "tinycss2.tokenizer" 1092 641) .nil .nil) .nil)) (.node (ob9 "__ne__" 447 "LiteralToken.__ne__" 448 449 68 2 189 190 191 192 193 452 453) (.node (ob4 "tuple" "representation" 643 "value" 644) (.node ob0 .nil .nil) .nil) (.node (ob8 "representation" 848 447 3) (.node (ob17 "_law_ESCAPED" 43 "law_qv0003_07" 1242 705) .nil .nil) .nil))) (.node (ob5 "_serialize_to" "ParseError._serialize_to" 9 3) (.node { cls := .type "dict",data := .dict #[{ hash := PyData.keyHash P (oS "__module__"),key := .str (oS "__module__") 379,val := .str (oS "tinycss2.ast") 234 },{ hash := PyData.keyHash P (oS "__firstlineno__"),key := .str (oS "__firstlineno__") 383,val := .int 47 382 },{ hash := PyData.keyHash P (oS "__slots__"),key := .str (oS "__slots__") 385,val := .ref 145 },{ hash := PyData.keyHash P (oS "type"),key := .str (oS "type") 387,val := .str (oS "whitespace") 386 },{ hash := PyData.keyHash P (oS "__init__"),key := .str (oS "__init__") 397,val := .ref 152 },{ hash := PyData.keyHash P (oS "_serialize_to"),key := .str (oS "_serialize_to") 405,val := .ref 159 },{ hash := PyData.keyHash P (oS "__static_attributes__"),key := .str (oS "__static_attributes__") 407,val := .ref 160 },{ hash := PyData.keyHash P (oS "value"),key := .str (oS "value") 409,val := .ref 164 },{ hash := PyData.keyHash P (oS "__doc__"),key := .str (oS "__doc__") 410,val := .none }] 3 } (.node (ob9 "_serialize_to" 589 "HashToken._serialize_to" 590 591 110 2 285 286 287 288 289 594 595) (.node ob6 .nil .nil) .nil) (.node (ob8 "representation" 793 415 3) (.node ob0 .nil .nil) .nil)) (.node ob7 (.node { cls := .type "dict",data := .dict #[{ hash := PyData.keyHash P (oS "__module__"),key := .str (oS "__module__") 660,val := .str (oS "tinycss2.ast") 234 },{ hash := PyData.keyHash P (oS "__firstlineno__"),key := .str (oS "__firstlineno__") 664,val := .int 123 663 },{ hash := PyData.keyHash P (oS "__slots__"),key := .str (oS "__slots__") 667,val := .ref 337 },{ hash := PyData.keyHash P (oS "type"),key := .str (oS "type") 669,val := .str (oS "url") 668 },{ hash := PyData.keyHash P (oS "__init__"),key := .str (oS "__init__") 680,val := .ref 344 },{ hash := PyData.keyHash P (oS "_serialize_to"),key := .str (oS "_serialize_to") 688,val := .ref 351 },{ hash := PyData.keyHash P (oS "__static_attributes__"),key := .str (oS "__static_attributes__") 691,val := .ref 352 },{ hash := PyData.keyHash P (oS "representation"),key := .str (oS "representation") 693,val := .ref 356 },{ hash := PyData.keyHash P (oS "value"),key := .str (oS "value") 695,val := .ref 357 },{ hash := PyData.keyHash P (oS "__doc__"),key := .str (oS "__doc__") 696,val := .none }] 4 } (.node ob0 .nil .nil) .nil) (.node (ob8 "lower_unit" 908 479 5) (.node ob0 .nil .nil) .nil)))) (.node ob0 (.node ob0 (.node ob0 (.node (ob20 105 283 110 290) (.node (ob9 "__init__" 976 "SquareBracketsBlock.__init__" 977 978 203 4 525 526 527 528 529 983 984) .nil .nil) .nil) (.node (ob5 "__init__" "NumberToken.__init__" 19 2) (.node ob7 .nil .nil) .nil)) (.node ob6 (.node ob0 (.node (ob5 "_serialize_to" "FunctionBlock._serialize_to" 25 3) .nil .nil) .nil) (.node (ob5 "__init__" "DimensionToken.__init__" 21 2) (.node ob7 .nil .nil) .nil))) (.node (ob10 "Comment" 333 334 335 37 112 113 336 337) (.node ob0 (.node (ob22 305 302 "tinycss2.ast" 234) (.node ob7 .nil .nil) .nil) (.node (ob5 "__init__" "PercentageToken.__init__" 20 2) (.node (ob15 "_law_HEX" 41) .nil .nil) .nil)) (.node { cls := .type "dict",data := .dict #[{ hash := PyData.keyHash P (oS "__module__"),key := .str (oS "__module__") 523,val := .str (oS "tinycss2.ast") 234 },{ hash := PyData.keyHash P (oS "__qualname__"),key := .str (oS "__qualname__") 525,val := .str (oS "AtKeywordToken") 524 },{ hash := PyData.keyHash P (oS "__firstlineno__"),key := .str (oS "__firstlineno__") 527,val := .int 87 526 },{ hash := PyData.keyHash P (oS "__slots__"),key := .str (oS "__slots__") 530,val := .ref 247 },{ hash := PyData.keyHash P (oS "type"),key := .str (oS "type") 532,val := .str (oS "at-keyword") 531 },{ hash := PyData.keyHash P (oS "__init__"),key := .str (oS "__init__") 542,val := .ref 254 },{ hash := PyData.keyHash P (oS "_serialize_to"),key := .str (oS "_serialize_to") 550,val := .ref 261 },{ hash := PyData.keyHash P (oS "__static_attributes__"),key := .str (oS "__static_attributes__") 553,val := .ref 262 }] 8 } (.node (ob24 "self" 719 "line" 720 "column" 721 "start" 722 "end" 723) (.node (ob15 "parse_component_value_list" 30) .nil .nil) .nil) (.node (ob12 "tuple" "self" 938 "line" 939 "column" 940 "content" 941) .nil .nil))))) (.node (ob17 "ascii_lower" 2 "tinycss2.ast" 194 25) (.node ob0 (.node { cls := .type "type",data := .cls { name := oS "Node",bases := [.type "object"],mro := [.ref 74,.type "object"],ns := 73,qualname := oS "Node",hasDict := false,slotNames := [oS "source_column",oS "source_line"],subclasses := [.ref 104,.ref 134,.ref 163,.ref 206,.ref 235,.ref 265,.ref 295,.ref 325,.ref 355,.ref 385,.ref 415,.ref 447,.ref 479,.ref 513,.ref 542,.ref 571,.ref 600] },slots := #[none,none,some (.str (oS "Node") 236),some (.str (oS "Node") 244),some (.builtin "object.__new__"),some (.bool false)] } (.node ob6 (.node (ob8 "lower_value" 554 265 3) (.node (ob10 "SquareBracketsBlock" 962 963 964 199 520 521 965 966) .nil .nil) .nil) (.node (ob20 149 403 156 410) (.node ob0 .nil .nil) .nil)) (.node (ob1 "_serialize_to" "LiteralToken._serialize_to" 12 5 201) (.node ob6 (.node ob0 .nil .nil) .nil) (.node (ob20 175 467 187 474) (.node ob0 .nil .nil) .nil))) (.node (ob8 "message" 326 104 2) (.node ob0 (.node (ob19 295) (.node ob0 .nil .nil) .nil) (.node (ob20 162 435 169 442) (.node (ob15 "_law_ENDS" 39) .nil .nil) .nil)) (.node { cls := .type "dict",data := .dict #[{ hash := PyData.keyHash P (oS "__module__"),key := .str (oS "__module__") 478,val := .str (oS "tinycss2.ast") 234 },{ hash := PyData.keyHash P (oS "__firstlineno__"),key := .str (oS "__firstlineno__") 482,val := .int 73 481 },{ hash := PyData.keyHash P (oS "__slots__"),key := .str (oS "__slots__") 485,val := .ref 217 },{ hash := PyData.keyHash P (oS "type"),key := .str (oS "type") 487,val := .str (oS "ident") 486 },{ hash := PyData.keyHash P (oS "__init__"),key := .str (oS "__init__") 497,val := .ref 224 },{ hash := PyData.keyHash P (oS "_serialize_to"),key := .str (oS "_serialize_to") 505,val := .ref 231 },{ hash := PyData.keyHash P (oS "__static_attributes__"),key := .str (oS "__static_attributes__") 508,val := .ref 232 },{ hash := PyData.keyHash P (oS "lower_value"),key := .str (oS "lower_value") 510,val := .ref 236 },{ hash := PyData.keyHash P (oS "value"),key := .str (oS "value") 512,val := .ref 237 },{ hash := PyData.keyHash P (oS "__doc__"),key := .str (oS "__doc__") 513,val := .none }] 4 } (.node { cls := .type "dict",data := .dict #[{ hash := PyData.keyHash P (oS "__module__"),key := .str (oS "__module__") 706,val := .str (oS "tinycss2.ast") 234 },{ hash := PyData.keyHash P (oS "__qualname__"),key := .str (oS "__qualname__") 708,val := .str (oS "UnicodeRangeToken") 707 },{ hash := PyData.keyHash P (oS "__firstlineno__"),key := .str (oS "__firstlineno__") 710,val := .int 134 709 },{ hash := PyData.keyHash P (oS "__slots__"),key := .str (oS "__slots__") 713,val := .ref 367 },{ hash := PyData.keyHash P (oS "type"),key := .str (oS "type") 715,val := .str (oS "unicode-range") 714 },{ hash := PyData.keyHash P (oS "__init__"),key := .str (oS "__init__") 726,val := .ref 374 },{ hash := PyData.keyHash P (oS "_serialize_to"),key := .str (oS "_serialize_to") 734,val := .ref 381 },{ hash := PyData.keyHash P (oS "__static_attributes__"),key := .str (oS "__static_attributes__") 737,val := .ref 382 }] 8 } (.node (ob15 "_hex_end" 29) .nil .nil) .nil) (.node { cls := .type "dict",data := .dict #[{ hash := PyData.keyHash P (oS "__module__"),key := .str (oS "__module__") 926,val := .str (oS "tinycss2.ast") 234 },{ hash := PyData.keyHash P (oS "__qualname__"),key := .str (oS "__qualname__") 928,val := .str (oS "ParenthesesBlock") 927 },{ hash := PyData.keyHash P (oS "__firstlineno__"),key := .str (oS "__firstlineno__") 930,val := .int 189 929 },{ hash := PyData.keyHash P (oS "__slots__"),key := .str (oS "__slots__") 932,val := .ref 495 },{ hash := PyData.keyHash P (oS "type"),key := .str (oS "type") 934,val := .str (oS "() block") 933 },{ hash := PyData.keyHash P (oS "__init__"),key := .str (oS "__init__") 944,val := .ref 502 },{ hash := PyData.keyHash P (oS "_serialize_to"),key := .str (oS "_serialize_to") 952,val := .ref 509 },{ hash := PyData.keyHash P (oS "__static_attributes__"),key := .str (oS "__static_attributes__") 954,val := .ref 510 }] 8 } (.node (ob17 "law" 49 "law_qv0003_07" 1242 745) .nil .nil) .nil)))) (.node ob7 (.node ob0 (.node ob7 (.node (ob5 "__init__" "HashToken.__init__" 15 2) (.node (ob1 "_serialize_to" "SquareBracketsBlock._serialize_to" 23 3 537) .nil .nil) .nil) (.node (ob9 "_serialize_to" 776 "NumberToken._serialize_to" 777 778 156 2 405 406 407 408 409 781 782) (.node { cls := .type "tuple",data := .seq #[.str (oS "css") 1217,.str (oS "pos") 1218,.str (oS "error") 1219,.str (oS "length") 1220,.str (oS "c") 1221,.str (oS "value") 1222,.str (oS "chunks") 1223,.str (oS "start_pos") 1224] } .nil .nil) .nil)) (.node ob0 (.node ob7 (.node (ob8 "lower_name" 1085 600 3) .nil .nil) .nil) (.node (ob9 "_serialize_to" 889 "DimensionToken._serialize_to" 890 891 187 2 469 470 471 472 473 894 895) (.node (ob24 "signs" 1311 "places" 1312 "line" 1313 "column" 1314 "sign" 1315) .nil .nil) .nil))) (.node (ob9 "__init__" 347 "Comment.__init__" 348 349 41 4 117 118 119 120 121 354 355) (.node (ob5 "__eq__" "LiteralToken.__eq__" 12 3) (.node (ob1 "__init__" "StringToken.__init__" 16 2 313) (.node { cls := .type "dict",data := .dict #[{ hash := PyData.keyHash P (oS "__module__"),key := .str (oS "__module__") 1008,val := .str (oS "tinycss2.ast") 234 },{ hash := PyData.keyHash P (oS "__firstlineno__"),key := .str (oS "__firstlineno__") 1012,val := .int 209 1011 },{ hash := PyData.keyHash P (oS "__slots__"),key := .str (oS "__slots__") 1014,val := .ref 553 },{ hash := PyData.keyHash P (oS "type"),key := .str (oS "type") 1016,val := .str (oS "{} block") 1015 },{ hash := PyData.keyHash P (oS "__init__"),key := .str (oS "__init__") 1026,val := .ref 560 },{ hash := PyData.keyHash P (oS "_serialize_to"),key := .str (oS "_serialize_to") 1034,val := .ref 567 },{ hash := PyData.keyHash P (oS "__static_attributes__"),key := .str (oS "__static_attributes__") 1036,val := .ref 568 },{ hash := PyData.keyHash P (oS "content"),key := .str (oS "content") 1038,val := .ref 572 },{ hash := PyData.keyHash P (oS "__doc__"),key := .str (oS "__doc__") 1039,val := .none }] 3 } .nil .nil) .nil) (.node (ob9 "_serialize_to" 831 "PercentageToken._serialize_to" 832 833 169 2 437 438 439 440 441 836 837) (.node (ob9 "_law_PLAIN" 1263 "_law_PLAIN" 1264 1265 583 0 693 694 695 696 697 1266 1267) .nil .nil) .nil)) (.node (ob12 "tuple" "self" 536 "line" 537 "column" 538 "value" 539) (.node ob0 (.node (ob9 "_is_name_start" 1161 "_is_name_start" 1162 1163 424 2 629 630 631 632 633 1167 1168) .nil .nil) .nil) (.node ob0 .nil .nil)))))) (.node (ob22 13 3 "__main__" 164) (.node ob0 (.node ob0 (.node (ob1 "_serialize_to" "Node._serialize_to" 8 3 69) (.node (ob21 "Comment" 134 133 "value" 109 331 339) (.node (ob4 "tuple" "lower_value" 551 "value" 552) (.node ob11 .nil .nil) .nil) (.node ob6 (.node ob0 .nil .nil) .nil)) (.node (ob4 "tuple" "self" 458 "write" 459) (.node (ob8 "representation" 646 325 3) (.node (ob18 "list" "arguments" 1054 "lower_name" 1055 "name" 1056) .nil .nil) .nil) (.node ob6 (.node ob0 .nil .nil) .nil))) (.node (ob3 "kind" 297 "message" 298) (.node (ob13 163) (.node { cls := .type "dict",data := .dict #[{ hash := PyData.keyHash P (oS "__module__"),key := .str (oS "__module__") 568,val := .str (oS "tinycss2.ast") 234 },{ hash := PyData.keyHash P (oS "__firstlineno__"),key := .str (oS "__firstlineno__") 572,val := .int 101 571 },{ hash := PyData.keyHash P (oS "__slots__"),key := .str (oS "__slots__") 575,val := .ref 277 },{ hash := PyData.keyHash P (oS "type"),key := .str (oS "type") 577,val := .str (oS "hash") 576 },{ hash := PyData.keyHash P (oS "__init__"),key := .str (oS "__init__") 588,val := .ref 284 },{ hash := PyData.keyHash P (oS "_serialize_to"),key := .str (oS "_serialize_to") 596,val := .ref 291 },{ hash := PyData.keyHash P (oS "__static_attributes__"),key := .str (oS "__static_attributes__") 599,val := .ref 292 },{ hash := PyData.keyHash P (oS "is_identifier"),key := .str (oS "is_identifier") 601,val := .ref 296 },{ hash := PyData.keyHash P (oS "value"),key := .str (oS "value") 603,val := .ref 297 },{ hash := PyData.keyHash P (oS "__doc__"),key := .str (oS "__doc__") 604,val := .none }] 4 } (.node (ob20 213 559 217 566) .nil .nil) .nil) (.node ob6 (.node ob0 .nil .nil) .nil)) (.node (ob9 "_serialize_to" 498 "IdentToken._serialize_to" 499 500 85 2 225 226 227 228 229 503 504) (.node (ob19 355) (.node ob0 .nil .nil) .nil) (.node (ob19 479) (.node ob0 .nil .nil) .nil)))) (.node (ob5 "__init__" "Node.__init__" 8 1) (.node (ob4 "list" "kind" 297 "message" 298) (.node (ob5 "__init__" "WhitespaceToken.__init__" 11 2) (.node ob0 (.node (ob4 "tuple" "self" 989 "write" 990) .nil .nil) .nil) (.node ob7 (.node (ob9 "_consume_escape" 1204 "_consume_escape" 1205 1206 485 2 657 658 659 660 661 1211 1212) .nil .nil) .nil)) (.node (ob20 77 223 85 230) (.node (ob5 "__init__" "URLToken.__init__" 17 2) (.node { cls := .type "list",data := .seq #[.str (oS "arguments") 1054,.str (oS "lower_name") 1055,.str (oS "name") 1056] 1 } .nil .nil) .nil) (.node ob7 (.node (ob9 "_law_entries" 1299 "_law_entries" 1300 1301 608 3 721 722 723 724 725 1305 1306) .nil .nil) .nil))) (.node ob7 (.node ob0 (.node (ob24 "self" 627 "line" 628 "column" 629 "value" 630 "representation" 631) (.node (ob9 "_serialize_to" 1027 "CurlyBracketsBlock._serialize_to" 1028 1029 217 2 561 562 563 564 565 1032 1033) .nil .nil) .nil) (.node ob7 (.node ob7 .nil .nil) .nil)) (.node (ob22 245 242 "tinycss2.ast" 234) (.node (ob1 "__init__" "UnicodeRangeToken.__init__" 18 2 373) (.node ob7 .nil .nil) .nil) (.node (ob1 "__init__" "ParenthesesBlock.__init__" 22 2 501) .nil .nil))))) (.node (ob14 "tuple" "value" 223) (.node { cls := .none,data := .fields #[.int 17 0,.int 4 0,.ref 55,.int 21 0,.int 4 0,.ref 62,.int 24 0,.int 4 0,.ref 69] } (.node (ob13 74) (.node (ob20 51 151 55 158) (.node ob6 (.node ob7 .nil .nil) .nil) (.node ob0 (.node (ob15 "_consume_quoted_string" 34) .nil .nil) .nil)) (.node (ob21 "LiteralToken" 206 205 "value" 167 413 421) (.node (ob20 127 343 132 350) (.node ob0 .nil .nil) .nil) (.node ob0 (.node (ob15 "_law_hex" 45) .nil .nil) .nil))) (.node ob11 (.node (ob14 "list" "value" 425) (.node { cls := .type "dict",data := .dict #[{ hash := PyData.keyHash P (oS "__module__"),key := .str (oS "__module__") 614,val := .str (oS "tinycss2.ast") 234 },{ hash := PyData.keyHash P (oS "__qualname__"),key := .str (oS "__qualname__") 616,val := .str (oS "StringToken") 615 },{ hash := PyData.keyHash P (oS "__firstlineno__"),key := .str (oS "__firstlineno__") 618,val := .int 112 617 },{ hash := PyData.keyHash P (oS "__slots__"),key := .str (oS "__slots__") 621,val := .ref 307 },{ hash := PyData.keyHash P (oS "type"),key := .str (oS "type") 623,val := .str (oS "string") 622 },{ hash := PyData.keyHash P (oS "__init__"),key := .str (oS "__init__") 634,val := .ref 314 },{ hash := PyData.keyHash P (oS "_serialize_to"),key := .str (oS "_serialize_to") 642,val := .ref 321 },{ hash := PyData.keyHash P (oS "__static_attributes__"),key := .str (oS "__static_attributes__") 645,val := .ref 322 }] 8 } (.node (ob5 "__init__" "CurlyBracketsBlock.__init__" 24 2) .nil .nil) .nil) (.node ob0 (.node ob0 .nil .nil) .nil)) (.node (ob19 235) (.node (ob22 365 362 "tinycss2.ast" 234) (.node ob0 .nil .nil) .nil) (.node (ob22 493 490 "tinycss2.ast" 234) .nil .nil)))) (.node (ob9 "serialize" 260 "Node.serialize" 261 262 21 1 57 58 59 60 61 264 265) (.node ob0 (.node (ob9 "_serialize_to" 398 "WhitespaceToken._serialize_to" 399 400 55 2 153 154 155 156 157 403 404) (.node ob7 (.node (ob21 "SquareBracketsBlock" 542 541 "content" 517 960 968) .nil .nil) .nil) (.node { cls := .type "dict",data := .dict #[{ hash := PyData.keyHash P (oS "__module__"),key := .str (oS "__module__") 752,val := .str (oS "tinycss2.ast") 234 },{ hash := PyData.keyHash P (oS "__firstlineno__"),key := .str (oS "__firstlineno__") 756,val := .int 145 755 },{ hash := PyData.keyHash P (oS "__slots__"),key := .str (oS "__slots__") 761,val := .ref 397 },{ hash := PyData.keyHash P (oS "type"),key := .str (oS "type") 763,val := .str (oS "number") 762 },{ hash := PyData.keyHash P (oS "__init__"),key := .str (oS "__init__") 775,val := .ref 404 },{ hash := PyData.keyHash P (oS "_serialize_to"),key := .str (oS "_serialize_to") 783,val := .ref 411 },{ hash := PyData.keyHash P (oS "__static_attributes__"),key := .str (oS "__static_attributes__") 788,val := .ref 412 },{ hash := PyData.keyHash P (oS "int_value"),key := .str (oS "int_value") 790,val := .ref 416 },{ hash := PyData.keyHash P (oS "is_integer"),key := .str (oS "is_integer") 792,val := .ref 417 },{ hash := PyData.keyHash P (oS "representation"),key := .str (oS "representation") 794,val := .ref 418 },{ hash := PyData.keyHash P (oS "value"),key := .str (oS "value") 796,val := .ref 419 },{ hash := PyData.keyHash P (oS "__doc__"),key := .str (oS "__doc__") 797,val := .none }] 6 } (.node (ob17 "_consume_url" 36 "tinycss2.tokenizer" 1092 669) .nil .nil) .nil)) (.node (ob5 "__init__" "IdentToken.__init__" 13 2) (.node (ob9 "_serialize_to" 681 "URLToken._serialize_to" 682 683 132 2 345 346 347 348 349 686 687) (.node { cls := .type "tuple",data := .seq #[.str (oS "0") 1094,.str (oS "1") 1095,.str (oS "2") 1096,.str (oS "3") 1097,.str (oS "4") 1098,.str (oS "5") 1099,.str (oS "6") 1100,.str (oS "7") 1101,.str (oS "8") 1102,.str (oS "9") 1103] } .nil .nil) .nil) (.node { cls := .type "dict",data := .dict #[{ hash := PyData.keyHash P (oS "__module__"),key := .str (oS "__module__") 862,val := .str (oS "tinycss2.ast") 234 },{ hash := PyData.keyHash P (oS "__firstlineno__"),key := .str (oS "__firstlineno__") 866,val := .int 171 865 },{ hash := PyData.keyHash P (oS "__slots__"),key := .str (oS "__slots__") 873,val := .ref 461 },{ hash := PyData.keyHash P (oS "type"),key := .str (oS "type") 875,val := .str (oS "dimension") 874 },{ hash := PyData.keyHash P (oS "__init__"),key := .str (oS "__init__") 888,val := .ref 468 },{ hash := PyData.keyHash P (oS "_serialize_to"),key := .str (oS "_serialize_to") 896,val := .ref 475 },{ hash := PyData.keyHash P (oS "__static_attributes__"),key := .str (oS "__static_attributes__") 903,val := .ref 476 },{ hash := PyData.keyHash P (oS "int_value"),key := .str (oS "int_value") 905,val := .ref 480 },{ hash := PyData.keyHash P (oS "is_integer"),key := .str (oS "is_integer") 907,val := .ref 481 },{ hash := PyData.keyHash P (oS "lower_unit"),key := .str (oS "lower_unit") 909,val := .ref 482 },{ hash := PyData.keyHash P (oS "representation"),key := .str (oS "representation") 911,val := .ref 483 },{ hash := PyData.keyHash P (oS "unit"),key := .str (oS "unit") 913,val := .ref 484 },{ hash := PyData.keyHash P (oS "value"),key := .str (oS "value") 915,val := .ref 485 },{ hash := PyData.keyHash P (oS "__doc__"),key := .str (oS "__doc__") 916,val := .none }] 8 } (.node (ob17 "_law_places" 47 "law_qv0003_07" 1242 733) .nil .nil) .nil))) (.node (ob4 "tuple" "self" 360 "write" 361) (.node ob7 (.node ob0 (.node (ob13 571) .nil .nil) .nil) (.node { cls := .type "dict",data := .dict #[{ hash := PyData.keyHash P (oS "__module__"),key := .str (oS "__module__") 807,val := .str (oS "tinycss2.ast") 234 },{ hash := PyData.keyHash P (oS "__firstlineno__"),key := .str (oS "__firstlineno__") 811,val := .int 158 810 },{ hash := PyData.keyHash P (oS "__slots__"),key := .str (oS "__slots__") 816,val := .ref 429 },{ hash := PyData.keyHash P (oS "type"),key := .str (oS "type") 818,val := .str (oS "percentage") 817 },{ hash := PyData.keyHash P (oS "__init__"),key := .str (oS "__init__") 830,val := .ref 436 },{ hash := PyData.keyHash P (oS "_serialize_to"),key := .str (oS "_serialize_to") 838,val := .ref 443 },{ hash := PyData.keyHash P (oS "__static_attributes__"),key := .str (oS "__static_attributes__") 843,val := .ref 444 },{ hash := PyData.keyHash P (oS "int_value"),key := .str (oS "int_value") 845,val := .ref 448 },{ hash := PyData.keyHash P (oS "is_integer"),key := .str (oS "is_integer") 847,val := .ref 449 },{ hash := PyData.keyHash P (oS "representation"),key := .str (oS "representation") 849,val := .ref 450 },{ hash := PyData.keyHash P (oS "value"),key := .str (oS "value") 851,val := .ref 451 },{ hash := PyData.keyHash P (oS "__doc__"),key := .str (oS "__doc__") 852,val := .none }] 6 } (.node ob0 .nil .nil) .nil)) (.node (ob1 "__init__" "AtKeywordToken.__init__" 14 2 253) (.node (ob4 "tuple" "end" 735 "start" 736) (.node (ob4 "tuple" "css" 1173 "pos" 1174) .nil .nil) .nil) (.node (ob14 "tuple" "content" 953) .nil .nil)))))))))
end
section
set_option maxRecDepth 100000
set_option maxHeartbeats 0
noncomputable def hLast : Pos := { line := 635,col := 0,endLine := 677,endCol := 72 }
noncomputable def hStateE (P : Params) (os : OsState) : SharedT := { tree := treeE P,n := 747,life := {},gens := #[],drawn := {},toks := 1335,os := os }
noncomputable def RunIs (w : World) : Prop := (fun os => PySem.W.Fast.tw10110043849684766642 PySem.W.Fast.tw14364793385576792824 PW w 11 (some (Value.ref 6)) 1 14000 (hStart w.params os) (piecesOf (behindTheImports PW) hEnv hCode hPos [hFrame])) = fun os => some (Flow.next,hStateE w.params os,hCode,hLast)
theorem hrun_f (w : World) : RunIs (w.withFollow "special-get-raises" false) := by unfold RunIs; kernel_rfl
theorem hrun_t (w : World) : RunIs (w.withFollow "special-get-raises" true) := by unfold RunIs; kernel_rfl
theorem hrun_all (w : World) : RunIs w := byRow2 "special-get-raises" hrun_f hrun_t w
end
section
abbrev P : Program := PySem.Challenge.pw_qv0003_07

inductive V where
  | undef | none | bool (b : Bool) | int (i : Int) | str (s : List Nat)
  | tup (xs : List V) | lst (xs : List V) | dct (es : List (List Nat × V))
  | inst (c : Nat) (fs : List V)
  | own (i : Nat) | fn (i : Nat) | cls (i : Nat) | raw (v : Value)
  | rng (a b c : Int)
  deriving Inhabited
end
section
noncomputable def gn (s : String) (v : V) : Str × V := (oS s,v)
noncomputable def topTab : List (Str × V) := [
  gn "_replacement_string_value" (.dct [([34],.str [92,34]),([92],.str [92,92]),([10],.str [92,65,32]),([13],.str [92,68,32]),([12],.str [92,67,32])]),
  gn "_DIGITS" (.tup [.str [48],.str [49],.str [50],.str [51],.str [52],.str [53],.str [54],.str [55],.str [56],.str [57]]),
  gn "ascii_lower" (.fn 2),
  gn "serialize_string_value" (.fn 5),
  gn "serialize_url" (.fn 6),
  gn "Node" (.cls 8),
  gn "ParseError" (.cls 9),
  gn "Comment" (.cls 10),
  gn "WhitespaceToken" (.cls 11),
  gn "LiteralToken" (.cls 12),
  gn "IdentToken" (.cls 13),
  gn "AtKeywordToken" (.cls 14),
  gn "HashToken" (.cls 15),
  gn "StringToken" (.cls 16),
  gn "URLToken" (.cls 17),
  gn "UnicodeRangeToken" (.cls 18),
  gn "NumberToken" (.cls 19),
  gn "PercentageToken" (.cls 20),
  gn "DimensionToken" (.cls 21),
  gn "ParenthesesBlock" (.cls 22),
  gn "SquareBracketsBlock" (.cls 23),
  gn "CurlyBracketsBlock" (.cls 24),
  gn "FunctionBlock" (.cls 25),
  gn "_number_end" (.fn 28),
  gn "_hex_end" (.fn 29),
  gn "parse_component_value_list" (.fn 30),
  gn "_is_name_start" (.fn 31),
  gn "_is_ident_start" (.fn 32),
  gn "_consume_ident" (.fn 33),
  gn "_consume_quoted_string" (.fn 34),
  gn "_consume_escape" (.fn 35),
  gn "_consume_url" (.fn 36),
  gn "_consume_unicode_range" (.fn 37),
  gn "len" (.raw (.builtin "len")),gn "ord" (.raw (.builtin "ord")),gn "chr" (.raw (.builtin "chr")),gn "min" (.raw (.builtin "min")),gn "int" (.raw (.type "int")),gn "range" (.raw (.type "range")),gn "all" (.raw (.builtin "all")),gn "sum" (.raw (.builtin "sum"))]
noncomputable def lawTab : List (Str × V) := [
  gn "_law_ENDS" (.fn 39),
  gn "_law_BLANKS" (.lst [.str [32],.str [9],.str [10],.str [13,10],.str [13],.str [12]]),
  gn "_law_HEX" (.fn 41),
  gn "_law_PLAIN" (.fn 42),
  gn "_law_ESCAPED" (.fn 43),
  gn "_law_line_end" (.fn 44),
  gn "_law_hex" (.fn 45),
  gn "_law_entries" (.fn 46),
  gn "_law_places" (.fn 47),
  gn "_law_read" (.fn 48)]
noncomputable def globTab : List (Str × V) := topTab ++ lawTab
end
section
abbrev Base := Addr → Option Obj
noncomputable def Sub (B B' : Base) : Prop := ∀ a o,B a = some o → B' a = some o
theorem Sub.refl (B : Base) : Sub B B := fun _ _ e => e
theorem Sub.trans {B B' B'' : Base} (x : Sub B B') (y : Sub B' B'') : Sub B B'' := fun a o e => y a o (x a o e)

structure Cx where
  w : World
  K : Frag
  b0 : Base
  mg : Str → Option Value
  mb : Str → Option Value
  os : OsState
  tc : Nat → Addr
  tk : Nat := 0

noncomputable def initIn : List Stmt → Option (Arguments × List Stmt × Scope)
  | .FunctionDef _ args body _ _ _ scope _ _ _ :: _ => some (args,body,scope)
  | _ :: r => initIn r
  | [] => none
noncomputable def fnAt (i : Nat) : Option (Str × Str × Arguments × List Stmt × Scope) :=
  if i < 1000 then
    match P.main.body[i]? with
    | some (.FunctionDef name args body _ _ _ scope _ _ _) => some (name,name,args,body,scope)
    | _ => none
  else
    match P.main.body[i - 1000]? with
    | some (.ClassDef cname _ _ body _ _ _ _ _ _ _) => (initIn body).map fun p => (oS "__init__",cname ++ oS ".__init__",p.1,p.2.1,p.2.2)
    | _ => none
noncomputable def clsName (i : Nat) : Option Str := match P.main.body[i]? with
  | some (.ClassDef name _ _ _ _ _ _ _ _ _ _) => some name
  | _ => none

inductive IsFn (C : Cx) (i : Nat) (f : Addr) : Prop where
  | mk (name qual : Str) (params : Arguments) (body : List Stmt) (scope : Scope) (dV doc pm cdv ct oc : Value) (an od : Option Addr) (osl : Array (Option Value))
    (h1 : fnAt i = some (name,qual,params,body,scope)) (h2 : C.b0 f = some ⟨oc,od,.func (fnOf name qual params body scope dV .none doc pm an cdv ct),osl⟩)
    (h3 : ∀ h : Heap,Sub C.b0 h.get? → h.CodeRec cdv qual) (h4 : params.defaults.isEmpty = true → dV = .none) (h5 : params.defaults.isEmpty = false → ∃ T o n,dV = .ref T ∧ C.b0 T = some o ∧ o.data = .seq #[.bool false] n) (h6 : (i = 5 ∨ i = 6) → cdv = .ref (C.tc i))
noncomputable def IsCls (C : Cx) (i : Nat) (c : Addr) : Prop := ∃ name,clsName i = some name ∧ C.mg name = some (.ref c)

inductive AObj where
  | gone | list (xs : List V) | tab (c : Addr) | raw (o : Obj) | inst (c : Nat) (fs : List V)
  deriving Inhabited

mutual
noncomputable def Rel (C : Cx) (B : Base) (σ : List Addr) : V → Value → Prop
  | .undef,_ => True
  | .none,v => v = .none
  | .bool b,v => v = .bool b
  | .int i,v => ∃ t,v = .int i t
  | .str l,v => ∃ s t,v = .str s t ∧ s.cps.toList = l
  | .tup xs,v => ∃ a items n,v = .ref a ∧ B a = some { cls := .type "tuple",data := .seq items n } ∧ RelL C B σ xs items.toList
  | .lst xs,v => ∃ a items n,v = .ref a ∧ B a = some { cls := .type "list",data := .seq items n } ∧ RelL C B σ xs items.toList
  | .dct es,v => ∃ a items n,v = .ref a ∧ (a == sysModules) = false ∧ B a = some { cls := .type "dict",data := .dict items n } ∧ RelD C B σ es items.toList
  | .inst c fs,v => ∃ a o ca dx od,v = .ref a ∧ IsCls C c ca ∧ B a = some o ∧ o.cls = .ref ca ∧ o.dict = some dx ∧ o.data = .plain ∧ B dx = some od ∧ RelS C B σ fs o.slots.toList
  | .own i,v => ∃ a,v = .ref a ∧ σ[i]? = some a
  | .fn i,v => ∃ f,v = .ref f ∧ IsFn C i f
  | .cls i,v => ∃ c,v = .ref c ∧ IsCls C i c
  | .raw x,v => v = x
  | .rng a b c,v => ∃ r t u w,v = .ref r ∧ B r = some { cls := .type "range",data := .fields #[.int a t,.int b u,.int c w] }
noncomputable def RelL (C : Cx) (B : Base) (σ : List Addr) : List V → List Value → Prop
  | [],vs => vs = []
  | x :: xs,vs => ∃ v r,vs = v :: r ∧ Rel C B σ x v ∧ RelL C B σ xs r
noncomputable def RelS (C : Cx) (B : Base) (σ : List Addr) : List V → List (Option Value) → Prop
  | [],_ => True
  | x :: xs,vs => (x = .undef ∨ ∃ v,vs.head?.join = some v ∧ Rel C B σ x v) ∧ RelS C B σ xs vs.tail
noncomputable def RelD (C : Cx) (B : Base) (σ : List Addr) : List (List Nat × V) → List DictEntry → Prop
  | [],vs => vs = []
  | (k,x) :: xs,vs => ∃ e r,vs = e :: r ∧ (∃ s t,e.key = .str s t ∧ s.cps.toList = k ∧ e.hash = PyData.keyHash C.w.params s) ∧ Rel C B σ x e.val ∧ RelD C B σ xs r
end

section
variable {C : Cx} {B B' : Base} {σ σ' : List Addr}
mutual
theorem Rel.mono (hB : Sub B B') (hσ : σ <+: σ') : ∀ {x : V} {v : Value},Rel C B σ x v → Rel C B' σ' x v
  | .undef,_,h => h
  | .none,_,h => h
  | .bool _,_,h => h
  | .int _,_,h => h
  | .str _,_,h => h
  | .tup xs,v,h => by
    simp only [Rel] at h ⊢
    obtain ⟨a,items,n,h1,h2,h5⟩ := h
    exact ⟨a,items,n,h1,hB _ _ h2,RelL.mono hB hσ h5⟩
  | .lst xs,v,h => by
    simp only [Rel] at h ⊢
    obtain ⟨a,items,n,h1,h2,h5⟩ := h
    exact ⟨a,items,n,h1,hB _ _ h2,RelL.mono hB hσ h5⟩
  | .dct es,v,h => by
    simp only [Rel] at h ⊢
    obtain ⟨a,items,n,h1,h0,h2,h5⟩ := h
    exact ⟨a,items,n,h1,h0,hB _ _ h2,RelD.mono hB hσ h5⟩
  | .inst c fs,v,h => by
    simp only [Rel] at h ⊢
    obtain ⟨a,o,ca,dx,od,h1,h2,h3,h4,h5,h6,h7,h8⟩ := h
    exact ⟨a,o,ca,dx,od,h1,h2,hB _ _ h3,h4,h5,h6,hB _ _ h7,RelS.mono hB hσ h8⟩
  | .own i,v,h => by
    simp only [Rel] at h ⊢
    obtain ⟨a,h1,h2⟩ := h
    obtain ⟨r,rfl⟩ := hσ
    refine ⟨a,h1,?_⟩
    rw [List.getElem?_append_left (List.getElem?_eq_some_iff.mp h2).1]; exact h2
  | .fn _,_,h => h
  | .cls _,_,h => h
  | .raw _,_,h => h
  | .rng _ _ _,v,h => by
    simp only [Rel] at h ⊢
    obtain ⟨r,t,u,w,h1,h2⟩ := h
    exact ⟨r,t,u,w,h1,hB _ _ h2⟩
theorem RelL.mono (hB : Sub B B') (hσ : σ <+: σ') : ∀ {xs : List V} {vs : List Value},RelL C B σ xs vs → RelL C B' σ' xs vs
  | [],_,h => h
  | x :: xs,vs,h => by
    simp only [RelL] at h ⊢
    obtain ⟨v,r,h1,h2,h3⟩ := h
    exact ⟨v,r,h1,Rel.mono hB hσ h2,RelL.mono hB hσ h3⟩
theorem RelS.mono (hB : Sub B B') (hσ : σ <+: σ') : ∀ {xs : List V} {vs : List (Option Value)},RelS C B σ xs vs → RelS C B' σ' xs vs
  | [],_,h => h
  | x :: xs,vs,h => by
    simp only [RelS] at h ⊢
    obtain ⟨h1,h3⟩ := h
    exact ⟨h1.imp id fun ⟨v,h4,h2⟩ => ⟨v,h4,Rel.mono hB hσ h2⟩,RelS.mono hB hσ h3⟩
theorem RelD.mono (hB : Sub B B') (hσ : σ <+: σ') : ∀ {xs : List (List Nat × V)} {vs : List DictEntry},RelD C B σ xs vs → RelD C B' σ' xs vs
  | [],_,h => h
  | (k,x) :: xs,vs,h => by
    simp only [RelD] at h ⊢
    obtain ⟨v,r,h1,h4,h2,h3⟩ := h
    exact ⟨v,r,h1,h4,Rel.mono hB hσ h2,RelD.mono hB hσ h3⟩
end
end

noncomputable def AR (C : Cx) (B : Base) (σ : List Addr) (h : Heap) (a : Addr) : AObj → Prop
  | .gone => True
  | .list xs => ∃ items n,h.get? a = some { cls := .type "list",data := .seq items n } ∧ RelL C B σ xs items.toList
  | .tab c => (∃ o,B c = some o) ∧ ∃ ps,h.IsCode c a ps ∧ h.TableAt c a ps
  | .raw o => h.get? a = some o
  | .inst c fs => ∃ o ca dx od,h.get? a = some o ∧ IsCls C c ca ∧ o.cls = .ref ca ∧ o.dict = some dx ∧ o.data = .plain ∧ B dx = some od ∧ RelS C B σ fs o.slots.toList
noncomputable def AObj.live : AObj → Prop
  | .gone => False
  | _ => True

noncomputable def GlobIs (C : Cx) (x : Str) (v : V) : Prop := ∃ val,(C.mg x = some val ∨ (C.mg x = none ∧ C.mb x = some val)) ∧ ∀ (B : Base) (σ : List Addr),Sub C.b0 B → Rel C B σ v val

noncomputable def slotTab : Nat → List String
  | 8 => ["source_column","source_line"]
  | 9 => ["kind","message","source_column","source_line"]
  | 10 | 11 | 12 => ["value","source_column","source_line"]
  | 13 | 14 => ["lower_value","value","source_column","source_line"]
  | 15 => ["is_identifier","value","source_column","source_line"]
  | 16 | 17 => ["representation","value","source_column","source_line"]
  | 18 => ["end","start","source_column","source_line"]
  | 19 | 20 => ["int_value","is_integer","representation","value","source_column","source_line"]
  | 21 => ["int_value","is_integer","lower_unit","representation","unit","value","source_column","source_line"]
  | 22 | 23 | 24 => ["content","source_column","source_line"]
  | 25 => ["arguments","lower_name","name","source_column","source_line"]
  | _ => []
noncomputable def typeTab : Nat → String
  | 9 => "error" | 10 => "comment" | 11 => "whitespace" | 12 => "literal" | 13 => "ident" | 14 => "at-keyword" | 15 => "hash" | 16 => "string" | 17 => "url" | 18 => "unicode-range"
  | 19 => "number" | 20 => "percentage" | 21 => "dimension" | 22 => "() block" | 23 => "[] block" | 24 => "{} block" | 25 => "function" | _ => ""
structure SlotOk (K : Frag) (c p : Addr) (k : Nat) (name : Str) : Prop where
  find : findIn K (.ref c) name = some (some (.ref p))
  get : specialIn K (.ref p) "__get__" = some (some (.builtin "member_descriptor.__get__"))
  takes : takesIn K (.ref p) = some true
  slot : slotIn K p c = some k
  typ : typeIn K (.ref p) = some (.type "member_descriptor")
structure ClsOk (C : Cx) (i : Nat) (c : Addr) : Prop where
  makes : makesIn C.K c = true
  init : ∃ fI,findIn C.K (.ref c) "__init__" = some (some (.ref fI)) ∧ typeIn C.K (.ref fI) = some (.type "function") ∧ IsFn C (1000 + i) fI
  over : plainOver C.K c = true
  setat : findIn C.K (.ref c) "__setattr__" = some (some (.builtin "object.__setattr__"))
  get : plainGet C.K c Str.empty = true
  isc : isClsIn C.K c = true
  slot : ∀ (k : Nat) (name : String),(slotTab i)[k]? = some name → ∃ p,SlotOk C.K c p k (oS name)
  initv : readsIn C.K c (.type "type") = true ∧ specialIn C.K (.ref c) "__getattribute__" = some (some (.builtin "type.__getattribute__")) ∧ ∃ fI,findCls C.K (.ref c) (.type "type") "__init__" = some (.val (.ref fI)) ∧ IsFn C (1000 + i) fI
  typ : i = 8 ∨ ((clsIn C.K c).any fun cd => !cd.hasDict) = true ∧ ∃ t,findIn C.K (.ref c) "type" = some (some (.str (oS (typeTab i)) t))

structure Cx.Ok (C : Cx) : Prop where
  mkd : ∀ i c,IsCls C i c → ClsOk C i c
  cls : ∀ i c,IsCls C i c → keepIn C.K (.ref c) = true
  tab : ∀ x v,(x,v) ∈ globTab → GlobIs C x v
  g : ∀ h : Heap,Sub C.b0 h.get? → h.Ns mainGlobals C.mg
  b : ∀ h : Heap,Sub C.b0 h.get? → h.Ns builtinsNs C.mb
  lim : ∀ h : Heap,Sub C.b0 h.get? → h.NoLimit
  K : ∀ h : Heap,Sub C.b0 h.get? → C.K.In h
  sm : ∀ h : Heap,Sub C.b0 h.get? → sysModules < h.objs.size
  bm : ∃ (bm : Addr) (ob : Obj),C.mg ("__builtins__" : Str) = some (.ref bm) ∧ bm ≠ builtinsNs ∧ C.b0 bm = some ob ∧ ob.cls = .type "module" ∧ ob.dict = some builtinsNs ∧ ob.data = .plain

structure G (C : Cx) (kp B : Base) (σ : List Addr) (hp : List AObj) (s : Shared) : Prop where
  ok : C.Ok
  bh : Sub B s.heap.get?
  b0 : Sub C.b0 B
  kh : ∀ a o,kp a = some o → s.heap.get? a = some o ∧ B a = none
  len : σ.length = hp.length
  own : ∀ (i : Nat) (a : Addr) (ao : AObj),σ[i]? = some a → hp[i]? = some ao → ao.live → kp a = none ∧ B a = none ∧ (∃ o,s.heap.get? a = some o) ∧ AR C B σ s.heap a ao
  inj : ∀ (i j : Nat) (a : Addr) (ai aj : AObj),σ[i]? = some a → σ[j]? = some a → hp[i]? = some ai → hp[j]? = some aj → ai.live → aj.live → i = j
  gens : AllBare s.gens
  os : s.os = C.os
  tk : C.tk ≤ s.toks

structure St where
  vars : List (Str × V)
  hp : List AObj

noncomputable def privs (e : Env) : List Addr := e.locals :: e.cells.map (·.2)

structure L (C : Cx) (kp B : Base) (σ : List Addr) (e : Env) (st : St) (s : Shared) : Prop where
  fn : e.scope.kind = .function
  glob : e.globals = mainGlobals
  bi : e.builtins = builtinsNs
  nodup : (st.vars.map (·.1)).Nodup
  ns : ∃ m,s.heap.Ns e.locals m ∧ ∀ x v,(x,v) ∈ st.vars → e.kindOf x = some .local → (v = .undef ∨ ∃ val,m x = some val ∧ Rel C B σ v val)
  kinds : ∀ x v,(x,v) ∈ st.vars → (e.kindOf x = some .local ∨ e.kindOf x = some .cell) ∧ (x == ("__debug__" : Str)) = false
  cells : ∀ x v,(x,v) ∈ st.vars → e.kindOf x = some .cell → ∃ c o ov,e.cells.lookup x = some c ∧ s.heap.get? c = some o ∧ o.data = .cell ov ∧ (v = .undef ∨ ∃ val,ov = some val ∧ Rel C B σ v val)
  priv : ∀ a ∈ privs e,kp a = none ∧ B a = none ∧ ∀ (i : Nat) (ao : AObj),σ[i]? = some a → st.hp[i]? = some ao → ¬ ao.live
  apart : (privs e).Nodup
  alive : ∀ a ∈ privs e,∃ o,s.heap.get? a = some o

structure S (C : Cx) (kp B : Base) (σ : List Addr) (e : Env) (st : St) (s : Shared) : Prop where
  g : G C kp B σ st.hp s
  l : L C kp B σ e st s

noncomputable def AOk (d : Nat) (A : Around) : Prop := A.handled = none ∧ A.depth + d ≤ 990 ∧ A.units + 8 * d ≤ 9800

inductive Post (C : Cx) (kp B : Base) (σ : List Addr) (e : Env) {α β : Type} (rel : Base → List Addr → β → α → Prop) (Q : β → St → Prop) (v : α) (s' : Shared) : Prop where
  | mk (B' : Base) (σ' : List Addr) (b : β) (st' : St) (hB : Sub B B') (hσ : σ <+: σ') (hS : S C kp B' σ' e st' s') (hr : rel B' σ' b v) (hq : Q b st')

noncomputable def T (C : Cx) (d : Nat) (e : Env) {α β : Type} (rel : Base → List Addr → β → α → Prop) (t : Sem α) (st : St) (Q : β → St → Prop) : Prop :=
  ∀ A kp B σ s,AOk d A → S C kp B σ e st s → wpAny (model P C.w) A t (Post C kp B σ e rel Q) (fun _ _ => False) s

inductive AF where
  | next | brk | cont | ret (v : V)
noncomputable def RelF (C : Cx) (B : Base) (σ : List Addr) : AF → Flow → Prop
  | .next,f => f = .next
  | .brk,f => f = .brk
  | .cont,f => f = .cont
  | .ret v,f => ∃ x,f = .ret x ∧ Rel C B σ v x
noncomputable def RelE {α : Type} (_ : Base) (_ : List Addr) (b a : α) : Prop := a = b

abbrev TV (C : Cx) (d : Nat) (e : Env) (t : Sem Value) (st : St) (Q : V → St → Prop) : Prop := T C d e (Rel C) t st Q
abbrev TB (C : Cx) (d : Nat) (e : Env) (t : Sem Bool) (st : St) (Q : Bool → St → Prop) : Prop := T C d e (RelE (α := Bool)) t st Q
abbrev TF (C : Cx) (d : Nat) (e : Env) (t : Sem Flow) (st : St) (Q : AF → St → Prop) : Prop := T C d e (RelF C) t st Q
abbrev TL (C : Cx) (d : Nat) (e : Env) (t : Sem (List Value)) (st : St) (Q : List V → St → Prop) : Prop := T C d e (RelL C) t st Q

inductive CPost (C : Cx) (kp B : Base) (σ : List Addr) (Q : V → List AObj → Prop) (r : Result) (s' : Shared) : Prop where
  | mk (v : Value) (B' : Base) (σ' : List Addr) (b : V) (hp' : List AObj) (h0 : r = .ok (.ret v)) (hB : Sub B B') (hσ : σ <+: σ') (hG : G C kp B' σ' hp' s') (hr : Rel C B' σ' b v) (hq : Q b hp')
noncomputable def Calls (C : Cx) (d : Nat) (f : V) (args : List V) (hp : List AObj) (Q : V → List AObj → Prop) : Prop :=
  ∀ A kp B σ s fv vals,AOk d A → G C kp B σ hp s → Rel C B σ f fv → RelL C B σ args vals →
    codeAny (model P C.w) A (.call fv ⟨vals,[]⟩) (CPost C kp B σ Q) s

section
variable {C : Cx} {d : Nat} {e : Env} {α β : Type} {rel : Base → List Addr → β → α → Prop} {kp B : Base} {σ : List Addr} {st : St} {s : Shared}

theorem Post.weaken {B₁ : Base} {σ₁ : List Addr} {Q : β → St → Prop} {v : α} {s' : Shared} (hB : Sub B B₁) (hσ : σ <+: σ₁) (h : Post C kp B₁ σ₁ e rel Q v s') : Post C kp B σ e rel Q v s' := by
  obtain ⟨B',σ',b,st',h1,h2,h3,h4,h5⟩ := h
  exact ⟨B',σ',b,st',hB.trans h1,hσ.trans h2,h3,h4,h5⟩
theorem Post.here {Q : β → St → Prop} {v : α} {b : β} (hS : S C kp B σ e st s) (hr : rel B σ b v) (hq : Q b st) : Post C kp B σ e rel Q v s :=
  ⟨B,σ,b,st,Sub.refl B,List.prefix_refl σ,hS,hr,hq⟩

theorem T.mono {t : Sem α} {Q Q' : β → St → Prop} (h : T C d e rel t st Q) (hQ : ∀ b st',Q b st' → Q' b st') : T C d e rel t st Q' :=
  fun A kp B σ s hA hS => wpAny_mono (h A kp B σ s hA hS) (fun v s' ⟨B',σ',b,st',h1,h2,h3,h4,h5⟩ => ⟨B',σ',b,st',h1,h2,h3,h4,hQ _ _ h5⟩) fun _ _ => id
theorem AOk.mono {d d' : Nat} {A : Around} (h : d ≤ d') (hA : AOk d' A) : AOk d A := ⟨hA.1,by have := hA.2.1; (first|lia -abstractProof|omega),by have := hA.2.2; (first|lia -abstractProof|omega)⟩
theorem Calls.lift {d d' : Nat} {f : V} {args : List V} {hp : List AObj} {Q : V → List AObj → Prop} (h : Calls C d f args hp Q) (hd : d ≤ d') : Calls C d' f args hp Q := fun A kp B σ s fv vals hA => h A kp B σ s fv vals (hA.mono hd)
theorem Calls.mono {f : V} {args : List V} {hp : List AObj} {Q Q' : V → List AObj → Prop} (h : Calls C d f args hp Q) (hQ : ∀ b hp',Q b hp' → Q' b hp') : Calls C d f args hp Q' :=
  fun A kp B σ s fv vals hA hG hf hv => codeAny_mono (h A kp B σ s fv vals hA hG hf hv) fun r s' ⟨v,B',σ',b,hp',h1,h2,h3,h4,h5,h6⟩ => ⟨v,B',σ',b,hp',h1,h2,h3,h4,h5,hQ _ _ h6⟩

end
end
section
section
variable {C : Cx} {kp B : Base} {σ : List Addr} {e : Env} {st : St} {s : Shared} {hp : List AObj}

theorem mem_of_lookup {α β : Type} [BEq α] [LawfulBEq α] {x : α} {y : β} : ∀ {l : List (α × β)},l.lookup x = some y → (x,y) ∈ l
  | (a,b) :: l,h => by
    rw [List.lookup_cons] at h
    split at h
    · rename_i q; cases h; rw [beq_iff_eq.mp q]; exact .head _
    · exact .tail _ (mem_of_lookup h)

structure Free (C : Cx) (kp B : Base) (σ : List Addr) (e : Env) (hp : List AObj) (a : Addr) : Prop where
  kp : kp a = none
  b : B a = none
  own : ∀ (i : Nat) (ao : AObj),σ[i]? = some a → hp[i]? = some ao → ¬ ao.live
  priv : a ∉ privs e

theorem get_none_size (h : Heap) : h.get? h.objs.size = none := by
  cases q : h.get? h.objs.size with
  | none => rfl
  | some o => exact absurd (Heap.lt_size q) (Nat.lt_irrefl _)

theorem AR.but {h h' : Heap} {x a : Addr} {ao : AObj} (k : ∀ b o,b ≠ x → h.get? b = some o → h'.get? b = some o) (hx : B x = none) (ha : a ≠ x) (hr : AR C B σ h a ao) : AR C B σ h' a ao := by
  cases ao with
  | gone => trivial
  | list xs => obtain ⟨items,n,h1,h2⟩ := hr; exact ⟨items,n,k _ _ ha h1,h2⟩
  | tab c =>
    obtain ⟨⟨o,hc⟩,ps,h1,h2⟩ := hr
    have hcx : c ≠ x := fun q => by rw [q,hx] at hc; cases hc
    exact ⟨⟨o,hc⟩,ps,h1.extBut (fun b o hb e => k b o hb e) hcx ha,h2.extBut (fun b o hb e => k b o hb e) hcx ha⟩
  | raw o => exact k _ _ ha hr
  | inst c fs => obtain ⟨o,ca,dx,od,h1,h2⟩ := hr; exact ⟨o,ca,dx,od,k _ _ ha h1,h2⟩
theorem AR.mono {B' : Base} {σ' : List Addr} {h : Heap} {a : Addr} {ao : AObj} (hB : Sub B B') (hσ : σ <+: σ') (hr : AR C B σ h a ao) : AR C B' σ' h a ao := by
  cases ao with
  | gone => trivial
  | list xs => obtain ⟨items,n,h1,h2⟩ := hr; exact ⟨items,n,h1,RelL.mono hB hσ h2⟩
  | tab c => obtain ⟨⟨o,hc⟩,r⟩ := hr; exact ⟨⟨o,hB _ _ hc⟩,r⟩
  | raw o => exact hr
  | inst c fs => obtain ⟨o,ca,dx,od,h1,h2,h3,h4,h5,h6,h7⟩ := hr; exact ⟨o,ca,dx,od,h1,h2,h3,h4,h5,hB _ _ h6,RelS.mono hB hσ h7⟩

theorem G.but {s' : Shared} {x : Addr} (hG : G C kp B σ hp s) (hkp : kp x = none) (hb : B x = none) (ho : ∀ (i : Nat) (ao : AObj),σ[i]? = some x → hp[i]? = some ao → ¬ ao.live)
    (k : ∀ b o,b ≠ x → s.heap.get? b = some o → s'.heap.get? b = some o) (hg : AllBare s'.gens) (hos : s'.os = s.os) (htk : s.toks ≤ s'.toks) : G C kp B σ hp s' where
  tk := Nat.le_trans hG.tk htk
  ok := hG.ok
  bh := fun a o ea => k a o (fun q => by rw [q,hb] at ea; cases ea) (hG.bh a o ea)
  b0 := hG.b0
  kh := fun a o ea => ⟨k a o (fun q => by rw [q,hkp] at ea; cases ea) (hG.kh a o ea).1,(hG.kh a o ea).2⟩
  len := hG.len
  own := fun i a ao h1 h2 h3 => by
    obtain ⟨g1,g2,⟨o,g3⟩,g4⟩ := hG.own i a ao h1 h2 h3
    have hax : a ≠ x := fun q => ho i ao (q ▸ h1) h2 h3
    exact ⟨g1,g2,⟨o,k a o hax g3⟩,g4.but k hb hax⟩
  inj := hG.inj
  gens := hg
  os := hos.trans hG.os
theorem L.but {s' : Shared} {x : Addr} (hL : L C kp B σ e st s) (hx : x ∉ privs e)
    (k : ∀ b o,b ≠ x → s.heap.get? b = some o → s'.heap.get? b = some o) : L C kp B σ e st s' where
  fn := hL.fn
  glob := hL.glob
  bi := hL.bi
  nodup := hL.nodup
  ns := by
    obtain ⟨m,hn,r⟩ := hL.ns
    exact ⟨m,hn.extBut (b := x) (fun b o hb e => k b o hb e) (fun q => hx (q ▸ List.mem_cons_self)),r⟩
  kinds := hL.kinds
  cells := fun y v hm hk => by
    obtain ⟨c,o,ov,h1,h2,h3⟩ := hL.cells y v hm hk
    refine ⟨c,o,ov,h1,k c o (fun q => hx ?_) h2,h3⟩
    rw [← q]
    exact List.mem_cons_of_mem _ (List.mem_map.mpr ⟨(y,c),mem_of_lookup h1,rfl⟩)
  priv := hL.priv
  apart := hL.apart
  alive := fun a ha => by obtain ⟨o,h⟩ := hL.alive a ha; exact ⟨o,k a o (fun q => hx (q ▸ ha)) h⟩
theorem S.but {s' : Shared} {x : Addr} (hS : S C kp B σ e st s) (F : Free C kp B σ e st.hp x)
    (k : ∀ b o,b ≠ x → s.heap.get? b = some o → s'.heap.get? b = some o) (hg : AllBare s'.gens) (hos : s'.os = s.os) (htk : s.toks ≤ s'.toks) : S C kp B σ e st s' :=
  ⟨hS.g.but F.kp F.b F.own k hg hos htk,hS.l.but F.priv k⟩
theorem Free.fresh (hS : S C kp B σ e st s) {a : Addr} (ha : s.heap.get? a = none) : Free C kp B σ e st.hp a where
  kp := by
    cases q : kp a with
    | none => rfl
    | some o => rw [(hS.g.kh a o q).1] at ha; cases ha
  b := by
    cases q : B a with
    | none => rfl
    | some o => rw [hS.g.bh a o q] at ha; cases ha
  own := fun i ao h1 h2 h3 => by obtain ⟨_,_,⟨o,g⟩,_⟩ := hS.g.own i a ao h1 h2 h3; rw [g] at ha; cases ha
  priv := fun q => by obtain ⟨o,g⟩ := hS.l.alive a q; rw [g] at ha; cases ha

theorem S.ext {s' : Shared} (hS : S C kp B σ e st s) (k : ∀ b o,s.heap.get? b = some o → s'.heap.get? b = some o) (hg : AllBare s'.gens) (hos : s'.os = s.os) (htk : s.toks ≤ s'.toks) : S C kp B σ e st s' :=
  hS.but (x := s.heap.objs.size) (Free.fresh hS (get_none_size _)) (fun b o _ h => k b o h) hg hos htk
theorem S.push (hS : S C kp B σ e st s) (o : Obj) (tk : Nat) (dr : Drawn) (htk : s.toks ≤ tk := by first | exact Nat.le_refl _ | exact Nat.le_succ _ | (first|lia -abstractProof|omega)) : S C kp B σ e st ⟨s.heap.push o,s.gens,dr,tk,s.os⟩ :=
  hS.ext (fun b o' h => Heap.get?_push_of_some _ h) hS.g.gens rfl htk
theorem S.toks (hS : S C kp B σ e st s) (tk : Nat) (dr : Drawn) (htk : s.toks ≤ tk := by first | exact Nat.le_refl _ | exact Nat.le_succ _ | (first|lia -abstractProof|omega)) : S C kp B σ e st ⟨s.heap,s.gens,dr,tk,s.os⟩ :=
  hS.ext (fun b o' h => h) hS.g.gens rfl htk

noncomputable def Base.put (B : Base) (a : Addr) (o : Obj) : Base := fun x => if x = a then some o else B x
theorem Base.put_self {B : Base} {a : Addr} {o : Obj} : B.put a o a = some o := by simp [Base.put]
theorem Base.put_sub {B : Base} {a : Addr} {o : Obj} (h : B a = none) : Sub B (B.put a o) := fun x o' e => by
  by_cases q : x = a
  · rw [q,h] at e; cases e
  · simp only [Base.put,if_neg q]; exact e

theorem G.freeze {s : Shared} {x : Addr} {o : Obj} (hG : G C kp B σ hp s) (hkp : kp x = none) (hb : B x = none) (ho : ∀ (i : Nat) (ao : AObj),σ[i]? = some x → hp[i]? = some ao → ¬ ao.live)
    (hx : s.heap.get? x = some o) : G C kp (B.put x o) σ hp s where
  tk := hG.tk
  ok := hG.ok
  bh := fun a o' ea => by
    by_cases q : a = x
    · subst q; rw [Base.put_self] at ea; cases ea; exact hx
    · simp only [Base.put,if_neg q] at ea; exact hG.bh a o' ea
  b0 := hG.b0.trans (Base.put_sub hb)
  kh := fun a o' ea => by
    have q : a ≠ x := fun q => by rw [q,hkp] at ea; cases ea
    exact ⟨(hG.kh a o' ea).1,by simp only [Base.put,if_neg q]; exact (hG.kh a o' ea).2⟩
  len := hG.len
  own := fun i a ao h1 h2 h3 => by
    obtain ⟨g1,g2,g3,g4⟩ := hG.own i a ao h1 h2 h3
    have q : a ≠ x := fun q => ho i ao (q ▸ h1) h2 h3
    exact ⟨g1,by simp only [Base.put,if_neg q]; exact g2,g3,g4.mono (Base.put_sub hb) (List.prefix_refl _)⟩
  inj := hG.inj
  gens := hG.gens
  os := hG.os
theorem L.mono {B' : Base} {σ' : List Addr} (hL : L C kp B σ e st s) (hB : Sub B B') (hσ : σ <+: σ')
    (hp' : ∀ a ∈ privs e,B' a = none ∧ ∀ (i : Nat) (ao : AObj),σ'[i]? = some a → st.hp[i]? = some ao → ¬ ao.live) : L C kp B' σ' e st s where
  fn := hL.fn
  glob := hL.glob
  bi := hL.bi
  nodup := hL.nodup
  ns := by
    obtain ⟨m,hn,r⟩ := hL.ns
    exact ⟨m,hn,fun x v h1 h2 => (r x v h1 h2).imp id fun ⟨val,h3,h4⟩ => ⟨val,h3,h4.mono hB hσ⟩⟩
  kinds := hL.kinds
  cells := fun x v h1 h2 => by
    obtain ⟨c,o,ov,h3,h4,h5,h6⟩ := hL.cells x v h1 h2
    exact ⟨c,o,ov,h3,h4,h5,h6.imp id fun ⟨val,h7,h8⟩ => ⟨val,h7,h8.mono hB hσ⟩⟩
  priv := fun a ha => ⟨(hL.priv a ha).1,hp' a ha⟩
  apart := hL.apart
  alive := hL.alive
theorem S.freeze {x : Addr} {o : Obj} (hS : S C kp B σ e st s) (F : Free C kp B σ e st.hp x) (hx : s.heap.get? x = some o) : S C kp (B.put x o) σ e st s :=
  ⟨hS.g.freeze F.kp F.b F.own hx,hS.l.mono (Base.put_sub F.b) (List.prefix_refl _) fun a ha => ⟨by
    have q : a ≠ x := fun q => F.priv (q ▸ ha)
    simp only [Base.put,if_neg q]; exact (hS.l.priv a ha).2.1,(hS.l.priv a ha).2.2⟩⟩
theorem S.alloc {o : Obj} (hS : S C kp B σ e st s) (hf : o.isFreed = false) (tk : Nat) (dr : Drawn) (htk : s.toks ≤ tk := by first | exact Nat.le_refl _ | exact Nat.le_succ _ | (first|lia -abstractProof|omega)) :
    Sub B (B.put s.heap.objs.size o) ∧ S C kp (B.put s.heap.objs.size o) σ e st ⟨s.heap.push o,s.gens,dr,tk,s.os⟩ := by
  have F := Free.fresh hS (get_none_size s.heap)
  exact ⟨Base.put_sub F.b,(hS.push o tk dr htk).freeze F (Heap.get?_push_size _ hf)⟩

theorem S.own {o : Obj} {ao : AObj} (hS : S C kp B σ e st s) (hf : o.isFreed = false) (hr : ∀ h : Heap,h.get? s.heap.objs.size = some o → AR C B (σ ++ [s.heap.objs.size]) h s.heap.objs.size ao) (tk : Nat) (dr : Drawn) (htk : s.toks ≤ tk := by first | exact Nat.le_refl _ | exact Nat.le_succ _ | (first|lia -abstractProof|omega)) :
    S C kp B (σ ++ [s.heap.objs.size]) e ⟨st.vars,st.hp ++ [ao]⟩ ⟨s.heap.push o,s.gens,dr,tk,s.os⟩ := by
  have F := Free.fresh hS (get_none_size s.heap)
  have hP := hS.push o tk dr htk
  have hlen := hS.g.len
  have hσ : σ <+: σ ++ [s.heap.objs.size] := List.prefix_append _ _
  have old : ∀ (i : Nat) (a : Addr) (ao' : AObj),(σ ++ [s.heap.objs.size])[i]? = some a → (st.hp ++ [ao])[i]? = some ao' → (σ[i]? = some a ∧ st.hp[i]? = some ao') ∨ (i = σ.length ∧ a = s.heap.objs.size ∧ ao' = ao) := by
    intro i a ao' h1 h2
    by_cases hi : i < σ.length
    · rw [List.getElem?_append_left hi] at h1
      rw [List.getElem?_append_left (hlen ▸ hi)] at h2
      exact .inl ⟨h1,h2⟩
    · have hi' : i = σ.length := by
        have := (List.getElem?_eq_some_iff.mp h1).1
        simp only [List.length_append,List.length_singleton] at this; (first|lia -abstractProof|omega)
      subst hi'
      rw [List.getElem?_append_right (Nat.le_refl _)] at h1
      rw [hlen,List.getElem?_append_right (Nat.le_refl _)] at h2
      simp only [Nat.sub_self,List.getElem?_cons_zero,Option.some.injEq] at h1 h2
      exact .inr ⟨rfl,h1.symm,h2.symm⟩
  refine ⟨⟨hP.g.ok,hP.g.bh,hP.g.b0,hP.g.kh,by simp [hlen],fun i a ao' h1 h2 h3 => ?_,fun i j a ai aj h1 h2 h3 h4 h5 h6 => ?_,hP.g.gens,hP.g.os,hP.g.tk⟩,?_⟩
  · rcases old i a ao' h1 h2 with ⟨g1,g2⟩ | ⟨rfl,rfl,rfl⟩
    · obtain ⟨k1,k2,k3,k4⟩ := hP.g.own i a ao' g1 g2 h3
      exact ⟨k1,k2,k3,k4.mono (Sub.refl _) hσ⟩
    · exact ⟨F.kp,F.b,⟨o,Heap.get?_push_size _ hf⟩,hr _ (Heap.get?_push_size _ hf)⟩
  · rcases old i a ai h1 h3 with ⟨g1,g2⟩ | ⟨rfl,rfl,rfl⟩
    · rcases old j a aj h2 h4 with ⟨g3,g4⟩ | ⟨rfl,rfl,rfl⟩
      · exact hP.g.inj i j a ai aj g1 g3 g2 g4 h5 h6
      · exact absurd h5 (F.own i ai g1 g2)
    · rcases old j _ aj h2 h4 with ⟨g3,g4⟩ | ⟨rfl,_,_⟩
      · exact absurd h6 (F.own j aj g3 g4)
      · rfl
  · have hL := hP.l
    refine ⟨hL.fn,hL.glob,hL.bi,hL.nodup,?_,hL.kinds,?_,?_,hL.apart,hL.alive⟩
    · obtain ⟨m,hn,r⟩ := hL.ns
      exact ⟨m,hn,fun x v h1 h2 => (r x v h1 h2).imp id fun ⟨val,h3,h4⟩ => ⟨val,h3,h4.mono (Sub.refl _) hσ⟩⟩
    · intro x v h1 h2
      obtain ⟨c,o,ov,h3,h4,h5,h6⟩ := hL.cells x v h1 h2
      exact ⟨c,o,ov,h3,h4,h5,h6.imp id fun ⟨val,h7,h8⟩ => ⟨val,h7,h8.mono (Sub.refl _) hσ⟩⟩
    · intro a ha
      obtain ⟨k1,k2,k3⟩ := hL.priv a ha
      refine ⟨k1,k2,fun i ao' h1 h2 => ?_⟩
      rcases old i a ao' h1 h2 with ⟨g1,g2⟩ | ⟨rfl,rfl,rfl⟩
      · exact k3 i ao' g1 g2
      · exact absurd ha F.priv

theorem S.change {i : Nat} {a : Addr} {ao ao' : AObj} {h' : Heap} (hS : S C kp B σ e st s) (hσ : σ[i]? = some a) (hi : st.hp[i]? = some ao) (hl : ao.live)
    (k : ∀ b o,b ≠ a → s.heap.get? b = some o → h'.get? b = some o) (hex : ∃ o,h'.get? a = some o) (hr : AR C B σ h' a ao') (tk : Nat) (dr : Drawn) (htk : s.toks ≤ tk := by first | exact Nat.le_refl _ | exact Nat.le_succ _ | (first|lia -abstractProof|omega)) :
    S C kp B σ e ⟨st.vars,st.hp.set i ao'⟩ ⟨h',s.gens,dr,tk,s.os⟩ := by
  obtain ⟨k1,k2,k3,k4⟩ := hS.g.own i a ao hσ hi hl
  have hsz : i < st.hp.length := (List.getElem?_eq_some_iff.mp hi).1
  have npr : a ∉ privs e := fun q => (hS.l.priv a q).2.2 i ao hσ hi hl
  have at_ : ∀ (j : Nat) (aj : AObj),(st.hp.set i ao')[j]? = some aj → (j = i ∧ aj = ao') ∨ (j ≠ i ∧ st.hp[j]? = some aj) := by
    intro j aj h
    by_cases q : j = i
    · subst q; rw [List.getElem?_set_self hsz] at h; cases h; exact .inl ⟨rfl,rfl⟩
    · rw [List.getElem?_set_ne (Ne.symm q)] at h; exact .inr ⟨q,h⟩
  refine ⟨⟨hS.g.ok,fun b o eb => k b o (fun q => by rw [q,k2] at eb; cases eb) (hS.g.bh b o eb),hS.g.b0,fun b o eb => ⟨k b o (fun q => by rw [q,k1] at eb; cases eb) (hS.g.kh b o eb).1,(hS.g.kh b o eb).2⟩,
    by rw [List.length_set]; exact hS.g.len,fun j b bo h1 h2 h3 => ?_,fun j1 j2 b b1 b2 h1 h2 h3 h4 h5 h6 => ?_,hS.g.gens,hS.g.os,Nat.le_trans hS.g.tk htk⟩,?_⟩
  · rcases at_ j bo h2 with ⟨rfl,rfl⟩ | ⟨q,h2⟩
    · rw [hσ] at h1; cases h1; exact ⟨k1,k2,hex,hr⟩
    · obtain ⟨g1,g2,⟨o,g3⟩,g4⟩ := hS.g.own j b bo h1 h2 h3
      have hb : b ≠ a := fun z => q (hS.g.inj j i a bo ao (z ▸ h1) hσ h2 hi h3 hl)
      exact ⟨g1,g2,⟨o,k b o hb g3⟩,g4.but k k2 hb⟩
  · rcases at_ j1 b1 h3 with ⟨q1,p1⟩ | ⟨q1,h3'⟩
    · rcases at_ j2 b2 h4 with ⟨q2,p2⟩ | ⟨q2,h4'⟩
      · rw [q1,q2]
      · rw [q1,hσ] at h1; cases h1
        rw [q1]
        exact hS.g.inj i j2 a ao b2 hσ h2 hi h4' hl h6
    · rcases at_ j2 b2 h4 with ⟨q2,p2⟩ | ⟨q2,h4'⟩
      · rw [q2,hσ] at h2; cases h2
        rw [q2]
        exact hS.g.inj j1 i a b1 ao h1 hσ h3' hi h5 hl
      · exact hS.g.inj j1 j2 b b1 b2 h1 h2 h3' h4' h5 h6
  · have hL := hS.l.but (s' := ⟨h',s.gens,dr,tk,s.os⟩) npr k
    refine ⟨hL.fn,hL.glob,hL.bi,hL.nodup,hL.ns,hL.kinds,hL.cells,fun b hb => ?_,hL.apart,hL.alive⟩
    obtain ⟨g1,g2,g3⟩ := hL.priv b hb
    refine ⟨g1,g2,fun j bo h1 h2 h3 => ?_⟩
    rcases at_ j bo h2 with ⟨rfl,rfl⟩ | ⟨q,h2⟩
    · rw [hσ] at h1; cases h1; exact npr hb
    · exact g3 j bo h1 h2 h3
end
end
section
inductive Upd (x : Str) (v : V) : List (Str × V) → List (Str × V) → Prop where
  | here {old : V} {r : List (Str × V)} : Upd x v ((x,old) :: r) ((x,v) :: r)
  | there {p : Str × V} {r r' : List (Str × V)} : Upd x v r r' → Upd x v (p :: r) (p :: r')

theorem Upd.keys {x : Str} {v : V} {l l' : List (Str × V)} (U : Upd x v l l') : l'.map (·.1) = l.map (·.1) := by
  induction U with
  | here => rfl
  | there _ ih => simp only [List.map_cons,ih]
theorem Upd.has {x : Str} {v : V} {l l' : List (Str × V)} (U : Upd x v l l') : ∃ old,(x,old) ∈ l := by
  induction U with
  | here => exact ⟨_,.head _⟩
  | there _ ih => exact ⟨ih.choose,.tail _ ih.choose_spec⟩
theorem Upd.mem {x : Str} {v : V} {l l' : List (Str × V)} (U : Upd x v l l') (hn : (l.map (·.1)).Nodup) : ∀ y u,(y,u) ∈ l' → (y = x ∧ u = v) ∨ (y ≠ x ∧ (y,u) ∈ l) := by
  induction U with
  | here =>
    intro y u h
    simp only [List.map_cons,List.nodup_cons] at hn
    rcases List.mem_cons.mp h with e | h
    · cases e; exact .inl ⟨rfl,rfl⟩
    · exact .inr ⟨fun q => hn.1 (q ▸ List.mem_map.mpr ⟨_,h,rfl⟩),.tail _ h⟩
  | @there p r r' U ih =>
    intro y u h
    simp only [List.map_cons,List.nodup_cons] at hn
    rcases List.mem_cons.mp h with e | h
    · obtain ⟨old,ho⟩ := U.has
      refine .inr ⟨fun q => hn.1 ?_,e ▸ .head _⟩
      rw [← e]; subst q; exact List.mem_map.mpr ⟨_,ho,rfl⟩
    · exact (ih hn.2 y u h).imp id fun ⟨a,b⟩ => ⟨a,.tail _ b⟩

section
variable {C : Cx} {kp B : Base} {σ : List Addr} {e : Env} {st : St} {s : Shared} {d : Nat}

theorem load_ok {A : Around} {x : Str} {v : V} (hS : S C kp B σ e st s) (hm : (x,v) ∈ st.vars) (hv : v ≠ .undef) {Q : Value → Shared → Prop} {E : Value → Shared → Prop}
    (h : ∀ val,Rel C B σ v val → Q val s) : wpAny (model P C.w) A (loadName e x) Q E s := by
  rcases (hS.l.kinds x v hm).1 with hk | hk
  · obtain ⟨m,hn,r⟩ := hS.l.ns
    rcases r x v hm hk with q | ⟨val,h1,h2⟩
    · exact absurd q hv
    · exact wpAny_loadName_local hS.l.fn hk hn h1 (h val h2)
  · obtain ⟨c,o,ov,h1,h2,h3,h4⟩ := hS.l.cells x v hm hk
    rcases h4 with q | ⟨val,rfl,h5⟩
    · exact absurd q hv
    · exact wpAny_loadName_cell hS.l.fn hk h1 ⟨o,h2,h3⟩ (h val h5)

theorem priv_own {i : Nat} {a : Addr} {ao : AObj} (hS : S C kp B σ e st s) (h1 : σ[i]? = some a) (h2 : st.hp[i]? = some ao) (h3 : ao.live) : a ∉ privs e :=
  fun q => (hS.l.priv a q).2.2 i ao h1 h2 h3

theorem store_ok {A : Around} {x : Str} {v : V} {val : Value} {vars' : List (Str × V)} (hS : S C kp B σ e st s) (hr : Rel C B σ v val) (U : Upd x v st.vars vars')
    {Q : Unit → Shared → Prop} {E : Value → Shared → Prop} (h : ∀ s',S C kp B σ e ⟨vars',st.hp⟩ s' → Q () s') : wpAny (model P C.w) A (storeName e x val) Q E s := by
  obtain ⟨old,ho⟩ := U.has
  have hnd := hS.l.nodup
  have hmem := U.mem hnd
  have kinds' : ∀ y u,(y,u) ∈ vars' → (e.kindOf y = some .local ∨ e.kindOf y = some .cell) ∧ (y == ("__debug__" : Str)) = false := fun y u hy => by
    rcases hmem y u hy with ⟨rfl,_⟩ | ⟨_,hy⟩
    · exact hS.l.kinds _ _ ho
    · exact hS.l.kinds _ _ hy
  have priv0 : ∀ a ∈ privs e,kp a = none ∧ B a = none ∧ ∀ (i : Nat) (ao : AObj),σ[i]? = some a → st.hp[i]? = some ao → ¬ ao.live := hS.l.priv
  -- the whole but one address of the frame's own
  have gb : ∀ (a : Addr) (s' : Shared),a ∈ privs e → (∀ b o,b ≠ a → s.heap.get? b = some o → s'.heap.get? b = some o) → AllBare s'.gens → s'.os = s.os → s.toks ≤ s'.toks → G C kp B σ st.hp s' :=
    fun a s' ha k hg hos ht => hS.g.but (priv0 a ha).1 (priv0 a ha).2.1 (priv0 a ha).2.2 k hg hos ht
  rcases (hS.l.kinds x old ho).1 with hk | hk
  · obtain ⟨m,hn,r⟩ := hS.l.ns
    refine wpAny_storeName_local hk hn (fun h' hn' hs' => h _ ⟨gb e.locals _ (List.mem_cons_self) (fun b o hb eb => (hs'.2 b hb).trans eb) hS.g.gens rfl (Nat.le_succ _),?_⟩) (by rw [hS.l.fn]; rfl)
    refine ⟨hS.l.fn,hS.l.glob,hS.l.bi,by rw [U.keys]; exact hnd,⟨_,hn',fun y u hy hky => ?_⟩,kinds',fun y u hy hky => ?_,hS.l.priv,hS.l.apart,fun a ha => ?_⟩
    · rcases hmem y u hy with ⟨rfl,rfl⟩ | ⟨hne,hy⟩
      · exact .inr ⟨val,by simp,hr⟩
      · refine (r y u hy hky).imp id fun ⟨w,h1,h2⟩ => ⟨w,by simp only [if_neg hne]; exact h1,h2⟩
    · have hyx : y ≠ x := fun q => by subst q; rw [hk] at hky; cases hky
      rcases hmem y u hy with ⟨q,_⟩ | ⟨_,hy⟩
      · exact absurd q hyx
      obtain ⟨c,o,ov,h1,h2,h3⟩ := hS.l.cells y u hy hky
      refine ⟨c,o,ov,h1,(hs'.2 c fun q => ?_).trans h2,h3⟩
      have := hS.l.apart
      rw [privs,List.nodup_cons] at this
      exact this.1 (q ▸ List.mem_map.mpr ⟨(y,c),TC.mem_of_lookup h1,rfl⟩)
    · by_cases q : a = e.locals
      · obtain ⟨o,_,_,h1,_⟩ := hn'; exact ⟨o,q ▸ h1⟩
      · obtain ⟨o,h1⟩ := hS.l.alive a ha; exact ⟨o,(hs'.2 a q).trans h1⟩
  · obtain ⟨c,o,ov,h1,h2,h3,h4⟩ := hS.l.cells x old ho hk
    have hcp : c ∈ privs e := List.mem_cons_of_mem _ (List.mem_map.mpr ⟨(x,c),TC.mem_of_lookup h1,rfl⟩)
    have hap := hS.l.apart
    rw [privs,List.nodup_cons] at hap
    have hLc : e.locals ≠ c := fun q => hap.1 (q ▸ List.mem_map.mpr ⟨(x,c),TC.mem_of_lookup h1,rfl⟩)
    refine wpAny_storeName_cell hS.l.fn hk h1 ⟨o,h2,h3⟩ fun h' hc' hs' => h _ ⟨gb c _ hcp (fun b o hb eb => (hs'.2 b hb).trans eb) hS.g.gens rfl (Nat.le_refl _),?_⟩
    refine ⟨hS.l.fn,hS.l.glob,hS.l.bi,by rw [U.keys]; exact hnd,?_,kinds',fun y u hy hky => ?_,hS.l.priv,hS.l.apart,fun a ha => ?_⟩
    · obtain ⟨m,hn,r⟩ := hS.l.ns
      refine ⟨m,hn.sameBut hs' hLc,fun y u hy hky => ?_⟩
      rcases hmem y u hy with ⟨q,_⟩ | ⟨_,hy⟩
      · subst q; rw [hk] at hky; cases hky
      · exact r y u hy hky
    · rcases hmem y u hy with ⟨rfl,rfl⟩ | ⟨hne,hy⟩
      · obtain ⟨o',g1,g2⟩ := hc'
        exact ⟨c,o',_,h1,g1,g2,.inr ⟨val,rfl,hr⟩⟩
      · obtain ⟨c',o',ov',g1,g2,g3⟩ := hS.l.cells y u hy hky
        refine ⟨c',o',ov',g1,(hs'.2 c' fun q => hne ?_).trans g2,g3⟩
        subst q
        have pw : e.cells.Pairwise fun a b => a.2 ≠ b.2 := by
          have := hap.2; rw [List.nodup_iff_pairwise_ne,List.pairwise_map] at this; exact this
        exact name_of_addr pw (TC.mem_of_lookup g1) (TC.mem_of_lookup h1)
    · by_cases q : a = c
      · obtain ⟨o',g1,_⟩ := hc'; exact ⟨o',q ▸ g1⟩
      · obtain ⟨o',g⟩ := hS.l.alive a ha; exact ⟨o',(hs'.2 a q).trans g⟩

noncomputable def GL (C : Cx) (e : Env) (gl : List (Str × V)) : Prop := ∀ x v,(x,v) ∈ gl → e.kindOf x = some .globalImplicit ∧ (x == ("__debug__" : Str)) = false ∧ GlobIs C x v

theorem T_NameG {x : Str} {pos : Pos} {v : V} {gl : List (Str × V)} {Q : V → St → Prop} (hg : GL C e gl) (hm : (x,v) ∈ gl) (h : Q v st) : TV C d e (eval (.Name x pos) e) st Q := by
  intro A kp B σ s hA hS
  obtain ⟨hk,hd,val,hv,hr⟩ := hg x v hm
  have hb : Sub C.b0 s.heap.get? := hS.g.b0.trans hS.g.bh
  have q : Post C kp B σ e (Rel C) Q val s := Post.here hS (hr B σ hS.g.b0) h
  rcases hv with hv | ⟨h1,h2⟩
  · exact Name_function_global hS.l.fn hk (loadGlobal_global (by rw [hS.l.glob]; exact hS.g.ok.g _ hb) hv q) hd
  · exact Name_function_global hS.l.fn hk (loadGlobal_builtin (by rw [hS.l.glob]; exact hS.g.ok.g _ hb) h1 (by rw [hS.l.bi]; exact hS.g.ok.b _ hb) h2 q) hd
theorem T_Name {x : Str} {pos : Pos} {v : V} {Q : V → St → Prop} (hm : (x,v) ∈ st.vars) (hv : v ≠ .undef) (h : Q v st) : TV C d e (eval (.Name x pos) e) st Q := by
  intro A kp B σ s hA hS
  exact wpAny_Name (load_ok hS hm hv fun val hr => Post.here hS hr h) (hS.l.kinds x v hm).2
end

noncomputable def kindIs (ks : List NameKind) (p : Str × NameKind) : Bool := ks.any fun k => p.2 == k
noncomputable def eqL : List Nat → List Nat → Bool
  | [],[] => true
  | a :: r,b :: t => Nat.beq a b && eqL r t
  | _,_ => false
theorem eqL_iff : ∀ {a b : List Nat},eqL a b = true ↔ a = b
  | [],[] => by simp [eqL]
  | [],_ :: _ => by simp [eqL]
  | _ :: _,[] => by simp [eqL]
  | a :: r,b :: t => by simp [eqL,eqL_iff (a := r),Nat.beq_eq]
noncomputable def eqS (a b : Str) : Bool := eqL a.cps.toList b.cps.toList
theorem eqS_iff {a b : Str} : eqS a b = true ↔ a = b := by
  unfold eqS
  rw [eqL_iff]
  constructor
  · intro h; cases a; cases b; simp only [Str.mk.injEq]; exact Array.toList_inj.mp h
  · rintro rfl; rfl
noncomputable def lookS? (x : Str) : List (Str × V) → Option V
  | [] => none
  | (y,v) :: r => if eqS y x then some v else lookS? x r
noncomputable def lookS (x : Str) (l : List (Str × V)) : V := (lookS? x l).getD .undef
theorem lookS?_mem {x : Str} {v : V} : ∀ {l : List (Str × V)},lookS? x l = some v → (x,v) ∈ l
  | (y,u) :: r,h => by
    unfold lookS? at h
    split at h
    · rename_i q; cases h; rw [eqS_iff.mp q]; exact .head _
    · exact .tail _ (lookS?_mem h)
noncomputable def mkVars (names : List (Str × NameKind)) (binds : List (Str × V)) : List (Str × V) :=
  names.filterMap fun p => if kindIs [.local,.cell] p then some (p.1,lookS p.1 binds) else none
noncomputable def mkGl (names : List (Str × NameKind)) (tab : List (Str × V)) : List (Str × V) :=
  names.filterMap fun p => if kindIs [.globalImplicit] p then (lookS? p.1 tab).map fun v => (p.1,v) else none
noncomputable def nodupS : List Str → Bool
  | [] => true
  | x :: r => !(r.any (eqS x)) && nodupS r
theorem nodupS_iff : ∀ {l : List Str},nodupS l = true → l.Nodup
  | [],_ => .nil
  | x :: r,h => by
    simp only [nodupS,Bool.and_eq_true,Bool.not_eq_true',List.any_eq_false] at h
    exact List.nodup_cons.mpr ⟨fun hm => absurd (eqS_iff.mpr rfl) (h.1 x hm),nodupS_iff h.2⟩
noncomputable def scopeOk (sc : Scope) (xs : List Str) : Bool :=
  sc.kind == .function && !sc.isCoroutine && !sc.isGenerator && nodupS (sc.names.map (·.1)) && sc.names.all (fun p => !eqS p.1 "__debug__") && nodupS xs && xs.all (fun x => sc.names.any fun p => eqS p.1 x && kindIs [.local,.cell] p)
end
section
set_option maxRecDepth 100000
set_option maxHeartbeats 4000000
noncomputable def clsT : List (Nat × Nat × Nat × List Nat) := [(8,74,56,[75,76]),(9,104,93,[105,106,75,76]),(10,134,123,[135,75,76]),(11,163,152,[164,75,76]),(12,206,181,[207,75,76]),(13,235,224,[236,237,75,76]),(14,265,254,[266,267,75,76]),(15,295,284,[296,297,75,76]),(16,325,314,[326,327,75,76]),(17,355,344,[356,357,75,76]),(18,385,374,[386,387,75,76]),(19,415,404,[416,417,418,419,75,76]),(20,447,436,[448,449,450,451,75,76]),(21,479,468,[480,481,482,483,484,485,75,76]),(22,513,502,[514,75,76]),(23,542,531,[543,75,76]),(24,571,560,[572,75,76]),(25,600,589,[601,602,603,75,76])]
noncomputable def fnT : List (Nat × Nat) := [(2,26),(5,34),(6,41),(28,613),(29,620),(30,628),(31,635),(32,642),(33,649),(34,656),(35,663),(36,670),(37,677),(39,684),(41,692),(42,699),(43,706),(44,713),(45,720),(46,727),(47,734),(48,741),(49,746),(1008,56),(1009,93),(1010,123),(1011,152),(1012,181),(1013,224),(1014,254),(1015,284),(1016,314),(1017,344),(1018,374),(1019,404),(1020,436),(1021,468),(1022,502),(1023,531),(1024,560),(1025,589)]
noncomputable def dctT : List (Str × Nat) := [(oS "_replacement_string_value",27)]
noncomputable def kAddrs : List Nat := [2,3,15,17,18,20,21,22,25,26,27,28,30,31,33,34,35,37,38,40,41,49,50,52,53,55,56,57,59,60,62,63,64,66,67,69,70,71,73,74,75,76,79,86,87,89,90,92,93,94,96,97,99,100,101,103,104,105,106,109,116,117,119,120,122,123,124,126,127,129,130,131,133,134,135,138,145,146,148,149,151,152,153,155,156,158,159,160,162,163,164,167,174,175,177,178,180,181,182,184,185,187,188,189,191,192,194,195,196,198,199,201,202,203,205,206,207,210,217,218,220,221,223,224,225,227,228,230,231,232,234,235,236,237,240,247,248,250,251,253,254,255,257,258,260,261,262,264,265,266,267,270,277,278,280,281,283,284,285,287,288,290,291,292,294,295,296,297,300,307,308,310,311,313,314,315,317,318,320,321,322,324,325,326,327,330,337,338,340,341,343,344,345,347,348,350,351,352,354,355,356,357,360,367,368,370,371,373,374,375,377,378,380,381,382,384,385,386,387,390,397,398,400,401,403,404,405,407,408,410,411,412,414,415,416,417,418,419,422,429,430,432,433,435,436,437,439,440,442,443,444,446,447,448,449,450,451,454,461,462,464,465,467,468,469,471,472,474,475,476,478,479,480,481,482,483,484,485,488,495,496,498,499,501,502,503,505,506,508,509,510,512,513,514,517,524,525,527,528,530,531,532,534,535,537,538,539,541,542,543,546,553,554,556,557,559,560,561,563,564,566,567,568,570,571,572,575,582,583,585,586,588,589,590,592,593,595,596,597,599,600,601,602,603,606,607,609,610,612,613,614,616,617,619,620,621,622,624,625,627,628,629,631,632,634,635,636,638,639,641,642,643,645,646,648,649,650,652,653,655,656,657,659,660,662,663,664,666,667,669,670,671,673,674,676,677,678,679,680,681,682,683,684,685,686,687,688,689,690,691,692,693,694,695,696,697,698,699,700,701,702,703,704,705,706,707,708,709,710,711,712,713,714,715,716,717,718,719,720,721,722,723,724,725,726,727,728,729,730,731,732,733,734,735,736,737,738,739,740,741,742,743,744,745,746]
noncomputable def fragOf (h : Heap) : Frag := kAddrs.filterMap fun a => (h.get? a).map (a,·)
theorem frag_look {h : Heap} : ∀ {as : List Nat} {a : Nat} {o : Obj},(as.filterMap fun a => (h.get? a).map (a,·)).lookup a = some o → h.get? a = some o ∧ a ∈ as
  | [],a,o,e => by cases e
  | b :: as,a,o,e => by
    rw [List.filterMap_cons] at e
    cases q : h.get? b with
    | none => rw [q] at e; have := frag_look e; exact ⟨this.1,List.mem_cons_of_mem _ this.2⟩
    | some x =>
      rw [q] at e
      simp only [Option.map_some,List.lookup_cons] at e
      split at e
      · rename_i z
        have z : a = b := by simpa using z
        subst z; cases e; exact ⟨q,List.mem_cons_self ..⟩
      · have := frag_look e; exact ⟨this.1,List.mem_cons_of_mem _ this.2⟩
noncomputable def slotB (K : Frag) (c p k : Nat) (name : Str) : Bool := findIn K (.ref c) name == some (some (.ref p)) && (specialIn K (.ref p) "__get__" == some (some (.builtin "member_descriptor.__get__")) && (takesIn K (.ref p) == some true && (slotIn K p c == some k && typeIn K (.ref p) == some (.type "member_descriptor"))))
theorem slotk_of {K : Frag} {c p k : Nat} {name : Str} (h : slotB K c p k name = true) : SlotOk K c p k name := by
  unfold slotB at h
  obtain ⟨h1,h⟩ := Bool.and_eq_true_iff.mp h
  obtain ⟨h2,h⟩ := Bool.and_eq_true_iff.mp h
  obtain ⟨h3,h⟩ := Bool.and_eq_true_iff.mp h
  obtain ⟨h4,h5⟩ := Bool.and_eq_true_iff.mp h
  exact ⟨eq_of_beq h1,eq_of_beq h2,eq_of_beq h3,eq_of_beq h4,eq_of_beq h5⟩
noncomputable def slotsB (K : Frag) (c : Nat) : Nat → List String → List Nat → Bool
  | _,[],_ => true
  | k,n :: ns,p :: ps => slotB K c p k (oS n) && slotsB K c (k + 1) ns ps
  | _,_ :: _,[] => false
theorem slots_of {K : Frag} {c : Nat} : ∀ {ns : List String} {ps : List Nat} {j : Nat},slotsB K c j ns ps = true → ∀ (k : Nat) (name : String),ns[k]? = some name → ∃ p,SlotOk K c p (j + k) (oS name)
  | [],_,_,_,k,name,e => by simp at e
  | n :: ns,[],j,h,_,_,_ => by cases h
  | n :: ns,p :: ps,j,h,k,name,e => by
    obtain ⟨h1,h2⟩ := Bool.and_eq_true_iff.mp h
    match k,e with
    | 0,e => cases e; exact ⟨p,slotk_of h1⟩
    | k + 1,e =>
      obtain ⟨q,hq⟩ := slots_of h2 k name e
      exact ⟨q,by rw [show j + (k + 1) = j + 1 + k by (first|lia -abstractProof|omega)]; exact hq⟩
noncomputable def initB (K : Frag) (c f : Nat) : Bool := match findCls K (.ref c) (.type "type") "__init__" with
  | some (.val (.ref g)) => g == f
  | _ => false
noncomputable def typB (K : Frag) (i c : Nat) : Bool := i == 8 || ((clsIn K c).any (fun cd => !cd.hasDict) && (match findIn K (.ref c) "type" with | some (some (.str s _)) => eqS s (oS (typeTab i)) | _ => false))
noncomputable def clsB (K : Frag) (i c f : Nat) (ps : List Nat) : Bool := makesIn K c && (plainOver K c && (plainGet K c Str.empty && (isClsIn K c && (readsIn K c (.type "type") && (keepIn K (.ref c) && (findIn K (.ref c) "__init__" == some (some (.ref f)) && (typeIn K (.ref f) == some (.type "function") && (findIn K (.ref c) "__setattr__" == some (some (.builtin "object.__setattr__")) && (specialIn K (.ref c) "__getattribute__" == some (some (.builtin "type.__getattribute__")) && (initB K c f && (slotsB K c 0 (slotTab i) ps && (typB K i c && fnT.contains (1000 + i,f)))))))))))))
theorem init_of {K : Frag} {c f : Nat} (h : initB K c f = true) : findCls K (.ref c) (.type "type") "__init__" = some (.val (.ref f)) := by
  unfold initB at h
  split at h
  · rename_i g e; rw [e,eq_of_beq h]
  · cases h
theorem typ_of {K : Frag} {i c : Nat} (h : typB K i c = true) : i = 8 ∨ ((clsIn K c).any fun cd => !cd.hasDict) = true ∧ ∃ t,findIn K (.ref c) "type" = some (some (.str (oS (typeTab i)) t)) := by
  unfold typB at h
  rcases Bool.or_eq_true_iff.mp h with h | h
  · exact .inl (eq_of_beq h)
  · obtain ⟨h1,h2⟩ := Bool.and_eq_true_iff.mp h
    refine .inr ⟨h1,?_⟩
    split at h2
    · rename_i s t e; exact ⟨t,by rw [e,eqS_iff.mp h2]⟩
    · cases h2
theorem clsOk_of {C : Cx} {i c f : Nat} {ps : List Nat} (h : clsB C.K i c f ps = true) (hf : IsFn C (1000 + i) f) : ClsOk C i c ∧ keepIn C.K (.ref c) = true := by
  unfold clsB at h
  obtain ⟨a1,h⟩ := Bool.and_eq_true_iff.mp h
  obtain ⟨a2,h⟩ := Bool.and_eq_true_iff.mp h
  obtain ⟨a3,h⟩ := Bool.and_eq_true_iff.mp h
  obtain ⟨a4,h⟩ := Bool.and_eq_true_iff.mp h
  obtain ⟨a5,h⟩ := Bool.and_eq_true_iff.mp h
  obtain ⟨a6,h⟩ := Bool.and_eq_true_iff.mp h
  obtain ⟨a7,h⟩ := Bool.and_eq_true_iff.mp h
  obtain ⟨a8,h⟩ := Bool.and_eq_true_iff.mp h
  obtain ⟨a9,h⟩ := Bool.and_eq_true_iff.mp h
  obtain ⟨b1,h⟩ := Bool.and_eq_true_iff.mp h
  obtain ⟨b2,h⟩ := Bool.and_eq_true_iff.mp h
  obtain ⟨b3,h⟩ := Bool.and_eq_true_iff.mp h
  obtain ⟨b4,h⟩ := Bool.and_eq_true_iff.mp h
  refine ⟨⟨a1,⟨f,eq_of_beq a7,eq_of_beq a8,hf⟩,a2,eq_of_beq a9,a3,a4,fun k name e => ?_,⟨a5,eq_of_beq b1,f,init_of b2,hf⟩,typ_of b4⟩,a6⟩
  have := slots_of b3 k name e
  rw [Nat.zero_add] at this; exact this
noncomputable def fnObs (K : Frag) (f : Nat) : Option (Str × Str × Arguments × FuncBody × Scope) := match K.lookup f with
  | some ⟨_,_,.func fd,_⟩ => some (fd.name,fd.qualname,fd.params,fd.body,fd.scope)
  | _ => none
noncomputable def fnExp (i : Nat) : Option (Str × Str × Arguments × FuncBody × Scope) := (fnAt i).map fun x => (x.1,x.2.1,x.2.2.1,FuncBody.stmts x.2.2.2.1,x.2.2.2.2)
noncomputable def codeB (K : Frag) (i : Nat) (q : Str) (v : Value) : Bool := match v with
  | .ref c => (match K.lookup c with | some ⟨_,_,.fields vs,_⟩ => (match (vs : Array Value)[1]? with | some (Value.str s _) => eqS s q | _ => false) | _ => false) && (if i = 5 then c == 33 else if i = 6 then c == 40 else true)
  | _ => false
noncomputable def dflB (K : Frag) (p : Arguments) (v : Value) : Bool := match p.defaults.isEmpty with
  | true => v == .none
  | false => match v with
    | .ref T => (match K.lookup T with | some ⟨_,_,.seq items _,_⟩ => items.toList == [.bool false] | _ => false)
    | _ => false
theorem dfl_of {K : Frag} {p : Arguments} {v : Value} (h : dflB K p v = true) : (p.defaults.isEmpty = true → v = .none) ∧ (p.defaults.isEmpty = false → ∃ T o n,v = .ref T ∧ K.lookup T = some o ∧ o.data = .seq #[.bool false] n) := by
  unfold dflB at h
  cases q : p.defaults.isEmpty with
  | true => rw [q] at h; exact ⟨fun _ => eq_of_beq h,fun z => by cases z⟩
  | false =>
    rw [q] at h
    refine ⟨fun z => (by cases z),fun _ => ?_⟩
    cases v with
    | ref T =>
      dsimp only at h
      split at h
      · rename_i items n _ e2
        have z := eq_of_beq h
        exact ⟨T,_,n,rfl,e2,by rw [show items = #[.bool false] from Array.toList_inj.mp z]⟩
      · cases h
    | _ => cases h
noncomputable def fnB (K : Frag) (i f : Nat) : Bool := match K.lookup f with
  | some ⟨_,_,.func fd,_⟩ => fd.globals == mainGlobals && (fd.closure.isEmpty && (fd.kwdefaults == .none && (fd.builtins == builtinsNs && (codeB K i fd.qualname fd.code && dflB K fd.params fd.defaults))))
  | _ => false
theorem code_of {C : Cx} {K : Frag} {i : Nat} {q : Str} {v : Value} (hs : ∀ a o,K.lookup a = some o → C.b0 a = some o) (ht : ∀ i,C.tc i = if i = 5 then 33 else 40) (h : codeB K i q v = true) : (∀ h : Heap,Sub C.b0 h.get? → h.CodeRec v q) ∧ ((i = 5 ∨ i = 6) → v = .ref (C.tc i)) := by
  unfold codeB at h
  split at h
  · rename_i c
    obtain ⟨h1,h2⟩ := Bool.and_eq_true_iff.mp h
    split at h1
    · rename_i vs _ e
      split at h1
      · rename_i s t e2
        have hq := eqS_iff.mp h1
        subst hq
        refine ⟨fun hp hsub => ⟨c,_,vs,t,rfl,hsub _ _ (hs _ _ e),rfl,e2⟩,fun q => ?_⟩
        rw [ht]
        rcases q with rfl | rfl
        · rw [if_pos rfl] at h2 ⊢; rw [eq_of_beq h2]
        · rw [if_neg (by decide),if_pos rfl] at h2; rw [if_neg (by decide),eq_of_beq h2]
      · cases h1
    · cases h1
  · cases h
theorem isFn_of {C : Cx} {K : Frag} {i f : Nat} (hs : ∀ a o,K.lookup a = some o → C.b0 a = some o) (ht : ∀ i,C.tc i = if i = 5 then 33 else 40) (h : fnB K i f = true) (he : fnObs K f = fnExp i) : IsFn C i f := by
  unfold fnB at h
  unfold fnObs fnExp at he
  split at h
  · rename_i oc od fd osl e
    rw [e] at he
    obtain ⟨h1,h⟩ := Bool.and_eq_true_iff.mp h
    obtain ⟨h2,h⟩ := Bool.and_eq_true_iff.mp h
    obtain ⟨h3,h⟩ := Bool.and_eq_true_iff.mp h
    obtain ⟨h4,h⟩ := Bool.and_eq_true_iff.mp h
    obtain ⟨h5,h6⟩ := Bool.and_eq_true_iff.mp h
    obtain ⟨c1,c2⟩ := code_of hs ht h5
    cases hA : fnAt i with
    | none => rw [hA] at he; cases he
    | some x =>
      rw [hA] at he
      obtain ⟨name,qual,params,body,scope⟩ := x
      have hx := Option.some.inj he
      obtain ⟨fn,fq,fp,fb,fsc,fg,fc,fdf,fk,fdoc,fpm,fan,fcode,fct,fbi⟩ := fd
      simp only [Prod.mk.injEq] at hx
      obtain ⟨rfl,rfl,rfl,rfl,rfl⟩ := hx
      have g1 := eq_of_beq h1
      have g2 := List.isEmpty_iff.mp h2
      have g3 := eq_of_beq h3
      have g4 := eq_of_beq h4
      dsimp only at g1 g2 g3 g4
      subst g1 g2 g3 g4
      obtain ⟨d1,d2⟩ := dfl_of h6
      refine ⟨_,_,_,_,_,fdf,fdoc,fpm,fcode,fct,oc,fan,od,osl,hA,hs _ _ e,c1,d1,fun q => ?_,c2⟩
      obtain ⟨T,o,n,r1,r2,r3⟩ := d2 q
      exact ⟨T,o,n,r1,hs _ _ r2,r3⟩
  · cases h
end
section
set_option maxRecDepth 100000
set_option maxHeartbeats 4000000
mutual
noncomputable def relB (K : Frag) : V → Value → Bool
  | .none,v => v == .none
  | .bool b,v => v == .bool b
  | .int i,v => (match v with | .int j _ => j == i | _ => false)
  | .str l,v => (match v with | .str s _ => eqL s.cps.toList l | _ => false)
  | .tup xs,v => (match v with | .ref a => (match K.lookup a with | some ⟨c,none,.seq items _,sl⟩ => c == .type "tuple" && (sl.isEmpty && relLB K xs items.toList) | _ => false) | _ => false)
  | .lst xs,v => (match v with | .ref a => (match K.lookup a with | some ⟨c,none,.seq items _,sl⟩ => c == .type "list" && (sl.isEmpty && relLB K xs items.toList) | _ => false) | _ => false)
  | _,_ => false
noncomputable def relLB (K : Frag) : List V → List Value → Bool
  | [],vs => vs.isEmpty
  | x :: xs,v :: vs => relB K x v && relLB K xs vs
  | _ :: _,[] => false
end
section
variable {C : Cx} {K : Frag} {B : Base} {σ : List Addr}
mutual
theorem krel (hB : ∀ a o,K.lookup a = some o → B a = some o) : ∀ {x : V} {v : Value},relB K x v = true → Rel C B σ x v
  | .none,v,h => eq_of_beq h
  | .bool b,v,h => eq_of_beq h
  | .int i,v,h => by
    unfold relB at h
    split at h
    · rename_i j t; exact ⟨t,by rw [eq_of_beq h]⟩
    · cases h
  | .str l,v,h => by
    unfold relB at h
    split at h
    · rename_i s t; exact ⟨s,t,rfl,eqL_iff.mp h⟩
    · cases h
  | .tup xs,v,h => by
    unfold relB at h
    split at h
    · rename_i a
      split at h
      · rename_i c items n sl e
        obtain ⟨h1,h⟩ := Bool.and_eq_true_iff.mp h
        obtain ⟨h2,h3⟩ := Bool.and_eq_true_iff.mp h
        have h1 := eq_of_beq h1
        have h2 : sl = #[] := by simpa using h2
        subst h1 h2
        simp only [Rel]
        exact ⟨a,items,n,rfl,hB _ _ e,krelL hB h3⟩
      · cases h
    · cases h
  | .lst xs,v,h => by
    unfold relB at h
    split at h
    · rename_i a
      split at h
      · rename_i c items n sl e
        obtain ⟨h1,h⟩ := Bool.and_eq_true_iff.mp h
        obtain ⟨h2,h3⟩ := Bool.and_eq_true_iff.mp h
        have h1 := eq_of_beq h1
        have h2 : sl = #[] := by simpa using h2
        subst h1 h2
        simp only [Rel]
        exact ⟨a,items,n,rfl,hB _ _ e,krelL hB h3⟩
      · cases h
    · cases h
  | .undef,_,h => by cases h
  | .dct _,_,h => by cases h
  | .inst _ _,_,h => by cases h
  | .own _,_,h => by cases h
  | .fn _,_,h => by cases h
  | .cls _,_,h => by cases h
  | .raw _,_,h => by cases h
  | .rng _ _ _,_,h => by cases h
theorem krelL (hB : ∀ a o,K.lookup a = some o → B a = some o) : ∀ {xs : List V} {vs : List Value},relLB K xs vs = true → RelL C B σ xs vs
  | [],vs,h => by simp only [RelL]; simpa [relLB] using h
  | x :: xs,v :: vs,h => by
    unfold relLB at h
    obtain ⟨h1,h2⟩ := Bool.and_eq_true_iff.mp h
    simp only [RelL]
    exact ⟨v,vs,rfl,krel hB h1,krelL hB h2⟩
  | x :: xs,[],h => by simp [relLB] at h
end
noncomputable def relDB (K : Frag) : List (List Nat × V) → List DictEntry → Bool
  | [],es => es.isEmpty
  | (k,x) :: xs,e :: r => (match e.key with | .str s _ => eqL s.cps.toList k | _ => false) && (relB K x e.val && relDB K xs r)
  | _ :: _,[] => false
theorem krelD (hB : ∀ a o,K.lookup a = some o → B a = some o) : ∀ {xs : List (List Nat × V)} {es : List DictEntry},relDB K xs es = true → es.map (·.hash) = xs.map (fun p => PyData.keyHash C.w.params ⟨p.1.toArray⟩) → RelD C B σ xs es
  | [],es,h,_ => by simp only [RelD]; simpa [relDB] using h
  | (k,x) :: xs,e :: es,h,hh => by
    unfold relDB at h
    obtain ⟨h1,h⟩ := Bool.and_eq_true_iff.mp h
    obtain ⟨h2,h3⟩ := Bool.and_eq_true_iff.mp h
    rw [List.map_cons,List.map_cons] at hh
    obtain ⟨hh1,hh2⟩ := List.cons.inj hh
    simp only [RelD]
    refine ⟨e,es,rfl,?_,krel hB h2,krelD hB h3 hh2⟩
    split at h1
    · rename_i s t q
      have hs := eqL_iff.mp h1
      refine ⟨s,t,q,hs,?_⟩
      rw [hh1,← hs]
    · cases h1
  | _ :: _,[],h,_ => by simp [relDB] at h
end
noncomputable def hashes (K : Frag) (a : Nat) : List Int := match K.lookup a with
  | some ⟨_,_,.dict items _,_⟩ => items.toList.map (·.hash)
  | _ => []
noncomputable def dctKeys (x : Str) : List (List Nat) := match globTab.lookup x with
  | some (.dct es) => es.map (·.1)
  | _ => []
noncomputable def dctB (K : Frag) (es : List (List Nat × V)) (a : Nat) : Bool := !(a == sysModules) && (match K.lookup a with
  | some ⟨c,none,.dict items _,sl⟩ => c == .type "dict" && (sl.isEmpty && relDB K es items.toList)
  | _ => false)
noncomputable def mainEs (K : Frag) : Array DictEntry := match K.lookup 3 with
  | some ⟨_,_,.dict es _,_⟩ => es
  | _ => #[]
noncomputable def mainB (K : Frag) : Bool := match K.lookup 3 with
  | some ⟨_,_,.dict _ _,_⟩ => true
  | _ => false
noncomputable def globB (K : Frag) (x : Str) : V → Bool
  | .fn i => (match nsFind (mainEs K) x with | some (.ref f) => fnT.contains (i,f) | _ => false)
  | .cls i => (match nsFind (mainEs K) x,clsName i with | some (.ref _),some n => eqS n x | _,_ => false)
  | .raw v => (nsFind (mainEs K) x).isNone && (bootBuiltins x == some v && !(x == "__name__"))
  | .dct es => (match nsFind (mainEs K) x with | some (.ref a) => dctT.contains (x,a) && (dctB K es a && (es.map (·.1) == dctKeys x)) | _ => false)
  | v => (match nsFind (mainEs K) x with | some y => relB K v y | none => false)
noncomputable def covB (K : Frag) : Bool := Nat.ble P.main.body.length 64 && (List.range 64).all fun i => match clsName i with
  | none => true
  | some n => clsT.any fun y => y.1 == i && nsFind (mainEs K) n == some (.ref y.2.1)
noncomputable def tabB (K : Frag) (f c t : Nat) : Bool := match K.lookup f,K.lookup c with
  | some ⟨_,_,.func fd,_⟩,some ⟨_,_,.fields vs,_⟩ => fd.code == .ref c && (vs : Array Value)[11]? == some (.ref t)
  | _,_ => false
noncomputable def moreB (K : Frag) : Bool := tabB K 34 33 29 && (tabB K 41 40 36 && (nsFind (mainEs K) "serialize_string_value" == some (.ref 34) && (nsFind (mainEs K) "serialize_url" == some (.ref 41) && nsFind (mainEs K) "law" == some (.ref 746))))
noncomputable def factsB (K : Frag) : Bool := mainB K && (covB K && ((K.lookup 600).isSome && (nsFind (mainEs K) "__builtins__" == some (.ref 4) && (clsT.all (fun y => clsB K y.1 y.2.1 y.2.2.1 y.2.2.2) && (fnT.all (fun y => fnB K y.1 y.2) && (globTab.all (fun p => globB K p.1 p.2) && moreB K))))))
structure Seen (w : World) (h : Heap) (K : Frag) : Prop where
  kin : K.In h
  ad : ∀ a o,K.lookup a = some o → a ∈ kAddrs
  facts : factsB K = true
  fns : fnT.map (fun x => fnObs K x.2) = fnT.map (fun x => fnExp x.1)
  hash : dctT.map (fun x => hashes K x.2) = dctT.map fun x => (dctKeys x.1).map fun k => PyData.keyHash w.params ⟨k.toArray⟩
abbrev hA : Type := Bool × List (Option (Str × Str × Arguments × FuncBody × Scope)) × List (List Int)
noncomputable def hObs (s : Shared) : hA := (factsB (fragOf s.heap),fnT.map (fun x => fnObs (fragOf s.heap) x.2),dctT.map fun x => hashes (fragOf s.heap) x.2)
noncomputable def hVal (w : World) : hA := (true,fnT.map (fun x => fnExp x.1),dctT.map fun x => (dctKeys x.1).map fun k => PyData.keyHash w.params ⟨k.toArray⟩)
noncomputable def hSays (w : World) (h : Heap) : Prop := ∃ K,Seen w h K
theorem hOf (w : World) (s : Shared) (e : hObs s = hVal w) : hSays w s.heap := by
  unfold hObs hVal at e
  simp only [Prod.mk.injEq] at e
  exact ⟨fragOf s.heap,fun a o q => (frag_look q).1,fun a o q => (frag_look q).2,e.1,e.2.1,e.2.2⟩
theorem hKeeps (w : World) (h h' : Heap) (S : hSays w h) (k : ∀ b o,h.get? b = some o → h'.get? b = some o) : hSays w h' := by
  obtain ⟨K,S⟩ := S
  exact ⟨K,fun a o q => k a o (S.kin a o q),S.ad,S.facts,S.fns,S.hash⟩
noncomputable def cutB (h : Heap) : Base := fun a => if a = 29 ∨ a = 36 then none else h.get? a
theorem cutB_ne {h : Heap} {a : Addr} (h1 : a ≠ 29) (h2 : a ≠ 36) : cutB h a = h.get? a := if_neg fun q => q.elim h1 h2
theorem cutB_sub {h : Heap} : Sub (cutB h) h.get? := fun a o e => by
  unfold cutB at e
  split at e
  · cases e
  · exact e
theorem addr_ne : ∀ a ∈ kAddrs,a ≠ 29 ∧ a ≠ 36 := by
  have : kAddrs.all (fun a => a != 29 && a != 36) = true := by decide +kernel
  intro a ha
  have := List.all_eq_true.mp this a ha
  simpa using this
structure HeadOk (w : World) (mg mb : Str → Option Value) (h : Heap) (K : Frag) : Prop where
  seen : Seen w h K
  g : h.Ns mainGlobals mg
  b : h.Ns builtinsNs mb
  lim : h.NoLimit
  bb : ∀ x : Str,x ≠ "__name__" → mb x = bootBuiltins x
  bm : ∃ bm ob,mg "__builtins__" = some (.ref bm) ∧ bm ≠ builtinsNs ∧ h.get? bm = some ob ∧ ob.cls = .type "module" ∧ ob.dict = some builtinsNs ∧ ob.data = .plain
noncomputable def mkC (w : World) (mg mb : Str → Option Value) (h : Heap) (os : OsState) (K : Frag) : Cx := { w := w,K := K,b0 := cutB h,mg := mg,mb := mb,os := os,tc := fun i => if i = 5 then 33 else 40 }
section
variable {w : World} {mg mb : Str → Option Value} {h : Heap} {os : OsState} {K : Frag}
theorem cut_of (H : HeadOk w mg mb h K) : ∀ a o,K.lookup a = some o → cutB h a = some o := fun a o e => by
  have := addr_ne a (H.seen.ad a o e)
  exact (cutB_ne this.1 this.2).trans (H.seen.kin a o e)
theorem facts_of (H : HeadOk w mg mb h K) : mainB K = true ∧ covB K = true ∧ (K.lookup 600).isSome = true ∧ nsFind (mainEs K) "__builtins__" = some (.ref 4) ∧ (∀ y ∈ clsT,clsB K y.1 y.2.1 y.2.2.1 y.2.2.2 = true) ∧ (∀ y ∈ fnT,fnB K y.1 y.2 = true) ∧ (∀ p ∈ globTab,globB K p.1 p.2 = true) ∧ moreB K = true := by
  have q := H.seen.facts
  unfold factsB at q
  obtain ⟨h1,q⟩ := Bool.and_eq_true_iff.mp q
  obtain ⟨h2,q⟩ := Bool.and_eq_true_iff.mp q
  obtain ⟨h3,q⟩ := Bool.and_eq_true_iff.mp q
  obtain ⟨h4,q⟩ := Bool.and_eq_true_iff.mp q
  obtain ⟨h5,q⟩ := Bool.and_eq_true_iff.mp q
  obtain ⟨h6,q⟩ := Bool.and_eq_true_iff.mp q
  obtain ⟨h7,h8⟩ := Bool.and_eq_true_iff.mp q
  exact ⟨h1,h2,h3,eq_of_beq h4,List.all_eq_true.mp h5,List.all_eq_true.mp h6,List.all_eq_true.mp h7,h8⟩
theorem mg_of (H : HeadOk w mg mb h K) (x : Str) : mg x = nsFind (mainEs K) x := by
  have m := (facts_of H).1
  obtain ⟨o,es,ep,h1,h2,h3,h4⟩ := H.g
  unfold mainB at m
  unfold mainEs
  split at m
  · rename_i c d es' ep' sl e
    have e4 := (H.seen.kin 3 _ e).symm.trans h1
    cases e4
    have h2 : (Data.dict es' ep') = Data.dict es ep := h2
    cases h2
    exact (h4 x).symm
  · cases m
theorem fn_of (H : HeadOk w mg mb h K) {i f : Nat} (hm : (i,f) ∈ fnT) : IsFn (mkC w mg mb h os K) i f := by
  refine isFn_of (K := K) (cut_of H) (fun _ => rfl) ((facts_of H).2.2.2.2.2.1 _ hm) ?_
  have := H.seen.fns
  exact (List.map_inj_left.mp this) _ hm
theorem is_cls (H : HeadOk w mg mb h K) {i c : Nat} (e : IsCls (mkC w mg mb h os K) i c) : ∃ y ∈ clsT,y.1 = i ∧ y.2.1 = c := by
  obtain ⟨name,e1,e2⟩ := e
  have e2 : mg name = some (.ref c) := e2
  rw [mg_of H] at e2
  obtain ⟨l,q⟩ := Bool.and_eq_true_iff.mp (facts_of H).2.1
  have hi : i < 64 := by
    have hl := Nat.le_of_ble_eq_true l
    by_cases z : i < P.main.body.length
    · (first|lia -abstractProof|omega)
    · unfold clsName at e1
      rw [List.getElem?_eq_none (by (first|lia -abstractProof|omega))] at e1; cases e1
  have := List.all_eq_true.mp q i (List.mem_range.mpr hi)
  rw [e1] at this
  obtain ⟨y,hy,z⟩ := List.any_eq_true.mp this
  obtain ⟨z1,z2⟩ := Bool.and_eq_true_iff.mp z
  have z2 := eq_of_beq z2
  rw [e2] at z2
  refine ⟨y,hy,eq_of_beq z1,?_⟩
  injection z2 with z2; injection z2 with z2; exact z2.symm
theorem cls_ok (H : HeadOk w mg mb h K) {i c : Nat} (e : IsCls (mkC w mg mb h os K) i c) : ClsOk (mkC w mg mb h os K) i c ∧ keepIn K (.ref c) = true := by
  obtain ⟨⟨i,c,f,ps⟩,hy,rfl,rfl⟩ := is_cls H e
  have q := (facts_of H).2.2.2.2.1 _ hy
  refine clsOk_of (C := mkC w mg mb h os K) q (fn_of H ?_)
  unfold clsB at q
  simp only [Bool.and_eq_true,List.contains_iff_mem] at q
  exact q.2.2.2.2.2.2.2.2.2.2.2.2.2
theorem glob_is (H : HeadOk w mg mb h K) {x : Str} {v : V} (hm : (x,v) ∈ globTab) : GlobIs (mkC w mg mb h os K) x v := by
  have q := (facts_of H).2.2.2.2.2.2.1 _ hm
  have hB : ∀ B : Base,Sub (cutB h) B → ∀ a o,K.lookup a = some o → B a = some o := fun B s a o e => s a o (cut_of H a o e)
  have key : ∀ y,nsFind (mainEs K) x = some y → (∀ (B : Base) (σ : List Addr),Sub (cutB h) B → Rel (mkC w mg mb h os K) B σ v y) → GlobIs (mkC w mg mb h os K) x v := fun y e r => ⟨y,.inl ((mg_of H x).trans e),r⟩
  have plain : (match nsFind (mainEs K) x with | some y => relB K v y | none => false) = true → GlobIs (mkC w mg mb h os K) x v := fun q => by
    cases e : nsFind (mainEs K) x with
    | none => rw [e] at q; cases q
    | some y => rw [e] at q; exact key y e fun B σ s => krel (hB B s) q
  cases v with
  | fn i =>
    simp only [globB] at q
    split at q
    · rename_i f e
      exact key _ e fun B σ s => ⟨f,rfl,fn_of H (by simpa using q)⟩
    · cases q
  | cls i =>
    simp only [globB] at q
    split at q
    · rename_i a n e1 e2
      have := eqS_iff.mp q
      subst this
      exact key _ e1 fun B σ s => ⟨a,rfl,n,e2,(mg_of H n).trans e1⟩
    · cases q
  | raw y =>
    simp only [globB] at q
    obtain ⟨q1,q⟩ := Bool.and_eq_true_iff.mp q
    obtain ⟨q2,q3⟩ := Bool.and_eq_true_iff.mp q
    have hn : x ≠ "__name__" := by intro z; subst z; simp at q3
    exact ⟨y,.inr ⟨(mg_of H x).trans (by simpa using q1),(H.bb x hn).trans (eq_of_beq q2)⟩,fun B σ s => rfl⟩
  | dct es =>
    simp only [globB] at q
    split at q
    · rename_i a e
      obtain ⟨q1,q⟩ := Bool.and_eq_true_iff.mp q
      obtain ⟨q2,q3⟩ := Bool.and_eq_true_iff.mp q
      unfold dctB at q2
      obtain ⟨q4,q5⟩ := Bool.and_eq_true_iff.mp q2
      split at q5
      · rename_i c items n sl e2
        obtain ⟨r1,q5⟩ := Bool.and_eq_true_iff.mp q5
        obtain ⟨r2,r3⟩ := Bool.and_eq_true_iff.mp q5
        have r1 := eq_of_beq r1
        have r2 : sl = #[] := by simpa using r2
        subst r1 r2
        have hh := (List.map_inj_left.mp H.seen.hash) (x,a) (by simpa using q1)
        have hh : hashes K a = (dctKeys x).map fun k => PyData.keyHash w.params ⟨k.toArray⟩ := hh
        rw [← eq_of_beq q3,List.map_map] at hh
        unfold hashes at hh
        rw [e2] at hh
        refine key _ e fun B σ s => ?_
        simp only [Rel]
        exact ⟨a,items,n,rfl,by simpa using q4,hB B s _ _ e2,krelD (hB B s) r3 hh⟩
      · cases q5
    · cases q
  | _ => exact plain q
theorem cx_ok (H : HeadOk w mg mb h K) : (mkC w mg mb h os K).Ok where
  mkd := fun i c e => (cls_ok H e).1
  cls := fun i c e => (cls_ok H e).2
  tab := fun x v hm => glob_is H hm
  g := fun h' hs => H.g.at' fun o e => hs _ _ ((cutB_ne (by decide) (by decide)).trans e)
  b := fun h' hs => H.b.at' fun o e => hs _ _ ((cutB_ne (by decide) (by decide)).trans e)
  lim := fun h' hs => by
    obtain ⟨mc,h1,h2⟩ := H.lim
    exact ⟨mc,h1.at' fun o e => hs _ _ ((cutB_ne (by decide) (by decide)).trans e),h2⟩
  K := fun h' hs a o e => hs _ _ (cut_of H a o e)
  sm := fun h' hs => by
    obtain ⟨o,e⟩ := Option.isSome_iff_exists.mp (facts_of H).2.2.1
    exact Nat.lt_of_lt_of_le (by decide : sysModules < 600) (Nat.le_of_lt (Heap.lt_size (hs 600 _ (cut_of H 600 o e))))
  bm := by
    obtain ⟨bm,ob,h1,h2,h3,h4,h5,h6⟩ := H.bm
    refine ⟨bm,ob,h1,h2,?_,h4,h5,h6⟩
    show cutB h bm = some ob
    have g : mg ("__builtins__" : Str) = some (.ref 4) := (mg_of H _).trans (facts_of H).2.2.2.1
    rw [g] at h1; cases h1
    rw [cutB_ne (by decide) (by decide)]; exact h3
end
end
section
set_option maxRecDepth 100000
set_option maxHeartbeats 0
theorem looks1 (w : World) : (fun os => hLooks w (hStateE w.params os).abs) = fun os => true := by kernel_rfl
theorem looks2' (w : World) : (fun os => PySem.W.Fast.tw4187177175401517315 hQ hLoose (importedModules PW.main.body) hX true (hStateE w.params os).abs) = fun os => openGood hQ hLoose := by kernel_rfl
theorem looks3 (w : World) : (fun os => hObs (hStateE w.params os).abs) = fun os => hVal w := by kernel_rfl
end
section
theorem lookup_of_nodup {α β : Type} [BEq α] [LawfulBEq α] {x : α} {y : β} : ∀ {l : List (α × β)},(l.map (·.1)).Nodup → (x,y) ∈ l → l.lookup x = some y
  | (a,b) :: l,hn,hm => by
    simp only [List.map_cons,List.nodup_cons] at hn
    rw [List.lookup_cons]
    rcases List.mem_cons.mp hm with e | hm
    · cases e; simp
    · have : (x == a) = false := by
        cases q : x == a with
        | false => rfl
        | true => exact absurd (beq_iff_eq.mp q ▸ List.mem_map.mpr ⟨_,hm,rfl⟩) hn.1
      rw [this]; exact lookup_of_nodup hn.2 hm

theorem bindL_get {kindOf : Str → Option NameKind} {x : Str} {val : Value} (hk : kindOf x = some .local) : ∀ (bs : List (Str × Value)) (m : Str → Option Value),(bs.map (·.1)).Nodup →
    ((x,val) ∈ bs ∨ (x ∉ bs.map (·.1) ∧ m x = some val)) → bindL kindOf bs m x = some val
  | [],m,_,h => by
    rcases h with h | h
    · cases h
    · exact h.2
  | (n,v) :: r,m,hn,h => by
    simp only [List.map_cons,List.nodup_cons] at hn
    unfold bindL
    refine bindL_get hk r _ hn.2 ?_
    rcases h with h | ⟨h1,h2⟩
    · rcases List.mem_cons.mp h with e | h
      · cases e; exact .inr ⟨hn.1,by simp [hk]⟩
      · exact .inl h
    · simp only [List.map_cons,List.mem_cons,not_or] at h1
      refine .inr ⟨h1.2,?_⟩
      split
      · simp only [if_neg h1.1]; exact h2
      · exact h2
theorem bindC_get {kindOf : Str → Option NameKind} {x : Str} {val : Value} (hk : kindOf x ≠ some .local) : ∀ (bs : List (Str × Value)) (m : Str → Option Value),(bs.map (·.1)).Nodup →
    ((x,val) ∈ bs ∨ (x ∉ bs.map (·.1) ∧ m x = some val)) → bindC kindOf bs m x = some val
  | [],m,_,h => by
    rcases h with h | h
    · cases h
    · exact h.2
  | (n,v) :: r,m,hn,h => by
    simp only [List.map_cons,List.nodup_cons] at hn
    unfold bindC
    refine bindC_get hk r _ hn.2 ?_
    rcases h with h | ⟨h1,h2⟩
    · rcases List.mem_cons.mp h with e | h
      · cases e; exact .inr ⟨hn.1,by simp [hk]⟩
      · exact .inl h
    · simp only [List.map_cons,List.mem_cons,not_or] at h1
      refine .inr ⟨h1.2,?_⟩
      split
      · exact h2
      · simp only [if_neg h1.1]; exact h2

theorem cellsFrom_keys : ∀ (names : List (Str × NameKind)) (n : Nat) (acc : List (Str × Addr)),(names.map (·.1) ++ acc.map (·.1)).Nodup → ((cellsFrom n names acc).map (·.1)).Nodup
  | [],_,acc,h => by unfold cellsFrom; simpa using h
  | (y,k) :: r,n,acc,h => by
    unfold cellsFrom
    simp only [List.map_cons,List.cons_append,List.nodup_cons] at h
    split
    · refine cellsFrom_keys r (n + 1) _ ?_
      simp only [List.map_cons]
      refine (List.perm_middle.nodup_iff).mpr ?_
      exact List.nodup_cons.mpr h
    · exact cellsFrom_keys r n acc h.2

theorem RelL.zip {C : Cx} {B : Base} {σ : List Addr} {x : Str} {v : V} : ∀ {xs : List Str} {args : List V} {vals : List Value},RelL C B σ args vals → (x,v) ∈ xs.zip args → ∃ val,(x,val) ∈ xs.zip vals ∧ Rel C B σ v val
  | [],_,_,_,h => by cases h
  | _ :: _,[],_,_,h => by cases h
  | y :: xs,a :: args,vals,hr,h => by
    simp only [RelL] at hr
    obtain ⟨w,r,rfl,h1,h2⟩ := hr
    simp only [List.zip_cons_cons,List.mem_cons,Prod.mk.injEq] at h ⊢
    rcases h with ⟨rfl,rfl⟩ | h
    · exact ⟨w,.inl ⟨rfl,rfl⟩,h1⟩
    · obtain ⟨val,h3,h4⟩ := RelL.zip h2 h
      exact ⟨val,.inr h3,h4⟩
theorem RelL.length {C : Cx} {B : Base} {σ : List Addr} : ∀ {args : List V} {vals : List Value},RelL C B σ args vals → vals.length = args.length
  | [],_,h => by simp only [RelL] at h; subst h; rfl
  | _ :: _,_,h => by
    simp only [RelL] at h
    obtain ⟨w,r,rfl,_,h2⟩ := h
    simp only [List.length_cons,RelL.length h2]
theorem zip_keys_sub {α β : Type} : ∀ (xs : List α) (ys : List β),((xs.zip ys).map (·.1)).Sublist xs
  | [],_ => by simp
  | _ :: _,[] => by simp
  | x :: xs,y :: ys => by simp only [List.zip_cons_cons,List.map_cons]; exact (zip_keys_sub xs ys).cons_cons x

theorem mkVars_keys (names : List (Str × NameKind)) (binds : List (Str × V)) : ((mkVars names binds).map (·.1)).Sublist (names.map (·.1)) := by
  unfold mkVars
  induction names with
  | nil => exact .slnil
  | cons p r ih =>
    rw [List.filterMap_cons]
    split
    · exact ih.cons _
    · rename_i q
      split at q
      · cases q; exact ih.cons_cons _
      · cases q
theorem mkVars_mem {names : List (Str × NameKind)} {binds : List (Str × V)} {x : Str} {v : V} (h : (x,v) ∈ mkVars names binds) : ∃ k,(x,k) ∈ names ∧ (k = .local ∨ k = .cell) ∧ v = lookS x binds := by
  unfold mkVars at h
  obtain ⟨p,hp,h⟩ := List.mem_filterMap.mp h
  split at h
  · rename_i q
    cases h
    refine ⟨p.2,hp,?_,rfl⟩
    simpa [kindIs] using q
  · cases h
theorem mkGl_mem {names : List (Str × NameKind)} {tab : List (Str × V)} {x : Str} {v : V} (h : (x,v) ∈ mkGl names tab) : (x,NameKind.globalImplicit) ∈ names ∧ (x,v) ∈ tab := by
  unfold mkGl at h
  obtain ⟨p,hp,h⟩ := List.mem_filterMap.mp h
  split at h
  · rename_i q
    obtain ⟨w,h1,h2⟩ := Option.map_eq_some_iff.mp h
    cases h2
    have q' : p.2 = .globalImplicit := by simpa [kindIs] using q
    exact ⟨by rw [← q']; exact hp,lookS?_mem h1⟩
  · cases h

structure ScopeOk (sc : Scope) (xs : List Str) : Prop where
  kind : sc.kind = .function
  co : sc.isCoroutine = false
  gen : sc.isGenerator = false
  nodup : (sc.names.map (·.1)).Nodup
  debug : ∀ x k,(x,k) ∈ sc.names → (x == ("__debug__" : Str)) = false
  xsn : xs.Nodup
  par : ∀ x ∈ xs,sc.names.lookup x = some .local ∨ sc.names.lookup x = some .cell
theorem scopeOk_iff {sc : Scope} {xs : List Str} (h : scopeOk sc xs = true) : ScopeOk sc xs := by
  simp only [scopeOk,Bool.and_eq_true,Bool.not_eq_true',beq_iff_eq,List.all_eq_true,List.any_eq_true] at h
  obtain ⟨⟨⟨⟨⟨⟨h1,h2⟩,h3⟩,h4⟩,h5⟩,h6⟩,h7⟩ := h
  have hn := nodupS_iff h4
  refine ⟨h1,h2,h3,hn,fun x k hm => ?_,nodupS_iff h6,fun x hx => ?_⟩
  · have := h5 (x,k) hm
    cases q : x == ("__debug__" : Str) with
    | false => rfl
    | true => rw [eqS_iff.mpr (beq_iff_eq.mp q)] at this; cases this
  · obtain ⟨p,hp,h8,h9⟩ := h7 x hx
    have hpx : p.1 = x := eqS_iff.mp h8
    have hl := lookup_of_nodup (x := p.1) (y := p.2) hn hp
    rw [hpx] at hl
    rw [hl]
    have : p.2 = .local ∨ p.2 = .cell := by simpa [kindIs] using h9
    exact this.imp (fun q => by rw [q]) fun q => by rw [q]

theorem G.ext {C : Cx} {kp B : Base} {σ : List Addr} {hp : List AObj} {s s' : Shared} (hG : G C kp B σ hp s) (k : ∀ b o,s.heap.get? b = some o → s'.heap.get? b = some o) (hg : AllBare s'.gens) (hos : s'.os = s.os) (htk : s.toks ≤ s'.toks) : G C kp B σ hp s' := by
  have hn := get_none_size s.heap
  refine hG.but (x := s.heap.objs.size) ?_ ?_ (fun i ao h1 h2 h3 => ?_) (fun b o _ h => k b o h) hg hos htk
  · cases q : kp s.heap.objs.size with
    | none => rfl
    | some o => rw [(hG.kh _ o q).1] at hn; cases hn
  · cases q : B s.heap.objs.size with
    | none => rfl
    | some o => rw [hG.bh _ o q] at hn; cases hn
  · obtain ⟨_,_,⟨o,g⟩,_⟩ := hG.own i _ ao h1 h2 h3; rw [g] at hn; cases hn
theorem G.out {C : Cx} {kp B : Base} {σ : List Addr} {hp : List AObj} {s : Shared} (hG : G C kp B σ hp s) {a : Addr} (ha : s.heap.get? a = none) :
    kp a = none ∧ B a = none ∧ ∀ (i : Nat) (ao : AObj),σ[i]? = some a → hp[i]? = some ao → ¬ ao.live := by
  refine ⟨?_,?_,fun i ao h1 h2 h3 => ?_⟩
  · cases q : kp a with
    | none => rfl
    | some o => rw [(hG.kh a o q).1] at ha; cases ha
  · cases q : B a with
    | none => rfl
    | some o => rw [hG.bh a o q] at ha; cases ha
  · obtain ⟨_,_,⟨o,g⟩,_⟩ := hG.own i a ao h1 h2 h3; rw [g] at ha; cases ha

noncomputable def AF.val : AF → V
  | .ret v => v
  | _ => .none

theorem call_introC {C : Cx} {i d : Nat} {name qual : Str} {params : Arguments} {body : List Stmt} {scope : Scope} {args : List V} {hp : List AObj} {Q : V → List AObj → Prop} {xs : List Str} {vars0 gl0 : List (Str × V)}
    (hdef : fnAt i = some (name,qual,params,body,scope))
    (hb : ∀ (dV doc pm cdv ct : Value) (an : Option Addr) (vals : List Value),vals.length = args.length → (params.defaults.isEmpty = true → dV = .none) → (params.defaults.isEmpty = false → ∃ T : Addr,dV = .ref T) →
      ∀ s : Shared,(∀ T,dV = .ref T → params.defaults.isEmpty = false → ∃ o n,s.heap.get? T = some o ∧ o.data = .seq #[.bool false] n) →
      ∃ vals',BindsTo s (fnOf name qual params body scope dV .none doc pm an cdv ct) ⟨vals,[]⟩ (xs.zip (vals ++ vals')) ∧ ((vals' = [] ∧ xs.length = args.length) ∨ (vals' = [.bool false] ∧ xs.length = args.length + 1)))
    (hsc : scopeOk scope xs = true)
    (hv : mkVars scope.names (xs.zip (if xs.length = args.length then args else args ++ [.bool false])) = vars0) (hg : mkGl scope.names globTab = gl0)
    (h : ∀ e : Env,e.scope = scope → GL C e gl0 → ((i = 5 ∨ i = 6) → e.code = .ref (C.tc i)) → TF C d e (execs body e) ⟨vars0,hp⟩ (fun f st' => Q f.val st'.hp)) : Calls C (d + 1) (.fn i) args hp Q := by
  intro A kp B σ s fv vals hA hG hf hvs
  have hsc := scopeOk_iff hsc
  obtain ⟨f,rfl,name',qual',params',body',scope',dV,doc,pm,cdv,ct,oc,an,od,osl,hdef',hget,hcd,hd0,hdv,htc⟩ := hf
  rw [hdef] at hdef'; cases hdef'
  have hbase : Sub C.b0 s.heap.get? := hG.b0.trans hG.bh
  have hlen := RelL.length hvs
  obtain ⟨vals',hbt,hvals'⟩ := hb dV doc pm cdv ct an vals hlen hd0 (fun q => by obtain ⟨T,_,_,h1,_⟩ := hdv q; exact ⟨T,h1⟩) s
    (fun T hT q => by obtain ⟨T',o,n,h1,h2,h3⟩ := hdv q; rw [hT] at h1; cases h1; exact ⟨o,n,hbase _ _ h2,h3⟩)
  generalize hargs' : (if xs.length = args.length then args else args ++ [V.bool false]) = args' at hv
  have hvs' : RelL C B σ args' (vals ++ vals') := by
    rcases hvals' with ⟨rfl,q⟩ | ⟨rfl,q⟩
    · rw [if_pos q] at hargs'; subst hargs'; rw [List.append_nil]; exact hvs
    · rw [if_neg (by (first|lia -abstractProof|omega))] at hargs'; subst hargs'
      clear hbt hlen hv
      induction args generalizing vals with
      | nil => simp only [RelL] at hvs; subst hvs; exact ⟨_,_,rfl,rfl,rfl⟩
      | cons a r ih =>
        simp only [RelL] at hvs
        obtain ⟨w,r',rfl,h1,h2⟩ := hvs
        clear ih
        have go : ∀ {r : List V} {r' : List Value},RelL C B σ r r' → RelL C B σ (r ++ [V.bool false]) (r' ++ [Value.bool false]) := by
          intro r
          induction r with
          | nil => intro r' hr; simp only [RelL] at hr; subst hr; exact ⟨_,_,rfl,rfl,rfl⟩
          | cons a r ih => intro r' hr; simp only [RelL] at hr; obtain ⟨w,r'',rfl,h1,h2⟩ := hr; exact ⟨_,_,rfl,h1,ih h2⟩
        exact ⟨_,_,rfl,h1,go h2⟩
  refine codeAny_call_function (Nat.lt_of_lt_of_le (by have := hA.2.1; (first|lia -abstractProof|omega) : A.depth < 990) (by decide)) (hbase f _ hget) rfl hsc.co hsc.gen rfl (hcd _ hbase) (hbt _ _ _ _ ?_)
  have hzk : ((xs.zip (vals ++ vals')).map (·.1)).Nodup := (zip_keys_sub _ _).nodup hsc.xsn
  have hpar : ∀ x ∈ xs.zip (vals ++ vals'),x.1 ∈ xs := fun x hx => (zip_keys_sub xs (vals ++ vals')).subset (List.mem_map.mpr ⟨x,hx,rfl⟩)
  refine wpAny_with_toks (Nat.le_refl s.toks) (wpAny_newFunctionEnv_cells hsc.kind (fun x hx => ?_) fun env he s' x htk => ?_)
  · refine (hsc.par x.1 (hpar x hx)).imp id fun q => ⟨q,?_⟩
    exact W.cellsFrom_some scope.names (s.heap.objs.size + 1) [] (.inl q)
  have hbase' : Sub C.b0 s'.heap.get? := fun a o q => x.toInCall.keep a o (hbase a o q)
  refine ⟨hG.ok.lim _ hbase',codeAny_func ?_⟩
  have hsame : AllBare s'.gens ∧ s'.os = s.os := by obtain ⟨h',tk,rfl⟩ := x.toInCall.same; exact ⟨hG.gens,rfl⟩
  have hGs' : G C kp B σ hp s' := hG.ext x.toInCall.keep hsame.1 hsame.2 htk
  have hes : env.scope = scope := by rw [he]; rfl
  have hkind : ∀ y,env.kindOf y = scope.names.lookup y := fun y => by rw [Env.kindOf,hes]
  have hel : env.locals = s.heap.objs.size := by rw [he]; rfl
  have hec : env.cells = cellsFrom (s.heap.objs.size + 1) scope.names [] := by rw [he]; rfl
  have hck : (env.cells.map (·.1)).Nodup := by rw [hec]; exact cellsFrom_keys _ _ _ (by simpa using hsc.nodup)
  have hcellAt : ∀ n c,(n,c) ∈ env.cells → s'.heap.IsCell c (bindC env.kindOf (xs.zip (vals ++ vals')) (fun _ => none) n) := fun n c hm => x.cell n c (lookup_of_nodup hck hm)
  have hnone : ∀ a ∈ privs env,s.heap.get? a = none := fun a ha => by
    have hge : s.heap.objs.size ≤ a := by
      rcases List.mem_cons.mp ha with rfl | ha
      · exact Nat.le_of_eq hel.symm
      · obtain ⟨p,hp',rfl⟩ := List.mem_map.mp ha
        have := x.above p.1 p.2 hp'
        rw [hel] at this; exact Nat.le_of_lt this
    cases q : s.heap.get? a with
    | none => rfl
    | some o => exact absurd (Heap.lt_size q) (Nat.not_lt.mpr hge)
  have hvar : ∀ y v,(y,v) ∈ vars0 → ∃ k,scope.names.lookup y = some k ∧ (k = .local ∨ k = .cell) ∧ (v = .undef ∨ ∃ val,(y,val) ∈ xs.zip (vals ++ vals') ∧ Rel C B σ v val) := fun y v hy => by
    rw [← hv] at hy
    obtain ⟨k,h1,h2,h3⟩ := mkVars_mem hy
    refine ⟨k,lookup_of_nodup hsc.nodup h1,h2,?_⟩
    unfold lookS at h3
    cases q : lookS? y (xs.zip args') with
    | none => rw [q] at h3; exact .inl h3
    | some u =>
      rw [q] at h3
      have h3 : v = u := h3
      subst h3
      exact .inr (RelL.zip hvs' (lookS?_mem q))
  have hL : L C kp B σ env ⟨vars0,hp⟩ s' := by
    refine ⟨by rw [hes]; exact hsc.kind,by rw [he]; rfl,by rw [he]; rfl,?_,⟨_,x.toInCall.ns,fun y v hy hk => ?_⟩,fun y v hy => ?_,fun y v hy hk => ?_,fun a ha => hG.out (hnone a ha),?_,fun a ha => ?_⟩
    · rw [← hv]; exact (mkVars_keys _ _).nodup hsc.nodup
    · obtain ⟨k,h1,h2,h3⟩ := hvar y v hy
      refine h3.imp id fun ⟨val,h4,h5⟩ => ⟨val,bindL_get hk _ _ hzk (.inl h4),h5⟩
    · obtain ⟨k,h1,h2,h3⟩ := hvar y v hy
      refine ⟨?_,hsc.debug y k (TC.mem_of_lookup h1)⟩
      rw [hkind,h1]
      exact h2.imp (fun q => by rw [q]) fun q => by rw [q]
    · obtain ⟨k,h1,h2,h3⟩ := hvar y v hy
      have hks : scope.names.lookup y = some .cell := by rw [← hkind]; exact hk
      obtain ⟨c,hc⟩ := Option.isSome_iff_exists.mp (W.cellsFrom_some scope.names (s.heap.objs.size + 1) [] (.inl hks))
      rw [← hec] at hc
      obtain ⟨o,g1,g2⟩ := x.cell y c hc
      refine ⟨c,o,_,hc,g1,g2,h3.imp id fun ⟨val,h4,h5⟩ => ⟨val,bindC_get (by rw [hk]; decide) _ _ hzk (.inl h4),h5⟩⟩
    · refine List.nodup_cons.mpr ⟨fun q => ?_,?_⟩
      · obtain ⟨p,hp',q⟩ := List.mem_map.mp q
        have := x.above p.1 p.2 hp'
        rw [q] at this; exact Nat.lt_irrefl _ this
      · rw [List.nodup_iff_pairwise_ne,List.pairwise_map]; exact x.apart
    · rcases List.mem_cons.mp ha with rfl | ha
      · obtain ⟨o,_,_,h1,_⟩ := x.toInCall.ns; exact ⟨o,h1⟩
      · obtain ⟨p,hp',rfl⟩ := List.mem_map.mp ha
        obtain ⟨o,h1,_⟩ := hcellAt p.1 p.2 hp'
        exact ⟨o,h1⟩
  have hGL : GL C env gl0 := fun y v hy => by
    rw [← hg] at hy
    obtain ⟨h1,h2⟩ := mkGl_mem hy
    exact ⟨by rw [hkind]; exact lookup_of_nodup hsc.nodup h1,hsc.debug y _ h1,hG.ok.tab y v h2⟩
  have hA' : AOk d (A.deeper env) := ⟨hA.1,by show A.depth + 1 + d ≤ 990; have := hA.2.1; (first|lia -abstractProof|omega),by show A.units + 3 + 8 * d ≤ 9800; have := hA.2.2; (first|lia -abstractProof|omega)⟩
  refine wpAny_mono (h env hes hGL (fun q => by rw [he]; exact htc q) _ kp B σ s' hA' ⟨hGs',hL⟩) (fun fl s'' hp' => ?_) fun _ _ q => q.elim
  obtain ⟨B',σ',b,st',h1,h2,h3,h4,h5⟩ := hp'
  refine ⟨_,B',σ',b.val,st'.hp,rfl,h1,h2,h3.g,?_,h5⟩
  cases b with
  | ret v => obtain ⟨w,rfl,hw⟩ := h4; exact hw
  | next => have h4 : fl = .next := h4; subst h4; exact rfl
  | brk => have h4 : fl = .brk := h4; subst h4; exact rfl
  | cont => have h4 : fl = .cont := h4; subst h4; exact rfl
theorem call_intro {C : Cx} {i d : Nat} {name qual : Str} {params : Arguments} {body : List Stmt} {scope : Scope} {args : List V} {hp : List AObj} {Q : V → List AObj → Prop} {xs : List Str} {vars0 gl0 : List (Str × V)}
    (hdef : fnAt i = some (name,qual,params,body,scope))
    (hb : ∀ (dV doc pm cdv ct : Value) (an : Option Addr) (vals : List Value),vals.length = args.length → (params.defaults.isEmpty = true → dV = .none) → (params.defaults.isEmpty = false → ∃ T : Addr,dV = .ref T) →
      ∀ s : Shared,(∀ T,dV = .ref T → params.defaults.isEmpty = false → ∃ o n,s.heap.get? T = some o ∧ o.data = .seq #[.bool false] n) →
      ∃ vals',BindsTo s (fnOf name qual params body scope dV .none doc pm an cdv ct) ⟨vals,[]⟩ (xs.zip (vals ++ vals')) ∧ ((vals' = [] ∧ xs.length = args.length) ∨ (vals' = [.bool false] ∧ xs.length = args.length + 1)))
    (hsc : scopeOk scope xs = true)
    (hv : mkVars scope.names (xs.zip (if xs.length = args.length then args else args ++ [.bool false])) = vars0) (hg : mkGl scope.names globTab = gl0)
    (h : ∀ e : Env,e.scope = scope → GL C e gl0 → TF C d e (execs body e) ⟨vars0,hp⟩ (fun f st' => Q f.val st'.hp)) : Calls C (d + 1) (.fn i) args hp Q :=
  call_introC hdef hb hsc hv hg fun e he hgl _ => h e he hgl
theorem len0 {α : Type} {l : List α} (h : l.length = 0) : l = [] := List.length_eq_zero_iff.mp h
theorem len1 {α : Type} {l : List α} (h : l.length = 1) : ∃ a,l = [a] := List.length_eq_one_iff.mp h
theorem lenS {α : Type} {l : List α} {n : Nat} (h : l.length = n + 1) : ∃ a r,l = a :: r ∧ r.length = n := by
  cases l with
  | nil => cases h
  | cons a r => exact ⟨a,r,rfl,Nat.succ.inj h⟩
theorem len2 {α : Type} {l : List α} (h : l.length = 2) : ∃ a b,l = [a,b] := by
  obtain ⟨a,r,rfl,h'⟩ := lenS h; obtain ⟨b,rfl⟩ := len1 h'; exact ⟨a,b,rfl⟩
theorem len3 {α : Type} {l : List α} (h : l.length = 3) : ∃ a b c,l = [a,b,c] := by
  obtain ⟨a,r,rfl,h'⟩ := lenS h; obtain ⟨b,c,rfl⟩ := len2 h'; exact ⟨a,b,c,rfl⟩
theorem len4 {α : Type} {l : List α} (h : l.length = 4) : ∃ a b c d,l = [a,b,c,d] := by
  obtain ⟨a,r,rfl,h'⟩ := lenS h; obtain ⟨b,c,d,rfl⟩ := len3 h'; exact ⟨a,b,c,d,rfl⟩
theorem len5 {α : Type} {l : List α} (h : l.length = 5) : ∃ a b c d e,l = [a,b,c,d,e] := by
  obtain ⟨a,r,rfl,h'⟩ := lenS h; obtain ⟨b,c,d,e,rfl⟩ := len4 h'; exact ⟨a,b,c,d,e,rfl⟩
theorem len6 {α : Type} {l : List α} (h : l.length = 6) : ∃ a b c d e f,l = [a,b,c,d,e,f] := by
  obtain ⟨a,r,rfl,h'⟩ := lenS h; obtain ⟨b,c,d,e,f,rfl⟩ := len5 h'; exact ⟨a,b,c,d,e,f,rfl⟩
theorem len7 {α : Type} {l : List α} (h : l.length = 7) : ∃ a b c d e f g,l = [a,b,c,d,e,f,g] := by
  obtain ⟨a,r,rfl,h'⟩ := lenS h; obtain ⟨b,c,d,e,f,g,rfl⟩ := len6 h'; exact ⟨a,b,c,d,e,f,g,rfl⟩
end
section
abbrev NoE : Value → Shared → Prop := fun _ _ => False

section
variable {C : Cx} {d : Nat} {e : Env} {st : St}

noncomputable def Bin (C : Cx) (d : Nat) (e : Env) (f : Value → Value → Sem Value) (a b : V) (st : St) (Q : V → St → Prop) : Prop :=
  ∀ A kp B σ s va vb,AOk d A → S C kp B σ e st s → Rel C B σ a va → Rel C B σ b vb → wpAny (model P C.w) A (f va vb) (Post C kp B σ e (Rel C) Q) NoE s
noncomputable def Un (C : Cx) (d : Nat) (e : Env) (f : Value → Sem Value) (a : V) (st : St) (Q : V → St → Prop) : Prop :=
  ∀ A kp B σ s va,AOk d A → S C kp B σ e st s → Rel C B σ a va → wpAny (model P C.w) A (f va) (Post C kp B σ e (Rel C) Q) NoE s
noncomputable def Ap (C : Cx) (d : Nat) (e : Env) (f : V) (args : List V) (st : St) (Q : V → St → Prop) : Prop :=
  ∀ A kp B σ s fv vals,AOk d A → S C kp B σ e st s → Rel C B σ f fv → RelL C B σ args vals → wpAny (model P C.w) A (call fv vals []) (Post C kp B σ e (Rel C) Q) NoE s
noncomputable def Truth (C : Cx) (d : Nat) (e : Env) (a : V) (st : St) (Q : Bool → St → Prop) : Prop :=
  ∀ A kp B σ s va,AOk d A → S C kp B σ e st s → Rel C B σ a va → wpAny (model P C.w) A (truthy va) (Post C kp B σ e (RelE (α := Bool)) Q) NoE s
noncomputable def Asg (C : Cx) (d : Nat) (e : Env) (target : Expr) (a : V) (st : St) (Q : St → Prop) : Prop :=
  ∀ A kp B σ s va,AOk d A → S C kp B σ e st s → Rel C B σ a va → wpAny (model P C.w) A (assign target e va) (Post C kp B σ e (RelE (α := Unit)) fun _ st' => Q st') NoE s

theorem Post.imp {α β : Type} {kp B : Base} {σ : List Addr} {rel : Base → List Addr → β → α → Prop} {Q Q' : β → St → Prop} {v : α} {s : Shared} (h : Post C kp B σ e rel Q v s) (hq : ∀ b st,Q b st → Q' b st) : Post C kp B σ e rel Q' v s := by
  obtain ⟨B',σ',b,st',h1,h2,h3,h4,h5⟩ := h; exact ⟨B',σ',b,st',h1,h2,h3,h4,hq _ _ h5⟩

theorem T_nil {Q : AF → St → Prop} (h : Q .next st) : TF C d e (execs [] e) st Q := fun A kp B σ s hA hS => wpAny_execs_nil (Post.here hS (show RelF C B σ .next .next from rfl) h)
theorem T_cons {x : Stmt} {r : List Stmt} {Q : AF → St → Prop} (h : TF C d e (exec x e) st (fun f st₁ => match f with | .next => TF C d e (execs r e) st₁ Q | f => Q f st₁)) : TF C d e (execs (x :: r) e) st Q := by
  intro A kp B σ s hA hS
  refine wpAny_execs_cons (wpAny_mono (h A kp B σ s hA hS) (fun f s₁ hp => ?_) fun _ _ x => x)
  obtain ⟨B₁,σ₁,b,st₁,h1,h2,h3,h4,h5⟩ := hp
  cases b with
  | next =>
    have h4 : f = .next := h4
    subst h4
    exact wpAny_mono (h5 A kp B₁ σ₁ s₁ hA h3) (fun _ _ p => p.weaken h1 h2) fun _ _ x => x
  | brk => have h4 : f = .brk := h4; subst h4; exact ⟨B₁,σ₁,.brk,st₁,h1,h2,h3,rfl,h5⟩
  | cont => have h4 : f = .cont := h4; subst h4; exact ⟨B₁,σ₁,.cont,st₁,h1,h2,h3,rfl,h5⟩
  | ret v => obtain ⟨x,rfl,hx⟩ := h4; exact ⟨B₁,σ₁,.ret v,st₁,h1,h2,h3,⟨x,rfl,hx⟩,h5⟩
theorem T_seq {x : Stmt} {r : List Stmt} {R : St → Prop} {Q : AF → St → Prop} (h : TF C d e (exec x e) st (fun f st₁ => f = .next ∧ R st₁)) (k : ∀ st₁,R st₁ → TF C d e (execs r e) st₁ Q) : TF C d e (execs (x :: r) e) st Q :=
  T_cons (T.mono h fun f st₁ ⟨h1,h2⟩ => by subst h1; exact k st₁ h2)
theorem T_If {test : Expr} {body orelse : List Stmt} {pos : Pos} {Q : AF → St → Prop}
    (h : TB C d e (isTrue test e (eval test e)) st (fun b st₁ => if b = true then TF C d e (execs body e) st₁ Q else TF C d e (execs orelse e) st₁ Q)) : TF C d e (exec (.If test body orelse pos) e) st Q := by
  intro A kp B σ s hA hS
  refine wpAny_If (wpAny_mono (h A kp B σ s hA hS) (fun b s₁ hp => ?_) fun _ _ x => x)
  obtain ⟨B₁,σ₁,b',st₁,h1,h2,h3,h4,h5⟩ := hp
  have h4 : b = b' := h4
  subst h4
  cases b
  · simp only [Bool.false_eq_true,if_false] at h5 ⊢
    exact wpAny_mono (h5 A kp B₁ σ₁ s₁ hA h3) (fun _ _ p => p.weaken h1 h2) fun _ _ x => x
  · simp only [if_true] at h5 ⊢
    exact wpAny_mono (h5 A kp B₁ σ₁ s₁ hA h3) (fun _ _ p => p.weaken h1 h2) fun _ _ x => x
theorem T_Return {x : Expr} {pos : Pos} {Q : AF → St → Prop} (h : TV C d e (eval x e) st fun v st₁ => Q (.ret v) st₁) : TF C d e (exec (.Return (some x) pos) e) st Q := by
  intro A kp B σ s hA hS
  refine wpAny_Return_some (wpAny_mono (h A kp B σ s hA hS) (fun v s₁ hp => ?_) fun _ _ x => x)
  obtain ⟨B₁,σ₁,b,st₁,h1,h2,h3,h4,h5⟩ := hp
  exact ⟨B₁,σ₁,.ret b,st₁,h1,h2,h3,⟨v,rfl,h4⟩,h5⟩
theorem T_Break {pos : Pos} {Q : AF → St → Prop} (h : Q .brk st) : TF C d e (exec (.Break pos) e) st Q := fun A kp B σ s hA hS => wpAny_Break (Post.here hS (show RelF C B σ .brk .brk from rfl) h)
theorem T_Continue {pos : Pos} {Q : AF → St → Prop} (h : Q .cont st) : TF C d e (exec (.Continue pos) e) st Q := fun A kp B σ s hA hS => wpAny_Continue (Post.here hS (show RelF C B σ .cont .cont from rfl) h)
theorem T_Expr {x : Expr} {pos : Pos} {Q : AF → St → Prop} (h : TV C d e (eval x e) st fun _ st₁ => Q .next st₁) (hsw : swapsWith x none pos.line e = pure false := by with_unfolding_all rfl) : TF C d e (exec (.Expr x pos) e) st Q := by
  intro A kp B σ s hA hS
  refine wpAny_Expr_any (wpAny_mono (h A kp B σ s hA hS) (fun v s₁ hp => ?_) fun _ _ x => x) (by unfold interactive; rw [hS.l.fn]; rfl) hsw
  obtain ⟨B₁,σ₁,b,st₁,h1,h2,h3,h4,h5⟩ := hp
  exact ⟨B₁,σ₁,.next,st₁,h1,h2,h3,rfl,h5⟩
theorem T_Assert {x : Expr} {msg : Option Expr} {pos : Pos} {Q : AF → St → Prop} (h : TB C d e (isTrue x e (eval x e)) st fun b st₁ => b = true ∧ Q .next st₁) : TF C d e (exec (.Assert x msg pos) e) st Q := by
  intro A kp B σ s hA hS
  refine wpAny_Assert_holds (wpAny_mono (h A kp B σ s hA hS) (fun v s₁ hp => ?_) fun _ _ x => x)
  obtain ⟨B₁,σ₁,b,st₁,h1,h2,h3,h4,h5,h6⟩ := hp
  have h4 : v = b := h4
  exact ⟨h4.trans h5,B₁,σ₁,.next,st₁,h1,h2,h3,rfl,h6⟩

theorem Asg_Name {x : Str} {pos : Pos} {v : V} {vars' : List (Str × V)} {Q : St → Prop} (U : Upd x v st.vars vars') (h : Q ⟨vars',st.hp⟩) : Asg C d e (.Name x pos) v st Q :=
  fun A kp B σ s va hA hS hr => wpAny_assign_Name (store_ok hS hr U fun s' hS' => Post.here (b := ()) hS' rfl h)
noncomputable def AsgL (C : Cx) (d : Nat) (e : Env) : List Expr → List V → St → (St → Prop) → Prop
  | [],[],st,Q => Q st
  | t :: ts,v :: vs,st,Q => Asg C d e t v st fun st' => AsgL C d e ts vs st' Q
  | _,_,_,_ => False
theorem AsgL_run {A : Around} {kp B : Base} {σ : List Addr} (hA : AOk d A) : ∀ (ts : List Expr) (vs : List V) (st : St) (s : Shared) (B₁ : Base) (σ₁ : List Addr) (vals : List Value) (Q : St → Prop),AsgL C d e ts vs st Q → Sub B B₁ → σ <+: σ₁ → S C kp B₁ σ₁ e st s → RelL C B₁ σ₁ vs vals →
    wpAny (model P C.w) A (assignInOrder (ts.map fun t => assign t e) vals) (Post C kp B σ e (RelE (α := Unit)) fun _ st' => Q st') NoE s
  | [],[],st,s,B₁,σ₁,vals,Q,h,hB,hσ,hS,hr => by
    simp only [RelL] at hr; subst hr
    exact wpAny_assignInOrder_none ⟨B₁,σ₁,(),st,hB,hσ,hS,rfl,h⟩
  | t :: ts,v :: vs,st,s,B₁,σ₁,vals,Q,h,hB,hσ,hS,hr => by
    simp only [RelL] at hr
    obtain ⟨w,r,rfl,hw,hr⟩ := hr
    refine wpAny_assignInOrder_more (wpAny_mono (h A kp B₁ σ₁ s w hA hS hw) (fun _ s₁ hp => ?_) fun _ _ x => x)
    obtain ⟨B₂,σ₂,_,st₂,h1,h2,h3,_,h5⟩ := hp
    exact AsgL_run hA ts vs st₂ s₁ B₂ σ₂ r Q h5 (hB.trans h1) (hσ.trans h2) h3 (RelL.mono h1 h2 hr)
  | [],_ :: _,_,_,_,_,_,_,h,_,_,_,_ => h.elim
  | _ :: _,[],_,_,_,_,_,_,h,_,_,_,_ => h.elim
theorem Asg_Tuple {elts : List Expr} {k : Nat} {pos : Pos} {vs : List V} {Q : St → Prop} (h : AsgL C d e elts vs st Q)
    (hlen : elts.length = vs.length := by with_unfolding_all rfl) (hel : assignEach elts e = elts.map (fun t => (false,assign t e)) := by with_unfolding_all rfl) : Asg C d e (.Tuple elts k pos) (.tup vs) st Q := by
  intro A kp B σ s va hA hS hr
  simp only [Rel] at hr
  obtain ⟨a,items,n,rfl,h1,h2⟩ := hr
  have hT : s.heap.IsTuple a items := ⟨_,hS.g.bh _ _ h1,rfl,n,rfl⟩
  have hl : items.toList.length = vs.length := RelL.length h2
  refine wpAny_assign_Tuple hA.1 hT (by rw [hel,List.length_map,hlen,← hl]; simp) (by rw [hel]; simp [List.findIdx?_eq_none_iff]) fun h' hx => ?_
  have hS' : S C kp B σ e st ⟨h',s.gens,s.drawn,s.toks,s.os⟩ := hS.but (Free.fresh hS (get_none_size _)) (fun b o hb hg => hx b o hb hg) hS.g.gens rfl (Nat.le_refl _)
  have := AsgL_run (kp := kp) (B := B) (σ := σ) hA elts vs st _ B σ items.toList Q h (Sub.refl B) (List.prefix_refl σ) hS' h2
  rw [hel,List.map_map]; exact this

theorem T_Assign1 {t value : Expr} {pos : Pos} {Q : AF → St → Prop} (h : TV C d e (eval value e) st fun v st₁ => Asg C d e t v st₁ (Q .next))
    (h1 : (assignEach [t] e).map (·.2) = [assign t e] := by with_unfolding_all rfl) (h2 : swapsWithSole [t] value pos.line e = pure false := by with_unfolding_all rfl) (h3 : swappedStores [t] value e = pure none := by with_unfolding_all rfl) : TF C d e (exec (.Assign [t] value pos) e) st Q := by
  intro A kp B σ s hA hS
  refine wpAny_Assign_stores (wpAny_mono (h A kp B σ s hA hS) (fun v s₁ hp => ?_) fun _ _ x => x) h2 h3
  obtain ⟨B₁,σ₁,b,st₁,g1,g2,g3,g4,g5⟩ := hp
  rw [h1]
  refine wpAny_mono (g5 A kp B₁ σ₁ s₁ v hA g3 g4) (fun _ s₂ hp₂ => ?_) fun _ _ x => x
  obtain ⟨B₂,σ₂,_,st₂,k1,k2,k3,_,k5⟩ := hp₂
  exact ⟨B₂,σ₂,.next,st₂,g1.trans k1,g2.trans k2,k3,rfl,k5⟩
theorem T_Assign2 {t₁ t₂ value : Expr} {pos : Pos} {Q : AF → St → Prop} (h : TV C d e (eval value e) st fun v st₁ => Asg C d e t₁ v st₁ fun st₂ => Asg C d e t₂ v st₂ (Q .next))
    (h1 : (assignEach [t₁,t₂] e).map (·.2) = [assign t₁ e,assign t₂ e] := by with_unfolding_all rfl) (h3 : swappedStores [t₁,t₂] value e = pure none := by with_unfolding_all rfl) : TF C d e (exec (.Assign [t₁,t₂] value pos) e) st Q := by
  intro A kp B σ s hA hS
  refine wpAny_Assign_two (wpAny_mono (h A kp B σ s hA hS) (fun v s₁ hp => ?_) fun _ _ x => x) h1 h3
  obtain ⟨B₁,σ₁,b,st₁,g1,g2,g3,g4,g5⟩ := hp
  refine wpAny_mono (g5 A kp B₁ σ₁ s₁ v hA g3 g4) (fun _ s₂ hp₂ => ?_) fun _ _ x => x
  obtain ⟨B₂,σ₂,_,st₂,k1,k2,k3,_,k5⟩ := hp₂
  refine wpAny_mono (k5 A kp B₂ σ₂ s₂ v hA k3 (g4.mono k1 k2)) (fun _ s₃ hp₃ => ?_) fun _ _ x => x
  obtain ⟨B₃,σ₃,_,st₃,l1,l2,l3,_,l5⟩ := hp₃
  exact ⟨B₃,σ₃,.next,st₃,g1.trans (k1.trans l1),g2.trans (k2.trans l2),l3,rfl,l5⟩
theorem T_AugAssign {x : Str} {npos pos : Pos} {op : Operator} {value : Expr} {old : V} {Q : AF → St → Prop} (hm : (x,old) ∈ st.vars) (hne : old ≠ .undef)
    (h : TV C d e (eval value e) st fun v st₁ => Bin C d e (inplaceOp op) old v st₁ fun r st₂ => ∃ vars',Upd x r st₂.vars vars' ∧ Q .next ⟨vars',st₂.hp⟩) : TF C d e (exec (.AugAssign (.Name x npos) op value pos) e) st Q := by
  intro A kp B σ s hA hS
  refine wpAny_AugAssign_Name (load_ok hS hm hne fun val hr => wpAny_mono (h A kp B σ s hA hS) (fun v s₁ hp => ?_) fun _ _ x => x)
  obtain ⟨B₁,σ₁,b,st₁,g1,g2,g3,g4,g5⟩ := hp
  refine wpAny_mono (g5 A kp B₁ σ₁ s₁ val v hA g3 (hr.mono g1 g2) g4) (fun w s₂ hp₂ => ?_) fun _ _ x => x
  obtain ⟨B₂,σ₂,r,st₂,k1,k2,k3,k4,k5⟩ := hp₂
  obtain ⟨vars',U,hq⟩ := k5
  exact store_ok k3 k4 U fun s₃ hS₃ => ⟨B₂,σ₂,.next,_,g1.trans k1,g2.trans k2,hS₃,rfl,hq⟩
theorem T_While {test : Expr} {body orelse : List Stmt} {pos : Pos} {Q : AF → St → Prop} (I : Nat → St → Prop)
    (turn : ∀ n st₁,I n st₁ → TB C d e (isTrue test e (eval test e)) st₁ fun b st₂ => if b = true then TF C d e (execs body e) st₂ (fun f st₃ => match f with
        | .next | .cont => ∃ m,m < n ∧ I m st₃
        | .brk => Q .next st₃
        | .ret v => Q (.ret v) st₃) else TF C d e (execs orelse e) st₂ Q) (n : Nat) (h : I n st) : TF C d e (exec (.While test body orelse pos) e) st Q := by
  intro A kp B σ s hA hS
  refine wpAny_While (codeAny_whileLoop (fun n s₁ => ∃ B₁ σ₁ st₁,Sub B B₁ ∧ σ <+: σ₁ ∧ S C kp B₁ σ₁ e st₁ s₁ ∧ I n st₁) (fun n s₁ ⟨B₁,σ₁,st₁,g1,g2,g3,g4⟩ => ?_) n ⟨B,σ,st,Sub.refl B,List.prefix_refl σ,hS,h⟩)
  refine wpAny_mono (turn n st₁ g4 A kp B₁ σ₁ s₁ hA g3) (fun b s₂ hp => ?_) fun _ _ x => x.elim
  obtain ⟨B₂,σ₂,b',st₂,k1,k2,k3,k4,k5⟩ := hp
  have k4 : b = b' := k4
  subst k4
  cases b
  · simp only [Bool.false_eq_true,if_false] at k5 ⊢
    exact wpAny_mono (k5 A kp B₂ σ₂ s₂ hA k3) (fun _ _ p => p.weaken (g1.trans k1) (g2.trans k2)) fun _ _ x => x.elim
  · simp only [if_true] at k5 ⊢
    refine wpAny_mono (k5 A kp B₂ σ₂ s₂ hA k3) (fun f s₃ hp₃ => ?_) fun _ _ x => x.elim
    obtain ⟨B₃,σ₃,f',st₃,l1,l2,l3,l4,l5⟩ := hp₃
    have hB := g1.trans (k1.trans l1)
    have hσ := g2.trans (k2.trans l2)
    cases f' with
    | next =>
      have l4 : f = .next := l4
      subst l4
      obtain ⟨m,hm,hI⟩ := l5
      exact ⟨m,hm,B₃,σ₃,st₃,hB,hσ,l3,hI⟩
    | cont =>
      have l4 : f = .cont := l4
      subst l4
      obtain ⟨m,hm,hI⟩ := l5
      exact ⟨m,hm,B₃,σ₃,st₃,hB,hσ,l3,hI⟩
    | brk => have l4 : f = .brk := l4; subst l4; exact ⟨B₃,σ₃,.next,st₃,hB,hσ,l3,rfl,l5⟩
    | ret v => obtain ⟨x,rfl,hx⟩ := l4; exact ⟨B₃,σ₃,.ret v,st₃,hB,hσ,l3,⟨x,rfl,hx⟩,l5⟩
end
end
section
section
variable {C : Cx} {d : Nat} {e : Env} {st : St}

theorem T_int {i : Int} {k : Nat} {pos : Pos} {Q : V → St → Prop} (h : Q (.int i) st) : TV C d e (eval (.Constant (.int i) k pos) e) st Q :=
  fun A kp B σ s hA hS => wpAny_Constant_int (Post.here (hS.toks _ _) (show Rel C B σ (.int i) (.int i s.toks) from ⟨_,rfl⟩) h)
theorem T_str {x : Str} {l : List Nat} {k : Nat} {pos : Pos} {Q : V → St → Prop} (hl : x.cps.toList = l) (h : Q (.str l) st) : TV C d e (eval (.Constant (.str x) k pos) e) st Q :=
  fun A kp B σ s hA hS => wpAny_Constant_str (Post.here (hS.toks _ _) (show Rel C B σ (.str l) (.str x s.toks) from ⟨_,_,rfl,hl⟩) h)
theorem T_none {k : Nat} {pos : Pos} {Q : V → St → Prop} (h : Q .none st) : TV C d e (eval (.Constant .none k pos) e) st Q :=
  fun A kp B σ s hA hS => wpAny_Constant_none (Post.here hS (show Rel C B σ .none .none from rfl) h)
theorem T_bool {b : Bool} {k : Nat} {pos : Pos} {Q : V → St → Prop} (h : Q (.bool b) st) : TV C d e (eval (.Constant (.bool b) k pos) e) st Q :=
  fun A kp B σ s hA hS => wpAny_Constant_bool (Post.here hS (show Rel C B σ (.bool b) (.bool b) from rfl) h)

theorem T_BinOp {l r : Expr} {op : Operator} {pos : Pos} {Q : V → St → Prop}
    (h : TV C d e (eval l e) st fun a st₁ => TV C d e (eval r e) st₁ fun b st₂ => Bin C d e (binaryOp op) a b st₂ Q) : TV C d e (eval (.BinOp l op r pos) e) st Q := by
  intro A kp B σ s hA hS
  refine wpAny_BinOp (wpAny_mono (h A kp B σ s hA hS) (fun va s₁ hp => ?_) fun _ _ x => x)
  obtain ⟨B₁,σ₁,a,st₁,g1,g2,g3,g4,g5⟩ := hp
  refine wpAny_mono (g5 A kp B₁ σ₁ s₁ hA g3) (fun vb s₂ hp₂ => ?_) fun _ _ x => x
  obtain ⟨B₂,σ₂,b,st₂,k1,k2,k3,k4,k5⟩ := hp₂
  exact wpAny_mono (k5 A kp B₂ σ₂ s₂ va vb hA k3 (g4.mono k1 k2) k4) (fun _ _ p => p.weaken (g1.trans k1) (g2.trans k2)) fun _ _ x => x
theorem T_UnaryOp {x : Expr} {op : UnaryOp} {pos : Pos} {Q : V → St → Prop} (h : TV C d e (eval x e) st fun a st₁ => Un C d e (unaryOp op) a st₁ Q) : TV C d e (eval (.UnaryOp op x pos) e) st Q := by
  intro A kp B σ s hA hS
  refine wpAny_UnaryOp (wpAny_mono (h A kp B σ s hA hS) (fun va s₁ hp => ?_) fun _ _ x => x)
  obtain ⟨B₁,σ₁,a,st₁,g1,g2,g3,g4,g5⟩ := hp
  exact wpAny_mono (g5 A kp B₁ σ₁ s₁ va hA g3 g4) (fun _ _ p => p.weaken g1 g2) fun _ _ x => x
theorem T_IfExp {test body orelse : Expr} {pos : Pos} {Q : V → St → Prop}
    (h : TB C d e (isTrue test e (eval test e)) st fun b st₁ => if b = true then TV C d e (eval body e) st₁ Q else TV C d e (eval orelse e) st₁ Q) : TV C d e (eval (.IfExp test body orelse pos) e) st Q := by
  intro A kp B σ s hA hS
  refine wpAny_IfExp (wpAny_mono (h A kp B σ s hA hS) (fun b s₁ hp => ?_) fun _ _ x => x)
  obtain ⟨B₁,σ₁,b',st₁,h1,h2,h3,h4,h5⟩ := hp
  have h4 : b = b' := h4
  subst h4
  cases b
  · simp only [Bool.false_eq_true,if_false] at h5 ⊢
    exact wpAny_mono (h5 A kp B₁ σ₁ s₁ hA h3) (fun _ _ p => p.weaken h1 h2) fun _ _ x => x
  · simp only [if_true] at h5 ⊢
    exact wpAny_mono (h5 A kp B₁ σ₁ s₁ hA h3) (fun _ _ p => p.weaken h1 h2) fun _ _ x => x

noncomputable def Cmp (C : Cx) (d : Nat) (e : Env) (op : CmpOp) (a b : V) (st : St) (Q : Bool → St → Prop) : Prop :=
  ∀ A kp B σ s va vb,AOk d A → S C kp B σ e st s → Rel C B σ a va → Rel C B σ b vb → wpAny (model P C.w) A (compareOp op va vb) (Post C kp B σ e (fun _ _ c v => v = Value.bool c) Q) NoE s
theorem truthy_bool {M : Model} {A : Around} {b : Bool} {Q : Bool → Shared → Prop} {E : Value → Shared → Prop} {s : Shared} (h : Q b s) : wpAny M A (truthy (.bool b)) Q E s := wpAny_of_eq (a := b) rfl h
theorem T_Compare {l r : Expr} {op : CmpOp} {pos : Pos} {Q : V → St → Prop}
    (h : TV C d e (eval l e) st fun a st₁ => TV C d e (eval r e) st₁ fun b st₂ => Cmp C d e op a b st₂ fun c => Q (.bool c)) (hm : behindInMarks op r = false := by with_unfolding_all rfl) : TV C d e (eval (.Compare l [op] [r] pos) e) st Q := by
  intro A kp B σ s hA hS
  refine wpAny_Compare1 (wpAny_mono (h A kp B σ s hA hS) (fun va s₁ hp => ?_) fun _ _ x => x) hm
  obtain ⟨B₁,σ₁,a,st₁,g1,g2,g3,g4,g5⟩ := hp
  refine wpAny_mono (g5 A kp B₁ σ₁ s₁ hA g3) (fun vb s₂ hp₂ => ?_) fun _ _ x => x
  obtain ⟨B₂,σ₂,b,st₂,k1,k2,k3,k4,k5⟩ := hp₂
  refine wpAny_mono (k5 A kp B₂ σ₂ s₂ va vb hA k3 (g4.mono k1 k2) k4) (fun v s₃ hp₃ => ?_) fun _ _ x => x
  obtain ⟨B₃,σ₃,c,st₃,l1,l2,l3,l4,l5⟩ := hp₃
  exact ⟨B₃,σ₃,.bool c,st₃,g1.trans (k1.trans l1),g2.trans (k2.trans l2),l3,l4,l5⟩
theorem B_Compare {l r : Expr} {op : CmpOp} {pos : Pos} {whole : Sem Value} {Q : Bool → St → Prop}
    (h : TV C d e (eval l e) st fun a st₁ => TV C d e (eval r e) st₁ fun b st₂ => Cmp C d e op a b st₂ Q) (hm : behindInMarks op r = false := by with_unfolding_all rfl) : TB C d e (isTrue (.Compare l [op] [r] pos) e whole) st Q := by
  intro A kp B σ s hA hS
  refine wpAny_isTrue_Compare1 (wpAny_mono (h A kp B σ s hA hS) (fun va s₁ hp => ?_) fun _ _ x => x) hm
  obtain ⟨B₁,σ₁,a,st₁,g1,g2,g3,g4,g5⟩ := hp
  refine wpAny_mono (g5 A kp B₁ σ₁ s₁ hA g3) (fun vb s₂ hp₂ => ?_) fun _ _ x => x
  obtain ⟨B₂,σ₂,b,st₂,k1,k2,k3,k4,k5⟩ := hp₂
  refine wpAny_mono (k5 A kp B₂ σ₂ s₂ va vb hA k3 (g4.mono k1 k2) k4) (fun v s₃ hp₃ => ?_) fun _ _ x => x
  obtain ⟨B₃,σ₃,c,st₃,l1,l2,l3,l4,l5⟩ := hp₃
  subst l4
  exact truthy_bool ⟨B₃,σ₃,c,st₃,g1.trans (k1.trans l1),g2.trans (k2.trans l2),l3,rfl,l5⟩
theorem B_Compare2 {l r₁ r₂ : Expr} {op₁ op₂ : CmpOp} {pos : Pos} {whole : Sem Value} {Q : Bool → St → Prop}
    (h : TV C d e (eval l e) st fun a st₁ => TV C d e (eval r₁ e) st₁ fun b st₂ => Cmp C d e op₁ a b st₂ fun c st₃ => if c = true then TV C d e (eval r₂ e) st₃ fun b' st₄ => Cmp C d e op₂ b b' st₄ Q else Q false st₃)
    (hm : lastMarks [op₁,op₂] [r₁,r₂] = false := by with_unfolding_all rfl) : TB C d e (isTrue (.Compare l [op₁,op₂] [r₁,r₂] pos) e whole) st Q := by
  intro A kp B σ s hA hS
  refine isTrue_chain (wpAny_mono (h A kp B σ s hA hS) (fun va s₁ hp => test_link ?_) fun _ _ x => x) hm
  obtain ⟨B₁,σ₁,a,st₁,g1,g2,g3,g4,g5⟩ := hp
  refine wpAny_mono (g5 A kp B₁ σ₁ s₁ hA g3) (fun vb s₂ hp₂ => ?_) fun _ _ x => x
  obtain ⟨B₂,σ₂,b,st₂,k1,k2,k3,k4,k5⟩ := hp₂
  refine wpAny_mono (k5 A kp B₂ σ₂ s₂ va vb hA k3 (g4.mono k1 k2) k4) (fun v s₃ hp₃ => ?_) fun _ _ x => x
  obtain ⟨B₃,σ₃,c,st₃,l1,l2,l3,l4,l5⟩ := hp₃
  subst l4
  refine truthy_bool ?_
  have hB := g1.trans (k1.trans l1)
  have hσ := g2.trans (k2.trans l2)
  cases c
  · simp only [Bool.false_eq_true,if_false] at l5 ⊢
    exact ⟨B₃,σ₃,false,st₃,hB,hσ,l3,rfl,l5⟩
  · simp only [if_true] at l5 ⊢
    refine test_last (wpAny_mono (l5 A kp B₃ σ₃ s₃ hA l3) (fun vc s₄ hp₄ => ?_) fun _ _ x => x)
    obtain ⟨B₄,σ₄,b',st₄,m1,m2,m3,m4,m5⟩ := hp₄
    refine wpAny_mono (m5 A kp B₄ σ₄ s₄ vb vc hA m3 (k4.mono (l1.trans m1) (l2.trans m2)) m4) (fun v s₅ hp₅ => ?_) fun _ _ x => x
    obtain ⟨B₅,σ₅,c,st₅,n1,n2,n3,n4,n5⟩ := hp₅
    subst n4
    exact truthy_bool ⟨B₅,σ₅,c,st₅,hB.trans (m1.trans n1),hσ.trans (m2.trans n2),n3,rfl,n5⟩
theorem B_andNil {pos : Pos} {whole : Sem Value} {Q : Bool → St → Prop} (h : Q true st) : TB C d e (isTrue (.BoolOp .And [] pos) e whole) st Q :=
  fun A kp B σ s hA hS => isTrue_and_nil (Post.here (rel := RelE) (b := true) hS rfl h)
theorem B_orNil {pos : Pos} {whole : Sem Value} {Q : Bool → St → Prop} (h : Q false st) : TB C d e (isTrue (.BoolOp .Or [] pos) e whole) st Q :=
  fun A kp B σ s hA hS => isTrue_or_nil (Post.here (rel := RelE) (b := false) hS rfl h)
theorem B_and {x : Expr} {rest : List Expr} {pos : Pos} {whole : Sem Value} {Q : Bool → St → Prop}
    (h : TB C d e (isTrue x e (eval x e)) st fun b st₁ => if b = true then TB C d e (isTrue (.BoolOp .And rest pos) e whole) st₁ Q else Q false st₁) : TB C d e (isTrue (.BoolOp .And (x :: rest) pos) e whole) st Q := by
  intro A kp B σ s hA hS
  refine isTrue_and (wpAny_mono (h A kp B σ s hA hS) (fun b s₁ hp => ?_) fun _ _ x => x)
  obtain ⟨B₁,σ₁,b',st₁,g1,g2,g3,g4,g5⟩ := hp
  have g4 : b = b' := g4
  subst g4
  cases b
  · simp only [Bool.false_eq_true,if_false] at g5 ⊢
    exact ⟨B₁,σ₁,false,st₁,g1,g2,g3,rfl,g5⟩
  · simp only [if_true] at g5 ⊢
    exact wpAny_mono (g5 A kp B₁ σ₁ s₁ hA g3) (fun _ _ p => p.weaken g1 g2) fun _ _ x => x
theorem B_or {x : Expr} {rest : List Expr} {pos : Pos} {whole : Sem Value} {Q : Bool → St → Prop}
    (h : TB C d e (isTrue x e (eval x e)) st fun b st₁ => if b = true then Q true st₁ else TB C d e (isTrue (.BoolOp .Or rest pos) e whole) st₁ Q) : TB C d e (isTrue (.BoolOp .Or (x :: rest) pos) e whole) st Q := by
  intro A kp B σ s hA hS
  refine isTrue_or (wpAny_mono (h A kp B σ s hA hS) (fun b s₁ hp => ?_) fun _ _ x => x)
  obtain ⟨B₁,σ₁,b',st₁,g1,g2,g3,g4,g5⟩ := hp
  have g4 : b = b' := g4
  subst g4
  cases b
  · simp only [Bool.false_eq_true,if_false] at g5 ⊢
    exact wpAny_mono (g5 A kp B₁ σ₁ s₁ hA g3) (fun _ _ p => p.weaken g1 g2) fun _ _ x => x
  · simp only [if_true] at g5 ⊢
    exact ⟨B₁,σ₁,true,st₁,g1,g2,g3,rfl,g5⟩
theorem B_val {x : Expr} {Q : Bool → St → Prop} (h : TV C d e (eval x e) st fun a st₁ => Truth C d e a st₁ Q)
    (hv : isTrue x e (eval x e) = (do let v ← eval x e; standAt x.pos; holding [v] (truthy v)) := by with_unfolding_all rfl) : TB C d e (isTrue x e (eval x e)) st Q := by
  intro A kp B σ s hA hS
  refine wpAny_isTrue_value (wpAny_mono (h A kp B σ s hA hS) (fun va s₁ hp => ?_) fun _ _ x => x) hv
  obtain ⟨B₁,σ₁,a,st₁,g1,g2,g3,g4,g5⟩ := hp
  exact wpAny_mono (g5 A kp B₁ σ₁ s₁ va hA g3 g4) (fun _ _ p => p.weaken g1 g2) fun _ _ x => x
theorem Truth_bool {b : Bool} {Q : Bool → St → Prop} (h : Q b st) : Truth C d e (.bool b) st Q := by
  intro A kp B σ s va hA hS hr
  have hr : va = .bool b := hr
  subst hr
  exact truthy_bool (Post.here hS rfl h)
theorem T_And {x y : Expr} {pos : Pos} {Q : V → St → Prop} (h : TV C d e (eval x e) st fun a st₁ => Truth C d e a st₁ fun b st₂ => if b = true then TV C d e (eval y e) st₂ Q else Q a st₂) : TV C d e (eval (.BoolOp .And [x,y] pos) e) st Q := by
  intro A kp B σ s hA hS
  refine wpAny_And2 (wpAny_mono (h A kp B σ s hA hS) (fun va s₁ hp => ?_) fun _ _ x => x)
  obtain ⟨B₁,σ₁,a,st₁,g1,g2,g3,g4,g5⟩ := hp
  refine wpAny_mono (g5 A kp B₁ σ₁ s₁ va hA g3 g4) (fun b s₂ hp₂ => ?_) fun _ _ x => x
  obtain ⟨B₂,σ₂,b',st₂,k1,k2,k3,k4,k5⟩ := hp₂
  have k4 : b = b' := k4
  subst k4
  cases b
  · simp only [Bool.false_eq_true,if_false] at k5 ⊢
    exact ⟨B₂,σ₂,a,st₂,g1.trans k1,g2.trans k2,k3,g4.mono k1 k2,k5⟩
  · simp only [if_true] at k5 ⊢
    exact wpAny_mono (k5 A kp B₂ σ₂ s₂ hA k3) (fun _ _ p => p.weaken (g1.trans k1) (g2.trans k2)) fun _ _ x => x
theorem T_Or {x y : Expr} {pos : Pos} {Q : V → St → Prop} (h : TV C d e (eval x e) st fun a st₁ => Truth C d e a st₁ fun b st₂ => if b = true then Q a st₂ else TV C d e (eval y e) st₂ Q) : TV C d e (eval (.BoolOp .Or [x,y] pos) e) st Q := by
  intro A kp B σ s hA hS
  refine wpAny_Or2 (wpAny_mono (h A kp B σ s hA hS) (fun va s₁ hp => ?_) fun _ _ x => x)
  obtain ⟨B₁,σ₁,a,st₁,g1,g2,g3,g4,g5⟩ := hp
  refine wpAny_mono (g5 A kp B₁ σ₁ s₁ va hA g3 g4) (fun b s₂ hp₂ => ?_) fun _ _ x => x
  obtain ⟨B₂,σ₂,b',st₂,k1,k2,k3,k4,k5⟩ := hp₂
  have k4 : b = b' := k4
  subst k4
  cases b
  · simp only [Bool.false_eq_true,if_false] at k5 ⊢
    exact wpAny_mono (k5 A kp B₂ σ₂ s₂ hA k3) (fun _ _ p => p.weaken (g1.trans k1) (g2.trans k2)) fun _ _ x => x
  · simp only [if_true] at k5 ⊢
    exact ⟨B₂,σ₂,a,st₂,g1.trans k1,g2.trans k2,k3,g4.mono k1 k2,k5⟩

abbrev TA (C : Cx) (d : Nat) (e : Env) (pos : Pos) (args : List Expr) (st : St) (Q : List V → St → Prop) : Prop := TL C d e (spliced (backTo pos (starEach args e))) st Q
theorem A_nil {pos : Pos} {Q : List V → St → Prop} (h : Q [] st) : TA C d e pos [] st Q := fun A kp B σ s hA hS => wpAny_pure (Post.here (b := ([] : List V)) hS (show RelL C B σ [] [] from rfl) h)
theorem A_cons {x : Expr} {r : List Expr} {pos : Pos} {Q : List V → St → Prop} (h : TV C d e (eval x e) st fun v st₁ => TA C d e pos r st₁ fun vs st₂ => Q (v :: vs) st₂)
    (hx : backTo pos (starEach (x :: r) e) = (false,eval x e) :: backTo pos (starEach r e) := by with_unfolding_all rfl) : TA C d e pos (x :: r) st Q := by
  intro A kp B σ s hA hS
  show wpAny _ A (spliced (backTo pos (starEach (x :: r) e))) _ _ s
  rw [hx]
  refine Calls.spliced_cons (wpAny_mono (h A kp B σ s hA hS) (fun v s₁ hp => ?_) fun _ _ x => x)
  obtain ⟨B₁,σ₁,a,st₁,g1,g2,g3,g4,g5⟩ := hp
  refine wpAny_mono (g5 A kp B₁ σ₁ s₁ hA g3) (fun vs s₂ hp₂ => ?_) fun _ _ x => x
  obtain ⟨B₂,σ₂,b,st₂,k1,k2,k3,k4,k5⟩ := hp₂
  exact ⟨B₂,σ₂,a :: b,st₂,g1.trans k1,g2.trans k2,k3,⟨v,vs,rfl,g4.mono k1 k2,k4⟩,k5⟩
theorem T_Tuple {elts : List Expr} {k : Nat} {pos : Pos} {Q : V → St → Prop} (h : TA C d e pos elts st fun vs st₁ => vs.length ≤ sizeLine ∧ Q (.tup vs) st₁) : TV C d e (eval (.Tuple elts k pos) e) st Q := by
  intro A kp B σ s hA hS
  refine wpAny_Tuple (wpAny_mono (h A kp B σ s hA hS) (fun vs s₁ hp => ?_) fun _ _ x => x)
  obtain ⟨B₁,σ₁,a,st₁,g1,g2,g3,g4,g5,g6⟩ := hp
  refine ⟨by rw [RelL.length g4]; exact g5,?_⟩
  obtain ⟨q1,q2⟩ := g3.alloc (o := { cls := .type "tuple",data := .seq vs.toArray }) rfl s₁.toks s₁.drawn
  exact ⟨_,σ₁,.tup a,st₁,g1.trans q1,g2,q2,⟨_,vs.toArray,0,rfl,Base.put_self,by simpa using RelL.mono q1 (List.prefix_refl _) g4⟩,g6⟩
theorem T_List {elts : List Expr} {pos : Pos} {Q : V → St → Prop} (h : TA C d e pos elts st fun vs st₁ => vs.length ≤ sizeLine ∧ Q (.own st₁.hp.length) ⟨st₁.vars,st₁.hp ++ [.list vs]⟩) : TV C d e (eval (.List elts pos) e) st Q := by
  intro A kp B σ s hA hS
  refine wpAny_List (wpAny_mono (h A kp B σ s hA hS) (fun vs s₁ hp => ?_) fun _ _ x => x)
  obtain ⟨B₁,σ₁,a,st₁,g1,g2,g3,g4,g5,g6⟩ := hp
  refine ⟨by rw [RelL.length g4]; exact g5,?_⟩
  have q := g3.own (o := { cls := .type "list",data := .seq vs.toArray }) (ao := .list a) rfl (fun h' hx => ⟨vs.toArray,0,hx,by simpa using RelL.mono (Sub.refl _) (List.prefix_append _ _) g4⟩) s₁.toks s₁.drawn
  refine ⟨B₁,_,.own st₁.hp.length,_,g1,g2.trans (List.prefix_append _ _),q,⟨s₁.heap.objs.size,rfl,?_⟩,g6⟩
  rw [← g3.g.len,List.getElem?_append_right (Nat.le_refl _)]; simp

noncomputable def Keeps (C : Cx) (f : V) : Prop := ∀ (B : Base) (σ : List Addr) (fv : Value),Rel C B σ f fv → ∀ h : Heap,Sub C.b0 h.get? → C.Ok → ∃ k,(k = Keeper.frame ∨ k = Keeper.machine ∨ k = Keeper.boundFrame) ∧ Looks (model P C.w) h (keeperOf fv) k
theorem keeps_fn {i : Nat} : Keeps C (.fn i) := by
  intro B σ fv hr h hb ok
  obtain ⟨f,rfl,name,qual,params,body,scope,dV,doc,pm,cdv,ct,oc,an,od,osl,hdef,hget,hcd,_,_,_⟩ := hr
  exact ⟨.frame,.inl rfl,(Looks.ld (part := none) (hb _ _ hget)).andThen .now⟩
theorem keeps_cls {i : Nat} : Keeps C (.cls i) := by
  intro B σ fv hr h hb ok
  obtain ⟨c,rfl,hc⟩ := hr
  exact keeps_K (ok.cls i c hc) h (ok.K h hb)
theorem keeps_builtin {n : String} : Keeps C (.raw (.builtin n)) := by
  intro B σ fv hr h hb ok
  have hr : fv = .builtin n := hr
  subst hr
  exact ⟨.machine,.inr (.inl rfl),Looks.of_pure rfl⟩
theorem keeps_type {n : String} : Keeps C (.raw (.type n)) := by
  intro B σ fv hr h hb ok
  have hr : fv = .type n := hr
  subst hr
  exact ⟨.machine,.inr (.inl rfl),Looks.of_pure rfl⟩

theorem evalArgs_any {f : Value} {pos : Pos} {args : List Expr} {A : Around} {Q : Args → Shared → Prop} {s : Shared} (hpl : args.all (fun x => match x with | .Starred _ _ => false | _ => true) = true)
    (h : wpAny (model P C.w) A (spliced (backTo pos (starEach args e))) (fun vs s' => Q ⟨vs,[]⟩ s') NoE s) : wpAny (model P C.w) A (evalArgs f true (backTo pos (starEach args e)) []) Q NoE s := by
  cases args with
  | nil =>
    exact fun Γ p hΓ => h Γ p hΓ
  | cons x r =>
    have hx : starEach (x :: r) e = (false,eval x e) :: starEach r e := by
      cases x <;> first | rfl | (simp at hpl)
    have hx' : backTo pos (starEach (x :: r) e) = (false,eval x e >>= fun v => pure v) :: backTo pos (starEach r e) ∨ backTo pos (starEach (x :: r) e) = (false,eval x e) :: backTo pos (starEach r e) := by
      rw [hx]; exact .inr rfl
    rcases hx' with hx' | hx'
    · rw [hx'] at h ⊢; exact evalArgs_plain h
    · rw [hx'] at h ⊢; exact evalArgs_plain h
theorem noStar {pos : Pos} : ∀ (args : List Expr),args.all (fun x => match x with | .Starred _ _ => false | _ => true) = true → (backTo pos (starEach args e)).any (·.1) = false
  | [],_ => rfl
  | x :: r,h => by
    simp only [List.all_cons,Bool.and_eq_true] at h
    have hx : starEach (x :: r) e = (false,eval x e) :: starEach r e := by
      cases x <;> first | rfl | (simp at h)
    rw [hx]
    show (false || (backTo pos (starEach r e)).any (·.1)) = false
    rw [noStar r h.2]; rfl

theorem T_Call {x : Str} {np pos : Pos} {args : List Expr} {Q : V → St → Prop}
    (h : TV C d e (eval (.Name x np) e) st fun f st₁ => Keeps C f ∧ TA C d e pos args st₁ fun vs st₂ => Ap C d e f vs st₂ Q)
    (hpl : args.all (fun x => match x with | .Starred _ _ => false | _ => true) = true := by with_unfolding_all rfl) : TV C d e (eval (.Call (.Name x np) args [] pos) e) st Q := by
  intro A kp B σ s hA hS
  refine wpAny_Call_ofName (wpAny_mono (h A kp B σ s hA hS) (fun fv s₁ hp => ?_) fun _ _ x => x)
  obtain ⟨B₁,σ₁,f,st₁,g1,g2,g3,g4,g5,g6⟩ := hp
  have hb : Sub C.b0 s₁.heap.get? := g3.g.b0.trans g3.g.bh
  refine callWith_of (P := fun h' => Sub C.b0 h'.get?) (by show ((backTo pos (starEach args e)).any (·.1) || false) = false; rw [noStar args hpl]; rfl) (fun h' hb' => g5 B₁ σ₁ fv g4 h' hb' g3.g.ok) ?_
  refine evalArgs_any hpl (wpAny_mono (g6 A kp B₁ σ₁ s₁ hA g3) (fun vs s₂ hp₂ => ?_) fun _ _ x => x)
  obtain ⟨B₂,σ₂,b,st₂,k1,k2,k3,k4,k5⟩ := hp₂
  exact ⟨k3.g.b0.trans k3.g.bh,wpAny_mono (k5 A kp B₂ σ₂ s₂ fv vs hA k3 (g4.mono k1 k2) k4) (fun _ _ p => p.weaken (g1.trans k1) (g2.trans k2)) fun _ _ x => x⟩

noncomputable def KindV (C : Cx) (e : Env) (st : St) (a : V) (T : String) : Prop := ∀ kp B σ s va,S C kp B σ e st s → Rel C B σ a va → s.TypeIs va T ∧ ∀ x,va = .ref x → ∃ ob,s.heap.get? x = some ob ∧ ob.dict = none
theorem kind_str {l : List Nat} : KindV C e st (.str l) "str" := by
  intro kp B σ s va hS hr
  obtain ⟨x,t,rfl,_⟩ := hr
  exact ⟨typeIs_str _ _ _,fun _ q => nomatch q⟩
theorem kind_own {i : Nat} {xs : List V} (hi : st.hp[i]? = some (.list xs)) : KindV C e st (.own i) "list" := by
  intro kp B σ s va hS hr
  obtain ⟨a,rfl,h1⟩ := hr
  obtain ⟨_,_,_,items,n,h2,_⟩ := hS.g.own i a _ h1 hi trivial
  exact ⟨⟨_,h2,rfl⟩,fun x q => by cases q; exact ⟨_,h2,rfl⟩⟩
theorem T_method {o : Expr} {name : Str} {apos pos : Pos} {args : List Expr} {T id : String} {Q : V → St → Prop} (pa : PlainAttrs T) (slot : Slot T name id) (hty : typeOf (.builtin id) = pure (.type "method_descriptor"))
    (h : TV C d e (eval o e) st fun ov st₁ => KindV C e st₁ ov T ∧ TA C d e pos args st₁ fun vs st₂ => Ap C d e (.raw (.builtin id)) (ov :: vs) st₂ Q)
    (hbase : attributeBase o name e (eval o e) = eval o e := by with_unfolding_all rfl)
    (hfew : ((backTo pos (starEach args e)).all (fun x => !x.1) && (backToKw pos (keywordEach [] e)).all (fun x => x.1.isSome) && decide (args.length + ([] : List Keyword).length + (if ([] : List Keyword).isEmpty then 0 else 1) < 30)) = true := by with_unfolding_all rfl)
    (hline : (apos.endLine == pos.line) = true := by with_unfolding_all rfl)
    (hpl : args.all (fun x => match x with | .Starred _ _ => false | _ => true) = true := by with_unfolding_all rfl) : TV C d e (eval (.Call (.Attribute o name apos) args [] pos) e) st Q := by
  intro A kp B σ s hA hS
  refine wpAny_Call_method hbase hfew hline pa slot hty (wpAny_mono (h A kp B σ s hA hS) (fun ov s₁ hp => ?_) fun _ _ x => x)
  obtain ⟨B₁,σ₁,o',st₁,g1,g2,g3,g4,g5,g6⟩ := hp
  obtain ⟨t1,t2⟩ := g5 kp B₁ σ₁ s₁ ov g3 g4
  refine ⟨t1,t2,callWith_builtin (noStar args hpl) (evalArgs_any hpl (wpAny_mono (g6 A kp B₁ σ₁ s₁ hA g3) (fun vs s₂ hp₂ => ?_) fun _ _ x => x))⟩
  obtain ⟨B₂,σ₂,b,st₂,k1,k2,k3,k4,k5⟩ := hp₂
  exact wpAny_mono (k5 A kp B₂ σ₂ s₂ (.builtin id) (ov :: vs) hA k3 rfl ⟨ov,vs,rfl,g4.mono k1 k2,k4⟩) (fun _ _ p => p.weaken (g1.trans k1) (g2.trans k2)) fun _ _ x => x

theorem Ap_Calls {f : V} {args : List V} {Q : V → St → Prop} (h : Calls C d f args st.hp fun v hp' => Q v ⟨st.vars,hp'⟩) : Ap C d e f args st Q := by
  intro A kp B σ s fv vals hA hS hf hvs
  refine wpAny_call ?_
  let kp' : Base := fun a => if a ∈ privs e then s.heap.get? a else kp a
  have hG : G C kp' B σ st.hp s := by
    refine ⟨hS.g.ok,hS.g.bh,hS.g.b0,fun a o q => ?_,hS.g.len,fun i a ao h1 h2 h3 => ?_,hS.g.inj,hS.g.gens,hS.g.os,hS.g.tk⟩
    · by_cases z : a ∈ privs e
      · simp only [kp',if_pos z] at q; exact ⟨q,(hS.l.priv a z).2.1⟩
      · simp only [kp',if_neg z] at q; exact hS.g.kh a o q
    · obtain ⟨k1,k2,k3,k4⟩ := hS.g.own i a ao h1 h2 h3
      exact ⟨by simp only [kp',if_neg (priv_own hS h1 h2 h3)]; exact k1,k2,k3,k4⟩
  refine codeAny_mono (h A kp' B σ s fv vals hA hG hf hvs) fun r s' hr => ?_
  obtain ⟨v,B',σ',b,hp',rfl,h1,h2,h3,h4,h5⟩ := hr
  have keepP : ∀ a ∈ privs e,s'.heap.get? a = s.heap.get? a ∧ B' a = none := fun a ha => by
    obtain ⟨o,ho⟩ := hS.l.alive a ha
    have := h3.kh a o (by simp only [kp',if_pos ha]; exact ho)
    exact ⟨this.1.trans ho.symm,this.2⟩
  refine ⟨B',σ',b,⟨st.vars,hp'⟩,h1,h2,⟨⟨h3.ok,h3.bh,h3.b0,fun a o q => ?_,h3.len,fun i a ao k1 k2 k3 => ?_,h3.inj,h3.gens,h3.os,h3.tk⟩,?_⟩,h4,h5⟩
  · have z : a ∉ privs e := fun z => by rw [(hS.l.priv a z).1] at q; cases q
    exact h3.kh a o (by simp only [kp',if_neg z]; exact q)
  · obtain ⟨m1,m2,m3,m4⟩ := h3.own i a ao k1 k2 k3
    refine ⟨?_,m2,m3,m4⟩
    by_cases z : a ∈ privs e
    · exact (hS.l.priv a z).1
    · simp only [kp',if_neg z] at m1; exact m1
  · have hL := hS.l
    refine ⟨hL.fn,hL.glob,hL.bi,hL.nodup,?_,hL.kinds,fun x v hm hk => ?_,fun a ha => ⟨(hL.priv a ha).1,(keepP a ha).2,fun i ao k1 k2 k3 => ?_⟩,hL.apart,fun a ha => ?_⟩
    · obtain ⟨m,⟨o,es,ep,q1,q2⟩,q3⟩ := hL.ns
      exact ⟨m,⟨o,es,ep,(keepP _ (List.mem_cons_self)).1.trans q1,q2⟩,fun x v hm hk => (q3 x v hm hk).imp id fun ⟨val,z1,z2⟩ => ⟨val,z1,z2.mono h1 h2⟩⟩
    · obtain ⟨c,o,ov,q1,q2,q3,q4⟩ := hL.cells x v hm hk
      exact ⟨c,o,ov,q1,(keepP c (List.mem_cons_of_mem _ (List.mem_map.mpr ⟨(x,c),TC.mem_of_lookup q1,rfl⟩))).1.trans q2,q3,q4.imp id fun ⟨val,z1,z2⟩ => ⟨val,z1,z2.mono h1 h2⟩⟩
    · obtain ⟨m1,_⟩ := h3.own i a ao k1 k2 k3
      obtain ⟨o,ho⟩ := hL.alive a ha
      simp only [kp',if_pos ha] at m1
      rw [ho] at m1; cases m1
    · obtain ⟨o,ho⟩ := hL.alive a ha; exact ⟨o,(keepP a ha).1.trans ho⟩
end
end
section
section
variable {C : Cx} {d : Nat} {e : Env} {st : St}

theorem Bin_add {i j : Int} {Q : V → St → Prop} (h : Q (.int (i + j)) st) : Bin C d e (binaryOp .Add) (.int i) (.int j) st Q := by
  rintro A kp B σ s va vb hA hS ⟨t,rfl⟩ ⟨u,rfl⟩
  exact PyProof.Rows.add_int (Post.here (hS.toks _ _) (show Rel C B σ (.int (i + j)) (.int (i + j) s.toks) from ⟨_,rfl⟩) h)
theorem Bin_sub {i j : Int} {Q : V → St → Prop} (h : Q (.int (i - j)) st) : Bin C d e (binaryOp .Sub) (.int i) (.int j) st Q := by
  rintro A kp B σ s va vb hA hS ⟨t,rfl⟩ ⟨u,rfl⟩
  exact PyProof.Rows.sub_int (Post.here (hS.toks _ _) (show Rel C B σ (.int (i - j)) (.int (i - j) s.toks) from ⟨_,rfl⟩) h)
theorem Bin_iadd {i j : Int} {Q : V → St → Prop} (h : Q (.int (i + j)) st) : Bin C d e (inplaceOp .Add) (.int i) (.int j) st Q := by
  rintro A kp B σ s va vb hA hS ⟨t,rfl⟩ ⟨u,rfl⟩
  exact wpAny_iadd_int (Post.here (hS.toks _ _) (show Rel C B σ (.int (i + j)) (.int (i + j) s.toks) from ⟨_,rfl⟩) h)
theorem Bin_mod {i j : Int} {Q : V → St → Prop} (hj : j ≠ 0) (h : Q (.int (i.fmod j)) st) : Bin C d e (binaryOp .Mod) (.int i) (.int j) st Q := by
  rintro A kp B σ s va vb hA hS ⟨t,rfl⟩ ⟨u,rfl⟩
  exact PyProof.Rows.mod_int' hj (Post.here (hS.toks _ _) (show Rel C B σ (.int (i.fmod j)) (.int (i.fmod j) s.toks) from ⟨_,rfl⟩) h)
theorem Un_neg {i : Int} {Q : V → St → Prop} (h : Q (.int (-i)) st) : Un C d e (unaryOp .USub) (.int i) st Q := by
  rintro A kp B σ s va hA hS ⟨t,rfl⟩
  exact PyProof.Rows.neg_int (Post.here (hS.toks _ _) (show Rel C B σ (.int (-i)) (.int (-i) s.toks) from ⟨_,rfl⟩) h)
theorem Un_not {v : V} {Q : V → St → Prop} (h : Truth C d e v st fun b => Q (.bool (!b))) : Un C d e (unaryOp .Not) v st Q := by
  intro A kp B σ s va hA hS hr
  refine PyProof.Rows.not_of (wpAny_mono (h A kp B σ s va hA hS hr) (fun c s₁ hp => ?_) fun _ _ x => x)
  obtain ⟨B₁,σ₁,b,st₁,h1,h2,h3,h4,h5⟩ := hp
  have h4 : c = b := h4
  subst h4
  exact ⟨B₁,σ₁,.bool (!c),st₁,h1,h2,h3,rfl,h5⟩
theorem Cmp_of {op : CmpOp} {a b : V} {c : Bool} {Q : Bool → St → Prop} (h : Q c st)
    (k : ∀ (A : Around) (kp B : Base) (σ : List Addr) (s : Shared) (va vb : Value) (R : Value → Shared → Prop),AOk d A → S C kp B σ e st s → Rel C B σ a va → Rel C B σ b vb → R (.bool c) s → wpAny (model P C.w) A (compareOp op va vb) R NoE s) : Cmp C d e op a b st Q :=
  fun A kp B σ s va vb hA hS ha hb => k A kp B σ s va vb _ hA hS ha hb (Post.here (rel := fun _ _ c v => v = Value.bool c) hS rfl h)
theorem Cmp_eqi {i j : Int} {Q : Bool → St → Prop} (h : Q (i == j) st) : Cmp C d e .Eq (.int i) (.int j) st Q := Cmp_of h (by rintro A kp B σ s va vb R hA hS ⟨t,rfl⟩ ⟨u,rfl⟩ q; exact PyProof.Rows.eq_int q)
theorem Cmp_nei {i j : Int} {Q : Bool → St → Prop} (h : Q (i != j) st) : Cmp C d e .NotEq (.int i) (.int j) st Q := Cmp_of h (by rintro A kp B σ s va vb R hA hS ⟨t,rfl⟩ ⟨u,rfl⟩ q; exact PyProof.Rows.ne_int q)
theorem Cmp_lt {i j : Int} {Q : Bool → St → Prop} (h : Q (decide (i < j)) st) : Cmp C d e .Lt (.int i) (.int j) st Q := Cmp_of h (by rintro A kp B σ s va vb R hA hS ⟨t,rfl⟩ ⟨u,rfl⟩ q; exact PyProof.Rows.lt_int q)
theorem Cmp_le {i j : Int} {Q : Bool → St → Prop} (h : Q (decide (i ≤ j)) st) : Cmp C d e .LtE (.int i) (.int j) st Q := Cmp_of h (by rintro A kp B σ s va vb R hA hS ⟨t,rfl⟩ ⟨u,rfl⟩ q; exact PyProof.Rows.le_int q)
theorem Cmp_gt {i j : Int} {Q : Bool → St → Prop} (h : Q (decide (j < i)) st) : Cmp C d e .Gt (.int i) (.int j) st Q := Cmp_of h (by rintro A kp B σ s va vb R hA hS ⟨t,rfl⟩ ⟨u,rfl⟩ q; exact PyProof.Rows.gt_int q)
theorem str_eq_beq {x y : Str} {l m : List Nat} (hx : x.cps.toList = l) (hy : y.cps.toList = m) : (x == y) = (l == m) := by
  rw [Bool.eq_iff_iff,beq_iff_eq,beq_iff_eq,← hx,← hy]
  constructor
  · rintro rfl; rfl
  · intro h; cases x; cases y; simp only [Str.mk.injEq]; exact Array.toList_inj.mp h
theorem str_len {x : Str} {l : List Nat} (hx : x.cps.toList = l) : x.length = l.length := by subst hx; simp [Str.length]
theorem Cmp_eqs {l m : List Nat} {Q : Bool → St → Prop} (h : Q (l == m) st) : Cmp C d e .Eq (.str l) (.str m) st Q := Cmp_of h (by
  rintro A kp B σ s va vb R hA hS ⟨x,t,rfl,hx⟩ ⟨y,u,rfl,hy⟩ q
  exact PyProof.Rows.eq_str (by rw [str_eq_beq hx hy]; exact q))
theorem Cmp_nes {l m : List Nat} {Q : Bool → St → Prop} (h : Q (l != m) st) : Cmp C d e .NotEq (.str l) (.str m) st Q := Cmp_of h (by
  rintro A kp B σ s va vb R hA hS ⟨x,t,rfl,hx⟩ ⟨y,u,rfl,hy⟩ q
  exact P.ne_str (by rw [hx,hy]; exact q))
theorem Cmp_eq_sn {l : List Nat} {Q : Bool → St → Prop} (h : Q false st) : Cmp C d e .Eq (.str l) .none st Q := Cmp_of h (by
  rintro A kp B σ s va vb R hA hS ⟨x,t,rfl,hx⟩ rfl q
  exact EqNone.eq_str_none q)
theorem Cmp_ins {l m : List Nat} {c : Nat} {Q : Bool → St → Prop} (hl : l = [c]) (h : Q (decide (c ∈ m)) st) : Cmp C d e .In (.str l) (.str m) st Q := by
  subst hl
  exact Cmp_of h (by
    rintro A kp B σ s va vb R hA hS ⟨x,t,rfl,hx⟩ ⟨y,u,rfl,hy⟩ q
    have hx' : x = ⟨#[c]⟩ := by cases x; simp only [Str.mk.injEq]; exact Array.toList_inj.mp hx
    subst hx'
    refine SB.contains ?_
    have := StrLaws.found_one y c
    rw [hy] at this
    rw [Txt.contains,this]; exact q)
noncomputable def strsOf : List V → Option (List (List Nat))
  | [] => some []
  | .str l :: r => (strsOf r).map (l :: ·)
  | _ => none
theorem strsOf_are {B : Base} {σ : List Addr} : ∀ {xs : List V} {ys : List (List Nat)} {vals : List Value},strsOf xs = some ys → RelL C B σ xs vals → ∃ zs,StrsAre vals zs ∧ zs.map (·.cps.toList) = ys
  | [],ys,vals,h,hr => by
    simp only [strsOf,Option.some.injEq] at h; simp only [RelL] at hr; subst h; subst hr; exact ⟨[],.nil,rfl⟩
  | .str l :: r,ys,vals,h,hr => by
    simp only [strsOf] at h
    obtain ⟨ys',h1,rfl⟩ := Option.map_eq_some_iff.mp h
    simp only [RelL] at hr
    obtain ⟨v,rest,rfl,⟨x,t,rfl,hx⟩,hr⟩ := hr
    obtain ⟨zs,h2,h3⟩ := strsOf_are h1 hr
    exact ⟨x :: zs,.cons _ _ h2,by rw [List.map_cons,h3,hx]⟩
  | .undef :: _,_,_,h,_ | .none :: _,_,_,h,_ | .bool _ :: _,_,_,h,_ | .int _ :: _,_,_,h,_ | .tup _ :: _,_,_,h,_ | .lst _ :: _,_,_,h,_ | .dct _ :: _,_,_,h,_ | .inst _ _ :: _,_,_,h,_ | .own _ :: _,_,_,h,_ | .fn _ :: _,_,_,h,_ | .cls _ :: _,_,_,h,_ | .raw _ :: _,_,_,h,_ | .rng _ _ _ :: _,_,_,h,_ => by simp [strsOf] at h
theorem any_strs {x : Str} {l : List Nat} (hx : x.cps.toList = l) : ∀ (zs : List Str),zs.any (· == x) = (zs.map (·.cps.toList)).contains l
  | [] => rfl
  | z :: zs => by
    rw [List.any_cons,List.map_cons,List.contains_cons,any_strs hx zs,str_eq_beq (x := z) (y := x) rfl hx]
    congr 1
    rw [Bool.eq_iff_iff]; simp only [beq_iff_eq]; exact eq_comm
theorem Cmp_inTup {l : List Nat} {xs : List V} {ys : List (List Nat)} {Q : Bool → St → Prop} (hs : strsOf xs = some ys) (h : Q (ys.contains l) st) : Cmp C d e .In (.str l) (.tup xs) st Q := Cmp_of h (by
  rintro A kp B σ s va vb R hA hS ⟨x,t,rfl,hx⟩ ⟨a,items,n,rfl,h1,h2⟩ q
  obtain ⟨zs,h3,h4⟩ := strsOf_are hs h2
  exact in_tuple_strs (ys := zs) ⟨_,hS.g.bh _ _ h1,rfl,n,rfl⟩ h3 (by rw [any_strs hx,h4]; exact q))
theorem Cmp_isNone {v : V} {b : Bool} {Q : Bool → St → Prop} (hb : (match v with | .none => some true | .bool _ | .int _ | .str _ | .tup _ | .lst _ | .own _ | .inst _ _ => some false | _ => none) = some b) (h : Q b st) : Cmp C d e .Is v .none st Q := Cmp_of h (by
  rintro A kp B σ s va vb R hA hS ha rfl q
  cases v with
  | none => cases hb; have ha : va = .none := ha; subst ha; exact wpAny_is_plain rfl q
  | bool b => cases hb; have ha : va = .bool b := ha; subst ha; exact wpAny_is_plain rfl (by cases b <;> exact q)
  | int i => cases hb; obtain ⟨t,rfl⟩ := ha; exact wpAny_is_plain rfl q
  | str l => cases hb; obtain ⟨x,t,rfl,_⟩ := ha; exact wpAny_is_plain rfl q
  | tup l => cases hb; obtain ⟨x,t,n,rfl,_⟩ := ha; exact wpAny_is_plain rfl q
  | lst l => cases hb; obtain ⟨x,t,n,rfl,_⟩ := ha; exact wpAny_is_plain rfl q
  | own i => cases hb; obtain ⟨x,rfl,_⟩ := ha; exact wpAny_is_plain rfl q
  | inst c fs => cases hb; obtain ⟨x,_,_,_,_,rfl,_⟩ := ha; exact wpAny_is_plain rfl q
  | _ => cases hb)
theorem Cmp_isNotNone {v : V} {b : Bool} {Q : Bool → St → Prop} (hb : (match v with | .none => some false | .bool _ | .int _ | .str _ | .tup _ | .lst _ | .own _ | .inst _ _ => some true | _ => none) = some b) (h : Q b st) : Cmp C d e .IsNot v .none st Q := Cmp_of h (by
  rintro A kp B σ s va vb R hA hS ha rfl q
  cases v with
  | none => cases hb; have ha : va = .none := ha; subst ha; exact wpAny_isNot_plain rfl q
  | bool b => cases hb; have ha : va = .bool b := ha; subst ha; exact wpAny_isNot_plain rfl (by cases b <;> exact q)
  | int i => cases hb; obtain ⟨t,rfl⟩ := ha; exact wpAny_isNot_plain rfl q
  | str l => cases hb; obtain ⟨x,t,rfl,_⟩ := ha; exact wpAny_isNot_plain rfl q
  | tup l => cases hb; obtain ⟨x,t,n,rfl,_⟩ := ha; exact wpAny_isNot_plain rfl q
  | lst l => cases hb; obtain ⟨x,t,n,rfl,_⟩ := ha; exact wpAny_isNot_plain rfl q
  | own i => cases hb; obtain ⟨x,rfl,_⟩ := ha; exact wpAny_isNot_plain rfl q
  | inst c fs => cases hb; obtain ⟨x,_,_,_,_,rfl,_⟩ := ha; exact wpAny_isNot_plain rfl q
  | _ => cases hb)

theorem Rel_str {B : Base} {σ : List Addr} {x : Str} {t : Tok} {l : List Nat} (h : x.cps.toList = l) : Rel C B σ (.str l) (.str x t) := ⟨x,t,rfl,h⟩
theorem Bin_adds {l m : List Nat} {Q : V → St → Prop} (hz : l.length + m.length ≤ 16777216) (h : Q (.str (l ++ m)) st) : Bin C d e (binaryOp .Add) (.str l) (.str m) st Q := by
  rintro A kp B σ s va vb hA hS ⟨x,t,rfl,hx⟩ ⟨y,u,rfl,hy⟩
  refine wpAny_with_toks (Nat.le_refl s.toks) (SB.add (fun t' k hk => Post.here (hS.toks _ _ hk) (Rel_str (l := l ++ m) (by rw [Str.cps_append,Array.toList_append,hx,hy])) h) ?_)
  rw [str_len hx,str_len hy,sizeLine_eq]; (first|lia -abstractProof|omega)
end
end
section
noncomputable def norm (n : Nat) (i : Int) : Nat := (max 0 (min (if i < 0 then i + n else i) n)).toNat
noncomputable def slc {α : Type} (l : List α) (lo hi : Option Int) : List α :=
  (l.drop (lo.elim 0 (norm l.length))).take (hi.elim l.length (norm l.length) - lo.elim 0 (norm l.length))
theorem norm_le (n : Nat) (i : Int) : norm n i ≤ n := by unfold norm; split <;> (first|lia -abstractProof|omega)
theorem indices_eq (lo hi : Option Int) (n : Nat) : Builtin.Str.strSliceIndices lo hi 1 n = (List.range (hi.elim n (norm n) - lo.elim 0 (norm n))).map (fun k => lo.elim 0 (norm n) + k) := by
  have ha : (lo.elim 0 (norm n)) ≤ n := by cases lo <;> simp [norm_le]
  have hb : (hi.elim n (norm n)) ≤ n := by cases hi <;> simp [norm_le]
  have e : Builtin.Str.strSliceIndices lo hi 1 n = sliceRange ((lo.elim 0 (norm n) : Nat) : Int) ((hi.elim n (norm n) : Nat) : Int) 1 := by
    unfold Builtin.Str.strSliceIndices
    simp only [show ((1 : Int) > 0) = True from by simp,if_true]
    congr 1
    · cases lo with
      | none => rfl
      | some i => simp only [Option.elim_some,norm]; split <;> (first|lia -abstractProof|omega)
    · cases hi with
      | none => rfl
      | some i => simp only [Option.elim_some,norm]; split <;> (first|lia -abstractProof|omega)
  rw [e]
  generalize lo.elim 0 (norm n) = a at *
  generalize hi.elim n (norm n) = b at *
  simp only [sliceRange,show ((1 : Int) > 0) = True from by simp,if_true]
  by_cases hlt : (a : Int) < b
  · have e3 : (((b : Int) - a + 1 - 1) / 1).toNat = b - a := by (first|lia -abstractProof|omega)
    simp only [hlt,if_true,e3]
    refine List.map_congr_left fun k _ => ?_
    (first|lia -abstractProof|omega)
  · have : b - a = 0 := by (first|lia -abstractProof|omega)
    simp [hlt,this]
theorem slice_eq (l : List Nat) (lo hi : Option Int) : (Builtin.Str.strSliceIndices lo hi 1 l.length).filterMap (l[·]?) = slc l lo hi := by
  rw [indices_eq]
  have ha : (lo.elim 0 (norm l.length)) ≤ l.length := by cases lo <;> simp [norm_le]
  have hb : (hi.elim l.length (norm l.length)) ≤ l.length := by cases hi <;> simp [norm_le]
  unfold slc
  generalize lo.elim 0 (norm l.length) = a at *
  generalize hi.elim l.length (norm l.length) = b at *
  by_cases h : a ≤ b
  · exact StrLaws.picks l (b - a) a (by (first|lia -abstractProof|omega))
  · have : b - a = 0 := by (first|lia -abstractProof|omega)
    simp [this]
theorem slicePick_eq (items : Array Value) (lo hi : Option Int) : (slicePick items lo hi none).toList = slc items.toList lo hi := by
  have e : sliceRange (sliceBounds lo hi none items.size).1 (sliceBounds lo hi none items.size).2.1 (sliceBounds lo hi none items.size).2.2 = Builtin.Str.strSliceIndices lo hi 1 items.size := by
    unfold sliceBounds Builtin.Str.strSliceIndices
    rfl
  unfold slicePick
  rw [e,indices_eq]
  have hsz : items.toList.length = items.size := by simp
  have ha : (lo.elim 0 (norm items.size)) ≤ items.size := by cases lo <;> simp [norm_le]
  have hb : (hi.elim items.size (norm items.size)) ≤ items.size := by cases hi <;> simp [norm_le]
  unfold slc
  rw [hsz]
  generalize lo.elim 0 (norm items.size) = a at *
  generalize hi.elim items.size (norm items.size) = b at *
  have eq : (fun (i : Nat) => items[i]?) = fun (i : Nat) => items.toList[i]? := by funext i; simp
  rw [eq]
  by_cases h : a ≤ b
  · exact StrLaws.picks items.toList (b - a) a (by (first|lia -abstractProof|omega))
  · have : b - a = 0 := by (first|lia -abstractProof|omega)
    simp [this]
theorem slc_nat {α : Type} (l : List α) (a b : Nat) : slc l (some (a : Int)) (some (b : Int)) = (l.drop a).take (b - a) := by
  have n1 : norm l.length (a : Int) = min a l.length := by unfold norm; split <;> (first|lia -abstractProof|omega)
  have n2 : norm l.length (b : Int) = min b l.length := by unfold norm; split <;> (first|lia -abstractProof|omega)
  simp only [slc,Option.elim_some,n1,n2]
  by_cases h : a ≤ l.length
  · rw [Nat.min_eq_left h]
    by_cases h' : b ≤ l.length
    · rw [Nat.min_eq_left h']
    · rw [Nat.min_eq_right (by (first|lia -abstractProof|omega)),List.take_of_length_le (by rw [List.length_drop]; (first|lia -abstractProof|omega)),List.take_of_length_le (by rw [List.length_drop]; (first|lia -abstractProof|omega))]
  · rw [Nat.min_eq_right (show l.length ≤ a by (first|lia -abstractProof|omega)),List.drop_of_length_le (Nat.le_refl _),List.drop_of_length_le (show l.length ≤ a by (first|lia -abstractProof|omega))]; simp
theorem slc_whole {α : Type} {l : List α} {lo hi : Option Int} (h : hi.elim l.length (norm l.length) - lo.elim 0 (norm l.length) = l.length) : slc l lo hi = l := by
  have hb : hi.elim l.length (norm l.length) ≤ l.length := by
    cases hi with
    | none => exact Nat.le_refl _
    | some i => exact norm_le _ _
  unfold slc
  rw [h]
  generalize hi.elim l.length (norm l.length) = b at h hb
  generalize lo.elim 0 (norm l.length) = a at h
  cases l with
  | nil => rw [List.drop_nil,List.take_nil]
  | cons c r =>
    have ha : a = 0 := by rw [List.length_cons] at h hb; (first|lia -abstractProof|omega)
    rw [ha,List.drop_zero,List.take_length]
theorem slc_length_le {α : Type} (l : List α) (lo hi : Option Int) : (slc l lo hi).length ≤ l.length := by
  unfold slc; simp only [List.length_take,List.length_drop]; (first|lia -abstractProof|omega)

section
variable {C : Cx} {d : Nat} {e : Env} {st : St}

noncomputable def TP (C : Cx) (d : Nat) (e : Env) (p : Option Expr) (st : St) (Q : Option Int → St → Prop) : Prop :=
  T C d e (fun B σ (k : Option Int) (v : Value) => match k with | none => v = .none | some i => ∃ t,v = .int i t) (evalPart p e) st Q
theorem P_none {Q : Option Int → St → Prop} (h : Q none st) : TP C d e none st Q := fun A kp B σ s hA hS => wpAny_evalPart_none (Post.here (b := none) hS rfl h)
theorem P_some {x : Expr} {Q : Option Int → St → Prop} (h : TV C d e (eval x e) st fun v st₁ => ∃ i,v = .int i ∧ Q (some i) st₁) : TP C d e (some x) st Q := by
  intro A kp B σ s hA hS
  refine wpAny_evalPart_some (wpAny_mono (h A kp B σ s hA hS) (fun v s₁ hp => ?_) fun _ _ x => x)
  obtain ⟨B₁,σ₁,a,st₁,g1,g2,g3,g4,i,rfl,g5⟩ := hp
  exact ⟨B₁,σ₁,some i,st₁,g1,g2,g3,g4,g5⟩

theorem T_SliceStr {value : Expr} {lower upper : Option Expr} {p pos : Pos} {Q : V → St → Prop}
    (h : TV C d e (eval value e) st fun o st₁ => TP C d e lower st₁ fun lo st₂ => TP C d e upper st₂ fun hi st₃ => ∃ l,o = .str l ∧ l.length ≤ 16777216 ∧ Q (.str (slc l lo hi)) st₃)
    (ht : ∀ o r,letTemporaryGo value o r = pure () := by with_unfolding_all intro _ _; rfl) : TV C d e (eval (.Subscript value (.Slice lower upper none p) pos) e) st Q := by
  intro A kp B σ s hA hS
  refine wpAny_with_toks (Nat.le_refl s.toks) (wpAny_Subscript_str_slice (wpAny_mono (h A kp B σ s hA hS) (fun o s₁ hp => ?_) fun _ _ x => x.elim) ht)
  obtain ⟨B₁,σ₁,a,st₁,g1,g2,g3,g4,g5⟩ := hp
  refine wpAny_mono (g5 A kp B₁ σ₁ s₁ hA g3) (fun vl s₂ hp₂ => ?_) fun _ _ x => x.elim
  obtain ⟨B₂,σ₂,lo,st₂,k1,k2,k3,k4,k5⟩ := hp₂
  refine wpAny_with_toks (Nat.le_refl s₂.toks) (wpAny_mono (k5 A kp B₂ σ₂ s₂ hA k3) (fun vu s₃ hp₃ => ?_) fun _ _ x => x.elim)
  obtain ⟨B₃,σ₃,hi,st₃,l1,l2,l3,l4,l,rfl,hz,hq⟩ := hp₃
  intro htk
  obtain ⟨x,t,rfl,hx⟩ := g4
  have hl : ∃ q : Option (Int × Tok),vl = partValue q ∧ q.map (·.1) = lo := by
    cases lo with
    | none => exact ⟨none,k4,rfl⟩
    | some i => obtain ⟨t,rfl⟩ := k4; exact ⟨some (i,t),rfl,rfl⟩
  have hu : ∃ q : Option (Int × Tok),vu = partValue q ∧ q.map (·.1) = hi := by
    cases hi with
    | none => exact ⟨none,l4,rfl⟩
    | some i => obtain ⟨t,rfl⟩ := l4; exact ⟨some (i,t),rfl,rfl⟩
  obtain ⟨ql,e1,e2⟩ := hl
  obtain ⟨qu,e3,e4⟩ := hu
  refine ⟨x,t,ql,qu,rfl,e1,e3,?_⟩
  have hS' := l3.push { cls := .type "slice",data := .fields #[vl,vu,.none] } s₃.toks s₃.drawn
  have hpick : ((Builtin.Str.strSliceIndices lo hi 1 x.length).filterMap (x.cps[·]?)) = slc l lo hi := by
    rw [← slice_eq l,← str_len hx,← hx]
    congr 1; funext i; simp
  have fin : ∀ (y : Str) (tk : Tok) (s' : Shared),y.cps.toList = slc l lo hi → S C kp B₃ σ₃ e st₃ s' → Post C kp B σ e (Rel C) Q (.str y tk) s' := fun y tk s' hy hS'' =>
    ⟨B₃,σ₃,.str (slc l lo hi),st₃,g1.trans (k1.trans l1),g2.trans (k2.trans l2),hS'',⟨y,tk,rfl,hy⟩,hq⟩
  unfold sliceMade slicePicked
  simp only [Option.map_none,Option.getD_none,e2,e4]
  split
  · rename_i hw
    intro _
    refine fin x t _ ?_ hS'
    have hw2 : (Builtin.Str.strSliceIndices lo hi 1 x.length).length = x.length := by simpa using hw
    rw [str_len hx,indices_eq,List.length_map,List.length_range] at hw2
    rw [hx]
    exact (slc_whole hw2).symm
  · rw [hpick]
    refine ⟨?_,fun _ => fin _ _ _ (by simp) (l3.push _ _ _)⟩
    have := slc_length_le l lo hi
    rw [sizeLine_eq]
    show (slc l lo hi).toArray.size ≤ 16777216
    simp only [List.size_toArray]; (first|lia -abstractProof|omega)

noncomputable def Item (C : Cx) (d : Nat) (e : Env) (a i : V) (st : St) (Q : V → St → Prop) : Prop :=
  ∀ A kp B σ s va vi,AOk d A → S C kp B σ e st s → Rel C B σ a va → Rel C B σ i vi → SubscriptOn (model P C.w) A va vi (Post C kp B σ e (Rel C) Q) NoE s
noncomputable def notSlice : Expr → Bool
  | .Slice .. => false
  | _ => true
theorem T_Sub {value slice : Expr} {pos : Pos} {Q : V → St → Prop} (h : TV C d e (eval value e) st fun o st₁ => TV C d e (eval slice e) st₁ fun i st₂ => Item C d e o i st₂ Q)
    (hs : notSlice slice = true := by with_unfolding_all rfl) : TV C d e (eval (.Subscript value slice pos) e) st Q := by
  intro A kp B σ s hA hS
  rw [eval_Subscript]
  refine wpAny_bind (wpAny_mono (h A kp B σ s hA hS) (fun o s₁ hp => ?_) fun _ _ x => x)
  obtain ⟨B₁,σ₁,a,st₁,g1,g2,g3,g4,g5⟩ := hp
  refine wpAny_bind (wpAny_holding (wpAny_mono (g5 A kp B₁ σ₁ s₁ hA g3) (fun i s₂ hp₂ => wpAny_bind (wpAny_standAt ?_)) fun _ _ x => x))
  obtain ⟨B₂,σ₂,b,st₂,k1,k2,k3,k4,k5⟩ := hp₂
  obtain ⟨T,id,hl,hT,hg⟩ := k5 A kp B₂ σ₂ s₂ o i hA k3 (g4.mono k1 k2) k4
  refine wpAny_bind ?_
  rw [getitemInPython_of_ne hT.not_modules]
  refine wpAny_bind (wpAny_specialOf hT hl ?_)
  have fin : wpAny (model P C.w) A (operate [o,i] (getItem o i)) (fun r s₃ => wpAny (model P C.w) A (letTemporaryGo value o r >>= fun _ => pure r) (Post C kp B σ e (Rel C) Q) NoE s₃) NoE s₂ :=
    wpAny_operating (wpAny_mono hg (fun r s₃ h₃ => wpAny_bind (wpAny_letTemporaryGo (wpAny_pure (h₃.weaken (g1.trans k1) (g2.trans k2))))) fun _ _ x => x)
  have hsub : subscripted slice false o i = operate [o,i] (getItem o i) := by
    cases slice <;> first | rfl | cases hs
  refine wpAny_pure ?_
  rw [hsub]
  exact wpAny_bind fin
theorem Item_str {l : List Nat} {i : Int} {c : Nat} {Q : V → St → Prop} (h0 : 0 ≤ i) (hc : l[i.toNat]? = some c) (hz : l.length ≤ 16777216) (h : Q (.str [c]) st) : Item C d e (.str l) (.int i) st Q := by
  rintro A kp B σ s va vi hA hS ⟨x,t,rfl,hx⟩ ⟨u,rfl⟩
  refine ⟨"str","str.__getitem__",PySem.F.slot_str_getitem.lookup,typeIs_str _ _ _,?_⟩
  have hlt : i.toNat < l.length := (List.getElem?_eq_some_iff.mp hc).1
  have hc' : x.cps[i.toNat]? = some c := by rw [← Array.getElem?_toList,hx]; exact hc
  have hat : Txt.charAt x i = some c := StrLaws.at_nonneg h0 hc'
  refine SB.getItem ?_ (by rw [hat]; rfl) (Post.here (hS.toks _ _) (Rel_str (l := [c]) (by unfold Txt.item; rw [hat]; rfl)) h)
  simp only [fitsSsize,Bool.not_eq_true',Bool.or_eq_false_iff,decide_eq_false_iff_not]
  (first|lia -abstractProof|omega)
theorem RelL.get {B : Base} {σ : List Addr} : ∀ {xs : List V} {vals : List Value} {i : Nat} {x : V},RelL C B σ xs vals → xs[i]? = some x → ∃ v,vals[i]? = some v ∧ Rel C B σ x v
  | [],_,_,_,_,h => by simp at h
  | y :: xs,vals,0,x,hr,h => by
    simp only [RelL] at hr; obtain ⟨v,r,rfl,h1,h2⟩ := hr
    simp only [List.getElem?_cons_zero,Option.some.injEq] at h; subst h
    exact ⟨v,rfl,h1⟩
  | y :: xs,vals,i + 1,x,hr,h => by
    simp only [RelL] at hr; obtain ⟨v,r,rfl,h1,h2⟩ := hr
    simp only [List.getElem?_cons_succ] at h ⊢
    exact RelL.get h2 h
theorem Item_lst {xs : List V} {i : Int} {x : V} {Q : V → St → Prop} (h0 : 0 ≤ i) (hc : xs[i.toNat]? = some x) (hz : xs.length ≤ 16777216) (h : Q x st) : Item C d e (.lst xs) (.int i) st Q := by
  rintro A kp B σ s va vi hA hS ⟨a,items,n,rfl,h1,h2⟩ ⟨u,rfl⟩
  obtain ⟨v,h3,h4⟩ := RelL.get h2 hc
  have hl : s.heap.IsList a items := ⟨_,hS.g.bh _ _ h1,rfl,n,rfl⟩
  refine ⟨"list","list.__getitem__",PySem.slot_list_getitem.lookup,hl.typeIs,wpAny_getItem_list hl h0 ?_ (by rw [← Array.getElem?_toList]; exact h3) (Post.here hS h4 h)⟩
  have := (List.getElem?_eq_some_iff.mp hc).1
  (first|lia -abstractProof|omega)
theorem Item_own {k : Nat} {xs : List V} {i : Int} {x : V} {Q : V → St → Prop} (hk : st.hp[k]? = some (.list xs)) (h0 : 0 ≤ i) (hc : xs[i.toNat]? = some x) (hz : xs.length ≤ 16777216) (h : Q x st) : Item C d e (.own k) (.int i) st Q := by
  rintro A kp B σ s va vi hA hS ⟨a,rfl,h1⟩ ⟨u,rfl⟩
  obtain ⟨_,_,_,items,n,hg,h2⟩ := hS.g.own k a _ h1 hk trivial
  obtain ⟨v,h3,h4⟩ := RelL.get h2 hc
  have hl : s.heap.IsList a items := ⟨_,hg,rfl,n,rfl⟩
  refine ⟨"list","list.__getitem__",PySem.slot_list_getitem.lookup,hl.typeIs,wpAny_getItem_list hl h0 ?_ (by rw [← Array.getElem?_toList]; exact h3) (Post.here hS h4 h)⟩
  have := (List.getElem?_eq_some_iff.mp hc).1
  (first|lia -abstractProof|omega)

theorem RelL1 {B : Base} {σ : List Addr} {a : V} {vals : List Value} (h : RelL C B σ [a] vals) : ∃ v,vals = [v] ∧ Rel C B σ a v := by
  simp only [RelL] at h; obtain ⟨v,r,rfl,h1,rfl⟩ := h; exact ⟨v,rfl,h1⟩
theorem RelL2 {B : Base} {σ : List Addr} {a b : V} {vals : List Value} (h : RelL C B σ [a,b] vals) : ∃ v w,vals = [v,w] ∧ Rel C B σ a v ∧ Rel C B σ b w := by
  simp only [RelL] at h; obtain ⟨v,r,rfl,h1,w,r,rfl,h2,rfl⟩ := h; exact ⟨v,w,rfl,h1,h2⟩
theorem RelL3 {B : Base} {σ : List Addr} {a b c : V} {vals : List Value} (h : RelL C B σ [a,b,c] vals) : ∃ v w x,vals = [v,w,x] ∧ Rel C B σ a v ∧ Rel C B σ b w ∧ Rel C B σ c x := by
  simp only [RelL] at h; obtain ⟨v,r,rfl,h1,w,r,rfl,h2,x,r,rfl,h3,rfl⟩ := h; exact ⟨v,w,x,rfl,h1,h2,h3⟩
theorem RelL4 {B : Base} {σ : List Addr} {a b c d : V} {vals : List Value} (h : RelL C B σ [a,b,c,d] vals) : ∃ v w x y,vals = [v,w,x,y] ∧ Rel C B σ a v ∧ Rel C B σ b w ∧ Rel C B σ c x ∧ Rel C B σ d y := by
  simp only [RelL] at h; obtain ⟨v,r,rfl,h1,w,r,rfl,h2,x,r,rfl,h3,y,r,rfl,h4,rfl⟩ := h; exact ⟨v,w,x,y,rfl,h1,h2,h3,h4⟩
theorem Ap_len_str {l : List Nat} {Q : V → St → Prop} (hz : l.length ≤ 16777216) (h : Q (.int l.length) st) : Ap C d e (.raw (.builtin "len")) [.str l] st Q := by
  intro A kp B σ s fv vals hA hS hf hv
  have hf : fv = .builtin "len" := hf
  obtain ⟨_,rfl,x,t,rfl,hx⟩ := RelL1 hv
  subst hf
  refine P.len_str (by rw [str_len hx]; (first|lia -abstractProof|omega)) (Post.here (hS.toks _ _) (show Rel C B σ (.int l.length) (.int x.length (s.toks + 1)) from ⟨_,by rw [str_len hx]⟩) h)
theorem Ap_ord {c : Nat} {Q : V → St → Prop} (h : Q (.int c) st) : Ap C d e (.raw (.builtin "ord")) [.str [c]] st Q := by
  intro A kp B σ s fv vals hA hS hf hv
  have hf : fv = .builtin "ord" := hf
  obtain ⟨_,rfl,x,t,rfl,hx⟩ := RelL1 hv
  subst hf
  have hx' : x = ⟨#[c]⟩ := by cases x; simp only [Str.mk.injEq]; exact Array.toList_inj.mp hx
  subst hx'
  exact P.ord_of_char (Post.here (hS.toks _ _) (show Rel C B σ (.int c) (.int c s.toks) from ⟨_,rfl⟩) h)
theorem Ap_chr {i : Int} {Q : V → St → Prop} (h0 : 0 ≤ i) (h1 : i ≤ 1114111) (h : Q (.str [i.toNat]) st) : Ap C d e (.raw (.builtin "chr")) [.int i] st Q := by
  intro A kp B σ s fv vals hA hS hf hv
  have hf : fv = .builtin "chr" := hf
  obtain ⟨_,rfl,t,rfl⟩ := RelL1 hv
  subst hf
  exact chr_of_range h0 h1 (Post.here (hS.toks _ _) (Rel_str (l := [i.toNat]) rfl) h)
end
end
section
open Builtin Builtin.Str StrLaws

noncomputable def lastIx (c : Nat) (l : List Nat) (a : Nat) : Nat → Option Nat
  | 0 => none
  | b + 1 => if a ≤ b ∧ l[b]? = some c then some b else lastIx c l a b
noncomputable def rfindV (c : Nat) (l : List Nat) (a b : Nat) : Int := match lastIx c l a b with | some i => (i : Int) | none => -1
noncomputable def cnt (c : Nat) (l : List Nat) (a b : Nat) : Nat := ((l.drop a).take (b - a)).count c

theorem lastIx_none {c : Nat} {l : List Nat} {a : Nat} : ∀ {b : Nat},lastIx c l a b = none → ∀ i,a ≤ i → i < b → l[i]? ≠ some c
  | 0,_,i,_,h => by (first|lia -abstractProof|omega)
  | b + 1,h,i,h1,h2 => by
    unfold lastIx at h
    split at h
    · cases h
    · rename_i q
      by_cases hi : i = b
      · subst hi; exact fun z => q ⟨h1,z⟩
      · exact lastIx_none h i h1 (by (first|lia -abstractProof|omega))
theorem lastIx_some {c : Nat} {l : List Nat} {a : Nat} : ∀ {b j : Nat},lastIx c l a b = some j → a ≤ j ∧ j < b ∧ l[j]? = some c ∧ ∀ i,j < i → i < b → l[i]? ≠ some c
  | 0,_,h => by cases h
  | b + 1,j,h => by
    unfold lastIx at h
    split at h
    · rename_i q
      cases h
      exact ⟨q.1,by (first|lia -abstractProof|omega),q.2,fun i h1 h2 => by (first|lia -abstractProof|omega)⟩
    · rename_i q
      obtain ⟨h1,h2,h3,h4⟩ := lastIx_some h
      refine ⟨h1,by (first|lia -abstractProof|omega),h3,fun i h5 h6 => ?_⟩
      by_cases hi : i = b
      · subst hi; exact fun z => q ⟨by (first|lia -abstractProof|omega),z⟩
      · exact h4 i h5 (by (first|lia -abstractProof|omega))
theorem lastIx_unique {c : Nat} {l : List Nat} {a b j : Nat} (h1 : a ≤ j) (h2 : j < b) (h3 : l[j]? = some c) (h4 : ∀ i,j < i → i < b → l[i]? ≠ some c) : lastIx c l a b = some j := by
  cases h : lastIx c l a b with
  | none => exact absurd h3 (lastIx_none h j h1 h2)
  | some k =>
    obtain ⟨k1,k2,k3,k4⟩ := lastIx_some h
    by_cases q : j < k
    · exact absurd k3 (h4 k q k2)
    · by_cases q' : k < j
      · exact absurd h3 (k4 j q' h2)
      · rw [show k = j by (first|lia -abstractProof|omega)]
theorem lastIx_eq_none {c : Nat} {l : List Nat} {a b : Nat} (h : ∀ i,a ≤ i → i < b → l[i]? ≠ some c) : lastIx c l a b = none := by
  cases q : lastIx c l a b with
  | none => rfl
  | some k => obtain ⟨k1,k2,k3,_⟩ := lastIx_some q; exact absurd k3 (h k k1 k2)

theorem last_one (x : Str) (c lo hi : Nat) (hhi : hi ≤ x.length) : lastOccurrence x ⟨#[c]⟩ lo hi = lastIx c x.cps.toList lo hi := by
  rw [last_eq]
  have at_iff : ∀ i,At x ⟨#[c]⟩ hi i ↔ i < hi ∧ x.cps.toList[i]? = some c := fun i => by
    have := subAt_one x c i
    unfold At
    constructor
    · rintro ⟨h1,h2⟩
      have h1' : i + 1 ≤ hi := h1
      exact ⟨h1',this.mp ⟨by show i + 1 ≤ x.length; (first|lia -abstractProof|omega),h2⟩⟩
    · rintro ⟨h1,h2⟩
      exact ⟨h1,(this.mpr h2).2⟩
  have key := last_run x ⟨#[c]⟩ hi (List.range' lo (hi + 1 - lo)) [] none (fun _ h => nomatch h) (fun _ h => nomatch h) (by simpa using List.pairwise_lt_range' (s := lo) (n := hi + 1 - lo))
  cases hr : (forIn (List.range' lo (hi + 1 - lo)) none (lastBody x ⟨#[c]⟩ hi)).run with
  | none =>
    rw [hr] at key
    exact (lastIx_eq_none fun i h1 h2 h3 => key i (by simp only [List.nil_append,List.mem_range'_1]; (first|lia -abstractProof|omega)) ((at_iff i).mpr ⟨h2,h3⟩)).symm
  | some a =>
    rw [hr] at key
    obtain ⟨k1,k2⟩ := key
    obtain ⟨h1,h2⟩ := (at_iff a).mp k1
    have hmem : lo ≤ a ∨ a < lo := by (first|lia -abstractProof|omega)
    rcases hmem with hlo | hlo
    · exact (lastIx_unique hlo h1 h2 fun i h3 h4 h5 => k2 i (by simp only [List.nil_append,List.mem_range'_1]; (first|lia -abstractProof|omega)) h3 ((at_iff i).mpr ⟨h4,h5⟩)).symm
    · exfalso
      -- the place was met in the range
      have mem : ∀ (l : List Nat) (st : Option Nat) (z : Nat),(forIn l st (lastBody x ⟨#[c]⟩ hi)).run = some z → st = some z ∨ z ∈ l := by
        intro l
        induction l with
        | nil => intro st z h; left; simpa using h
        | cons y r ih =>
          intro st z h
          rw [List.forIn_cons] at h
          unfold lastBody at h
          split at h
          · rcases ih _ z h with q | q
            · cases q; exact .inr (.head _)
            · exact .inr (.tail _ q)
          · rcases ih _ z h with q | q
            · exact .inl q
            · exact .inr (.tail _ q)
      rcases mem _ _ _ hr with q | q
      · cases q
      · rw [List.mem_range'_1] at q; (first|lia -abstractProof|omega)

theorem occ_one (x : Str) (c lo hi limit : Nat) (hhi : hi ≤ x.length) (hl : hi + 1 ≤ limit) : (occurrences x ⟨#[c]⟩ lo hi limit).length = cnt c x.cps.toList lo hi := by
  rw [occ_eq]
  have sub_iff : ∀ i,i + 1 ≤ hi → (subAt x ⟨#[c]⟩ i = true ↔ x.cps.toList[i]? = some c) := fun i h => by
    have := subAt_one x c i
    constructor
    · intro h2; exact this.mp ⟨by show i + 1 ≤ x.length; (first|lia -abstractProof|omega),h2⟩
    · intro h2; exact (this.mpr h2).2
  have go : ∀ (n lo : Nat) (arr : Array Nat) (free : Nat),lo + n = hi + 1 → free ≤ lo → arr.size + n ≤ limit →
      (forIn (List.range' lo n) ((arr,free) : Array Nat × Nat) (occBody x ⟨#[c]⟩ hi limit)).run.fst.size = arr.size + cnt c x.cps.toList lo hi := by
    intro n
    induction n with
    | zero =>
      intro lo arr free h1 h2 h3
      have : cnt c x.cps.toList lo hi = 0 := by unfold cnt; rw [show hi - lo = 0 by (first|lia -abstractProof|omega)]; simp
      rw [this]; rfl
    | succ n ih =>
      intro lo arr free h1 h2 h3
      rw [List.range'_succ,List.forIn_cons]
      unfold occBody
      by_cases hlt : lo < hi
      · have hlt' : lo < x.cps.toList.length := by simp only [Array.length_toList]; exact Nat.lt_of_lt_of_le hlt hhi
        have hstep : cnt c x.cps.toList lo hi = (if x.cps.toList[lo]? = some c then 1 else 0) + cnt c x.cps.toList (lo + 1) hi := by
          unfold cnt
          rw [List.drop_eq_getElem_cons hlt',show hi - lo = (hi - (lo + 1)) + 1 by (first|lia -abstractProof|omega),List.take_succ_cons,List.count_cons,List.getElem?_eq_getElem hlt']
          simp only [Option.some.injEq,beq_iff_eq]
          (first|lia -abstractProof|omega)
        by_cases hc : x.cps.toList[lo]? = some c
        · have c1 : ((((arr,free) : Array Nat × Nat).fst.size < limit ∧ ((arr,free) : Array Nat × Nat).snd ≤ lo) ∧ lo + (⟨#[c]⟩ : Str).length ≤ hi) ∧ subAt x ⟨#[c]⟩ lo = true :=
            ⟨⟨⟨by show arr.size < limit; (first|lia -abstractProof|omega),h2⟩,hlt⟩,(sub_iff lo hlt).mpr hc⟩
          rw [if_pos c1]
          have := ih (lo + 1) (arr.push lo) (lo + 1) (by (first|lia -abstractProof|omega)) (Nat.le_refl _) (by rw [Array.size_push]; (first|lia -abstractProof|omega))
          rw [hstep,if_pos hc]
          rw [Array.size_push] at this
          refine Eq.trans this ?_
          (first|lia -abstractProof|omega)
        · have c2 : ¬ (((((arr,free) : Array Nat × Nat).fst.size < limit ∧ ((arr,free) : Array Nat × Nat).snd ≤ lo) ∧ lo + (⟨#[c]⟩ : Str).length ≤ hi) ∧ subAt x ⟨#[c]⟩ lo = true) := fun q => hc ((sub_iff lo hlt).mp q.2)
          rw [if_neg c2]
          have := ih (lo + 1) arr free (by (first|lia -abstractProof|omega)) (by (first|lia -abstractProof|omega)) (by (first|lia -abstractProof|omega))
          rw [hstep,if_neg hc]
          refine Eq.trans this ?_
          (first|lia -abstractProof|omega)
      · have c2 : ¬ (((((arr,free) : Array Nat × Nat).fst.size < limit ∧ ((arr,free) : Array Nat × Nat).snd ≤ lo) ∧ lo + (⟨#[c]⟩ : Str).length ≤ hi) ∧ subAt x ⟨#[c]⟩ lo = true) := fun q => by
          have q2 : lo + 1 ≤ hi := q.1.2
          (first|lia -abstractProof|omega)
        rw [if_neg c2]
        have := ih (lo + 1) arr free (by (first|lia -abstractProof|omega)) (by (first|lia -abstractProof|omega)) (by (first|lia -abstractProof|omega))
        refine Eq.trans this ?_
        unfold cnt
        rw [show hi - lo = 0 by (first|lia -abstractProof|omega),show hi - (lo + 1) = 0 by (first|lia -abstractProof|omega)]; simp
  by_cases h : lo ≤ hi
  · have := go (hi + 1 - lo) lo #[] lo (by (first|lia -abstractProof|omega)) (Nat.le_refl _) (by simp; (first|lia -abstractProof|omega))
    rw [Array.length_toList]
    refine Eq.trans this ?_
    simp
  · rw [show hi + 1 - lo = 0 by (first|lia -abstractProof|omega)]
    have : cnt c x.cps.toList lo hi = 0 := by unfold cnt; rw [show hi - lo = 0 by (first|lia -abstractProof|omega)]; simp
    rw [this]; rfl

theorem gives_rfind4 (x y : Str) (i j : Int) (t u v w : Tok) : Gives («str.rfind» ⟨[.str x t,.str y u,.int i v,.int j w],[]⟩) (.int (match lastOccurrence x y (fromIndex x.length i) (min (fromIndex x.length j) x.length) with | some k => (k : Int) | none => -1)) := by
  show Gives (match lastOccurrence x y (fromIndex x.length i) (min (fromIndex x.length j) x.length) with | some k => retInt k | none => (do rule "str.rfind.not-found"; retInt (-1))) _
  cases lastOccurrence x y (fromIndex x.length i) (min (fromIndex x.length j) x.length) with
  | none => exact .rule (.of_eq rfl)
  | some k => exact .of_eq rfl
theorem gives_count4 (x y : Str) (i j : Int) (t u v w : Tok) : Gives («str.count» ⟨[.str x t,.str y u,.int i v,.int j w],[]⟩) (.int (occurrences x y (fromIndex x.length i) (min (fromIndex x.length j) x.length) (x.length + 1)).length) := .of_eq rfl
theorem args_rfind4 (a b c d : Value) : argsOk "str.rfind" ⟨[a,b,c,d],[]⟩ := by unfold argsOk; kernel_rfl
theorem args_count4 (a b c d : Value) : argsOk "str.count" ⟨[a,b,c,d],[]⟩ := by unfold argsOk; kernel_rfl
theorem fromIndex_nat (n k : Nat) : fromIndex n (k : Int) = k := by unfold fromIndex; split <;> (first|lia -abstractProof|omega)

section
variable {C : Cx} {d : Nat} {e : Env} {st : St}
theorem Rel_int {B : Base} {σ : List Addr} {i j : Int} {t : Tok} (h : j = i) : Rel C B σ (.int i) (.int j t) := ⟨t,by rw [h]⟩
theorem Rel_bool {B : Base} {σ : List Addr} {i j : Bool} (h : j = i) : Rel C B σ (.bool i) (.bool j) := by rw [h]; rfl
theorem Ap_rfind {l : List Nat} {c a b : Nat} {Q : V → St → Prop} (hb : b ≤ l.length) (h : Q (.int (rfindV c l a b)) st) : Ap C d e (.raw (.builtin "str.rfind")) [.str l,.str [c],.int a,.int b] st Q := by
  intro A kp B σ s fv vals hA hS hf hv
  have hf : fv = .builtin "str.rfind" := hf
  obtain ⟨_,_,_,_,rfl,⟨x,t,rfl,hx⟩,⟨y,u,rfl,hy⟩,⟨v,rfl⟩,⟨w,rfl⟩⟩ := RelL4 hv
  subst hf
  have hy' : y = ⟨#[c]⟩ := by cases y; simp only [Str.mk.injEq]; exact Array.toList_inj.mp hy
  subst hy'
  refine call_gives PySem.F.slot_str_rfind (typeIs_str _ _ _) PySem.F.entry_str_rfind (args_rfind4 _ _ _ _) (gives_rfind4 x _ _ _ t u v w) (Post.here (hS.toks _ _) (Rel_int (i := rfindV c l a b) ?_) h)
  rw [fromIndex_nat,fromIndex_nat,str_len hx,Nat.min_eq_left hb,last_one x c a b (by rw [str_len hx]; exact hb),hx]; rfl
theorem Ap_count {l : List Nat} {c a b : Nat} {Q : V → St → Prop} (hb : b ≤ l.length) (h : Q (.int (cnt c l a b)) st) : Ap C d e (.raw (.builtin "str.count")) [.str l,.str [c],.int a,.int b] st Q := by
  intro A kp B σ s fv vals hA hS hf hv
  have hf : fv = .builtin "str.count" := hf
  obtain ⟨_,_,_,_,rfl,⟨x,t,rfl,hx⟩,⟨y,u,rfl,hy⟩,⟨v,rfl⟩,⟨w,rfl⟩⟩ := RelL4 hv
  subst hf
  have hy' : y = ⟨#[c]⟩ := by cases y; simp only [Str.mk.injEq]; exact Array.toList_inj.mp hy
  subst hy'
  refine call_gives PySem.F.slot_str_count (typeIs_str _ _ _) PySem.F.entry_str_count (args_count4 _ _ _ _) (gives_count4 x _ _ _ t u v w) (Post.here (hS.toks _ _) (Rel_int (i := cnt c l a b) ?_) h)
  rw [fromIndex_nat,fromIndex_nat,str_len hx,Nat.min_eq_left hb,occ_one x c a b _ (by rw [str_len hx]; exact hb) (by (first|lia -abstractProof|omega)),hx]

noncomputable def startsAt (l m : List Nat) (i : Nat) : Bool := (l.drop i).take m.length == m
theorem starts3_eq {x y : Str} {l m : List Nat} (hx : x.cps.toList = l) (hy : y.cps.toList = m) (hm : m ≠ []) (i : Nat) : Txt.startswith3 x y (i : Int) = startsAt l m i := by
  unfold Txt.startswith3 startsAt
  rw [fromIndex_nat,subAt_eq,str_len hx,str_len hy,hx,hy]
  by_cases h : i + m.length ≤ l.length
  · simp [h]
  · have hne : ((l.drop i).take m.length == m) = false := by
      cases q : (l.drop i).take m.length == m with
      | false => rfl
      | true =>
        have := congrArg List.length (beq_iff_eq.mp q)
        rw [List.length_take,List.length_drop] at this
        have hpos : 0 < m.length := List.length_pos_iff.mpr hm
        (first|lia -abstractProof|omega)
    rw [hne]; simp
theorem Ap_startswith {l m : List Nat} {i : Nat} {Q : V → St → Prop} (hm : m ≠ []) (h : Q (.bool (startsAt l m i)) st) : Ap C d e (.raw (.builtin "str.startswith")) [.str l,.str m,.int i] st Q := by
  intro A kp B σ s fv vals hA hS hf hv
  have hf : fv = .builtin "str.startswith" := hf
  obtain ⟨_,_,_,rfl,⟨x,t,rfl,hx⟩,⟨y,u,rfl,hy⟩,⟨v,rfl⟩⟩ := RelL3 hv
  subst hf
  exact SC.startswith3 (Post.here hS (Rel_bool (starts3_eq hx hy hm i)) h)
end
end
section
open Builtin Builtin.Str StrLaws

theorem strs_values {C : Cx} {B : Base} {σ : List Addr} : ∀ {xs : List V} {ys : List (List Nat)} {vals : List Value},strsOf xs = some ys → RelL C B σ xs vals → ∃ l : List (Str × Tok),vals = strValues l ∧ l.map (fun p => p.1.cps.toList) = ys
  | [],ys,vals,h,hr => by
    simp only [strsOf,Option.some.injEq] at h; simp only [RelL] at hr; subst h; subst hr; exact ⟨[],rfl,rfl⟩
  | .str l :: r,ys,vals,h,hr => by
    simp only [strsOf] at h
    obtain ⟨ys',h1,rfl⟩ := Option.map_eq_some_iff.mp h
    simp only [RelL] at hr
    obtain ⟨v,rest,rfl,⟨x,t,rfl,hx⟩,hr⟩ := hr
    obtain ⟨zs,h2,h3⟩ := strs_values h1 hr
    exact ⟨(x,t) :: zs,by rw [h2]; rfl,by rw [List.map_cons,h3,hx]⟩
  | .undef :: _,_,_,h,_ | .none :: _,_,_,h,_ | .bool _ :: _,_,_,h,_ | .int _ :: _,_,_,h,_ | .tup _ :: _,_,_,h,_ | .lst _ :: _,_,_,h,_ | .dct _ :: _,_,_,h,_ | .inst _ _ :: _,_,_,h,_ | .own _ :: _,_,_,h,_ | .fn _ :: _,_,_,h,_ | .cls _ :: _,_,_,h,_ | .raw _ :: _,_,_,h,_ | .rng _ _ _ :: _,_,_,h,_ => by simp [strsOf] at h

theorem join_empty : ∀ (ps : List Str),(Str.join ⟨#[]⟩ ps).cps.toList = (ps.map (·.cps.toList)).flatten
  | [] => rfl
  | [x] => by show x.cps.toList = _; simp
  | x :: y :: r => by
    have ih := join_empty (y :: r)
    show (x ++ (⟨#[]⟩ : Str) ++ Str.join ⟨#[]⟩ (y :: r)).cps.toList = _
    rw [Str.cps_append,Str.cps_append]
    simp only [Array.toList_append,List.append_nil,ih,List.map_cons,List.flatten_cons]

section
variable {C : Cx} {d : Nat} {e : Env} {st : St}

theorem Ap_append {i : Nat} {xs : List V} {v : V} {Q : V → St → Prop} (hi : st.hp[i]? = some (.list xs)) (hz : xs.length ≤ 16777216) (h : Q .none ⟨st.vars,st.hp.set i (.list (xs ++ [v]))⟩) : Ap C d e (.raw (.builtin "list.append")) [.own i,v] st Q := by
  intro A kp B σ s fv vals hA hS hf hv
  have hf : fv = .builtin "list.append" := hf
  obtain ⟨_,y,rfl,⟨a,rfl,ha⟩,hy⟩ := RelL2 hv
  subst hf
  obtain ⟨_,_,_,items,n,h1,h2⟩ := hS.g.own i a _ ha hi trivial
  have hlen := RelL.length h2
  refine wpAny_list_append_plain ⟨n,h1⟩ (fun h' hp' hs' => ?_) (by rw [sizeLine_eq]; rw [Array.length_toList] at hlen; (first|lia -abstractProof|omega))
  obtain ⟨n',hp'⟩ := hp'
  have go : ∀ {xs : List V} {vs : List Value},RelL C B σ xs vs → RelL C B σ (xs ++ [v]) (vs ++ [y]) := by
    intro xs
    induction xs with
    | nil => intro vs hr; simp only [RelL] at hr; subst hr; exact ⟨_,_,rfl,hy,rfl⟩
    | cons x r ih => intro vs hr; simp only [RelL] at hr; obtain ⟨w,r',rfl,q1,q2⟩ := hr; exact ⟨_,_,rfl,q1,ih q2⟩
  exact Post.here (hS.change (ao' := .list (xs ++ [v])) ha hi trivial (fun b o hb eb => (hs'.2 b hb).trans eb) ⟨_,hp'⟩ (show AR C B σ h' a (.list (xs ++ [v])) from ⟨_,n',hp',by rw [Array.toList_push]; exact go h2⟩) _ _) (show Rel C B σ .none .none from rfl) h

theorem str_nil {x : Str} (hx : x.cps.toList = []) : x = ⟨#[]⟩ := by cases x; simp only [Str.mk.injEq]; exact Array.toList_inj.mp hx
theorem join_ok {A : Around} {s : Shared} {a : Addr} {l : List (Str × Tok)} {sep : Str} {t : Tok} {R E : Value → Shared → Prop} (hl : s.heap.IsList a (strValues l).toArray) (hsep : sep = ⟨#[]⟩) (hz : ((l.map fun p => p.1.cps.toList).flatten).length ≤ 16777216)
    (hR : ∀ x t' k,x.cps.toList = (l.map fun p => p.1.cps.toList).flatten → R (.str x t') { s with toks := k }) : wpAny (model P C.w) A (call (.builtin "str.join") [.str sep t,.ref a]) R E s := by
  subst hsep
  have hflat : (l.map fun p => p.1.cps.toList).flatten = (Str.join ⟨#[]⟩ (l.map (·.1))).cps.toList := by rw [join_empty,List.map_map]; rfl
  have hsum : ∀ l : List (Str × Tok),((l.map (·.1)).map (·.length)).sum = ((l.map fun p => p.1.cps.toList).flatten).length := by
    intro l
    induction l with
    | nil => rfl
    | cons p r ih => simp only [List.map_cons,List.sum_cons,List.flatten_cons,List.length_append,ih]; simp [Str.length]
  have hl' : tooLong ((l.map (·.1)).toArray.foldl (· + ·.length + (⟨#[]⟩ : Str).length) 0) = false := by
    rw [joinTotal,hsum]
    unfold tooLong
    exact decide_eq_false (by rw [sizeLine_eq]; simp only [Str.length,Array.size_empty]; (first|lia -abstractProof|omega))
  have hlen : (Txt.join ⟨#[]⟩ (l.map (·.1))).length ≤ sizeLine := by
    rw [sizeLine_eq]
    have e : (Txt.join ⟨#[]⟩ (l.map (·.1))).cps.toList = (l.map fun p => p.1.cps.toList).flatten := by rw [hflat,Txt.join,glued_eq_join]
    rw [str_len e]; exact hz
  refine call_meets PySem.F.slot_str_join (typeIs_str _ _ _) PySem.F.entry_str_join (PySem.F.args_str_join_2 _ _) (meets_str_join_list ⟨#[]⟩ t a l hl') ⟨hl,?_⟩
  exact post_join l ⟨hlen,fun t' k => hR _ t' k (by rw [hflat,Txt.join,glued_eq_join])⟩
theorem Ap_join_own {i : Nat} {xs : List V} {ys : List (List Nat)} {Q : V → St → Prop} (hi : st.hp[i]? = some (.list xs)) (hs : strsOf xs = some ys) (hz : ys.flatten.length ≤ 16777216) (h : Q (.str ys.flatten) st) : Ap C d e (.raw (.builtin "str.join")) [.str [],.own i] st Q := by
  intro A kp B σ s fv vals hA hS hf hv
  have hf : fv = .builtin "str.join" := hf
  obtain ⟨_,_,rfl,⟨x,t,rfl,hx⟩,a,rfl,ha⟩ := RelL2 hv
  subst hf
  obtain ⟨_,_,_,items,n,h1,h2⟩ := hS.g.own i a _ ha hi trivial
  obtain ⟨l,h3,h4⟩ := strs_values hs h2
  have hit : items = (strValues l).toArray := by rw [← h3]
  refine wpAny_with_toks (Nat.le_refl s.toks) (join_ok (l := l) ⟨_,h1,rfl,n,by rw [hit]⟩ (str_nil hx) (by rw [h4]; exact hz) fun y t' k hy hk => ?_)
  exact Post.here (hS.toks _ _ hk) (Rel_str (by rw [hy,h4])) h
end
end
section
theorem ite_tt {A B : Prop} (h : A) : if true = true then A else B := by simpa using h
theorem ite_ff {A B : Prop} (h : B) : if false = true then A else B := by simpa using h
theorem ite_in {b : Bool} {A B : Prop} (h1 : b = true → A) (h2 : b = false → B) : if b = true then A else B := by
  cases b
  · simpa using h2 rfl
  · simpa using h1 rfl
section
variable {C : Cx} {d : Nat} {e : Env} {st : St}
theorem AsgL_nil {Q : St → Prop} (h : Q st) : AsgL C d e [] [] st Q := h
theorem AsgL_cons {t : Expr} {ts : List Expr} {v : V} {vs : List V} {Q : St → Prop} (h : Asg C d e t v st fun st' => AsgL C d e ts vs st' Q) : AsgL C d e (t :: ts) (v :: vs) st Q := h
theorem nu_none : V.none ≠ .undef := nofun
theorem nu_bool {b : Bool} : V.bool b ≠ .undef := nofun
theorem nu_int {b : Int} : V.int b ≠ .undef := nofun
theorem nu_str {b : List Nat} : V.str b ≠ .undef := nofun
theorem nu_tup {b : List V} : V.tup b ≠ .undef := nofun
theorem nu_lst {b : List V} : V.lst b ≠ .undef := nofun
theorem nu_dct {b : List (List Nat × V)} : V.dct b ≠ .undef := nofun
theorem nu_inst {i : Nat} {b : List V} : V.inst i b ≠ .undef := nofun
theorem nu_own {b : Nat} : V.own b ≠ .undef := nofun
theorem nu_fn {b : Nat} : V.fn b ≠ .undef := nofun
theorem nu_cls {b : Nat} : V.cls b ≠ .undef := nofun
theorem nu_raw {b : Value} : V.raw b ≠ .undef := nofun
theorem nu_rng {a b c : Int} : V.rng a b c ≠ .undef := nofun
theorem ne_undef {v : V} (h : (match v with | .undef => false | _ => true) = true) : v ≠ .undef := by rintro rfl; cases h
end
end
section
section
variable {C : Cx} {d : Nat} {e : Env} {st : St}

inductive Has (x : Str) (v : V) : List (Str × V) → Prop where
  | here {r : List (Str × V)} : Has x v ((x,v) :: r)
  | there {p : Str × V} {r : List (Str × V)} : Has x v r → Has x v (p :: r)
theorem Has.mem {x : Str} {v : V} {l : List (Str × V)} (h : Has x v l) : (x,v) ∈ l := by
  induction h with
  | here => exact .head _
  | there _ ih => exact .tail _ ih
noncomputable def K (C : Cx) (d : Nat) (e : Env) (r : List Stmt) (Q : AF → St → Prop) : AF → St → Prop
  | .next,st => TF C d e (execs r e) st Q
  | .brk,st => Q .brk st
  | .cont,st => Q .cont st
  | .ret v,st => Q (.ret v) st
theorem K_next {r : List Stmt} {Q : AF → St → Prop} (h : TF C d e (execs r e) st Q) : K C d e r Q .next st := h
theorem K_ret {r : List Stmt} {Q : AF → St → Prop} {v : V} (h : Q (.ret v) st) : K C d e r Q (.ret v) st := h

theorem S_cons {x : Stmt} {r : List Stmt} {Q : AF → St → Prop} (h : TF C d e (exec x e) st (K C d e r Q)) : TF C d e (execs (x :: r) e) st Q := by
  refine T_cons (T.mono h fun f st₁ q => ?_)
  cases f <;> exact q
theorem S_If {test : Expr} {body orelse r : List Stmt} {pos : Pos} {Q : AF → St → Prop}
    (h : TB C d e (isTrue test e (eval test e)) st (fun b st₁ => if b = true then TF C d e (execs body e) st₁ (K C d e r Q) else TF C d e (execs orelse e) st₁ (K C d e r Q))) : TF C d e (execs (.If test body orelse pos :: r) e) st Q := S_cons (T_If h)
theorem S_IfE {test : Expr} {body orelse : List Stmt} {pos : Pos} {Q : AF → St → Prop}
    (h : TB C d e (isTrue test e (eval test e)) st (fun b st₁ => if b = true then TF C d e (execs body e) st₁ Q else TF C d e (execs orelse e) st₁ Q)) : TF C d e (execs [.If test body orelse pos] e) st Q := by
  refine T_cons (T.mono (T_If h) fun f st₁ q => ?_)
  cases f <;> first | exact T_nil q | exact q
theorem S_Return {x : Expr} {r : List Stmt} {pos : Pos} {Q : AF → St → Prop} (h : TV C d e (eval x e) st fun v st₁ => Q (.ret v) st₁) : TF C d e (execs (.Return (some x) pos :: r) e) st Q := T_cons (T_Return h)
theorem S_Break {r : List Stmt} {pos : Pos} {Q : AF → St → Prop} (h : Q .brk st) : TF C d e (execs (.Break pos :: r) e) st Q := T_cons (T_Break h)
theorem S_Continue {r : List Stmt} {pos : Pos} {Q : AF → St → Prop} (h : Q .cont st) : TF C d e (execs (.Continue pos :: r) e) st Q := T_cons (T_Continue h)
theorem S_Expr {x : Expr} {r : List Stmt} {pos : Pos} {Q : AF → St → Prop} (h : TV C d e (eval x e) st fun _ st₁ => TF C d e (execs r e) st₁ Q) (hsw : swapsWith x none pos.line e = pure false := by with_unfolding_all rfl) : TF C d e (execs (.Expr x pos :: r) e) st Q := T_cons (T_Expr h hsw)
theorem S_Assert {x : Expr} {r : List Stmt} {msg : Option Expr} {pos : Pos} {Q : AF → St → Prop} (h : TB C d e (isTrue x e (eval x e)) st fun b st₁ => b = true ∧ TF C d e (execs r e) st₁ Q) : TF C d e (execs (.Assert x msg pos :: r) e) st Q := T_cons (T_Assert h)
theorem S_Assign {t value : Expr} {r : List Stmt} {pos : Pos} {Q : AF → St → Prop} (h : TV C d e (eval value e) st fun v st₁ => Asg C d e t v st₁ fun st₂ => TF C d e (execs r e) st₂ Q)
    (h1 : (assignEach [t] e).map (·.2) = [assign t e] := by with_unfolding_all rfl) (h2 : swapsWithSole [t] value pos.line e = pure false := by with_unfolding_all rfl) (h3 : swappedStores [t] value e = pure none := by with_unfolding_all rfl) : TF C d e (execs (.Assign [t] value pos :: r) e) st Q := T_cons (T_Assign1 h h1 h2 h3)
theorem S_Assign2 {t₁ t₂ value : Expr} {r : List Stmt} {pos : Pos} {Q : AF → St → Prop} (h : TV C d e (eval value e) st fun v st₁ => Asg C d e t₁ v st₁ fun st₂ => Asg C d e t₂ v st₂ fun st₃ => TF C d e (execs r e) st₃ Q)
    (h1 : (assignEach [t₁,t₂] e).map (·.2) = [assign t₁ e,assign t₂ e] := by with_unfolding_all rfl) (h3 : swappedStores [t₁,t₂] value e = pure none := by with_unfolding_all rfl) : TF C d e (execs (.Assign [t₁,t₂] value pos :: r) e) st Q := T_cons (T_Assign2 h h1 h3)
noncomputable def Sto (x : Str) (w : V) (st : St) (R : St → Prop) : Prop := ∃ vars',Upd x w st.vars vars' ∧ R ⟨vars',st.hp⟩
theorem Sto_x {x : Str} {w : V} {vars vars' : List (Str × V)} {hp : List AObj} {R : St → Prop} (h : R ⟨vars',hp⟩) (U : Upd x w vars vars' := by with_reducible repeat constructor) : Sto x w ⟨vars,hp⟩ R := ⟨vars',U,h⟩
theorem S_Aug {x : Str} {npos pos : Pos} {op : Operator} {value : Expr} {r : List Stmt} {old : V} {Q : AF → St → Prop} 
    (h : TV C d e (eval value e) st fun v st₁ => Bin C d e (inplaceOp op) old v st₁ fun w st₂ => Sto x w st₂ fun st₃ => TF C d e (execs r e) st₃ Q)
    (hm : Has x old st.vars := by with_reducible repeat constructor) (hne : old ≠ .undef := by first | assumption | exact ne_undef rfl) : TF C d e (execs (.AugAssign (.Name x npos) op value pos :: r) e) st Q := T_cons (T_AugAssign hm.mem hne h)
noncomputable def NewL (vs : List V) (st : St) (Q : V → St → Prop) : Prop := vs.length ≤ 16777216 ∧ Q (.own st.hp.length) ⟨st.vars,st.hp ++ [.list vs]⟩
theorem NewL_i {vs : List V} {vars : List (Str × V)} {hp : List AObj} {Q : V → St → Prop} (h : Q (.own hp.length) ⟨vars,hp ++ [.list vs]⟩) (hz : vs.length ≤ 16777216 := by first | (first|lia -abstractProof|omega) | (simp only [List.length_cons,List.length_nil]; (first|lia -abstractProof|omega))) : NewL vs ⟨vars,hp⟩ Q := ⟨hz,h⟩
theorem T_ListN {elts : List Expr} {pos : Pos} {Q : V → St → Prop} (h : TA C d e pos elts st fun vs st₁ => NewL vs st₁ Q) : TV C d e (eval (.List elts pos) e) st Q :=
  T_List (T.mono h fun vs st₁ ⟨h1,h2⟩ => ⟨by rw [sizeLine_eq]; exact h1,h2⟩)
theorem S_While {test : Expr} {body orelse r : List Stmt} {pos : Pos} {Q : AF → St → Prop} (I : Nat → St → Prop) (n : Nat) (h : I n st)
    (turn : ∀ n st₁,I n st₁ → TB C d e (isTrue test e (eval test e)) st₁ fun b st₂ => if b = true then TF C d e (execs body e) st₂ (fun f st₃ => match f with
        | .next | .cont => ∃ m,m < n ∧ I m st₃
        | .brk => TF C d e (execs r e) st₃ Q
        | .ret v => Q (.ret v) st₃) else TF C d e (execs orelse e) st₂ (K C d e r Q)) : TF C d e (execs (.While test body orelse pos :: r) e) st Q :=
  S_cons (T_While I (fun n st₁ hI => turn n st₁ hI) n h)

noncomputable def WK (C : Cx) (d : Nat) (e : Env) (I : Nat → St → Prop) (n : Nat) (r : List Stmt) (Q : AF → St → Prop) : AF → St → Prop
  | .next,st | .cont,st => ∃ m,m < n ∧ I m st
  | .brk,st => TF C d e (execs r e) st Q
  | .ret v,st => Q (.ret v) st
section
variable {I : Nat → St → Prop} {n : Nat} {r : List Stmt} {Q : AF → St → Prop} {v : V}
theorem WK_brk (h : TF C d e (execs r e) st Q) : WK C d e I n r Q .brk st := h
theorem WK_ret (h : Q (.ret v) st) : WK C d e I n r Q (.ret v) st := h
theorem WK_next (m : Nat) (hm : m < n) (h : I m st) : WK C d e I n r Q .next st := ⟨m,hm,h⟩
end
theorem S_W {test : Expr} {body orelse r : List Stmt} {pos : Pos} {Q : AF → St → Prop} (I : Nat → St → Prop) (n : Nat) (h : I n st)
    (turn : ∀ n st₁,I n st₁ → TB C d e (isTrue test e (eval test e)) st₁ fun b st₂ => if b = true then TF C d e (execs body e) st₂ (WK C d e I n r Q) else TF C d e (execs orelse e) st₂ (K C d e r Q)) : TF C d e (execs (.While test body orelse pos :: r) e) st Q :=
  S_While I n h fun n st₁ hI => T.mono (turn n st₁ hI) fun b st₂ q => by
    cases b
    · simpa using q
    · simp only [if_true] at q ⊢
      exact T.mono q fun f st₃ q => by cases f <;> exact q
inductive Fgt : List (Str × V) → List (Str × V) → Prop where
  | nil : Fgt [] []
  | keep {p : Str × V} {r r' : List (Str × V)} : Fgt r r' → Fgt (p :: r) (p :: r')
  | drop {x : Str} {v : V} {r r' : List (Str × V)} : Fgt r r' → Fgt ((x,v) :: r) ((x,.undef) :: r')
theorem Fgt.keys {l l' : List (Str × V)} (F : Fgt l l') : l'.map (·.1) = l.map (·.1) := by
  induction F with
  | nil => rfl
  | keep _ ih => simp only [List.map_cons,ih]
  | drop _ ih => simp only [List.map_cons,ih]
theorem Fgt.mem {l l' : List (Str × V)} (F : Fgt l l') {x : Str} {v : V} (h : (x,v) ∈ l') : (x,v) ∈ l ∨ (v = .undef ∧ ∃ w,(x,w) ∈ l) := by
  induction F with
  | nil => cases h
  | keep _ ih =>
    rcases List.mem_cons.mp h with q | q
    · exact .inl (q ▸ .head _)
    · exact (ih q).imp (.tail _) fun ⟨a,w,b⟩ => ⟨a,w,.tail _ b⟩
  | drop _ ih =>
    rcases List.mem_cons.mp h with q | q
    · cases q; exact .inr ⟨rfl,_,.head _⟩
    · exact (ih q).imp (.tail _) fun ⟨a,w,b⟩ => ⟨a,w,.tail _ b⟩
theorem L.forget {kp B : Base} {σ : List Addr} {s : Shared} {vars' : List (Str × V)} (F : Fgt st.vars vars') (h : L C kp B σ e st s) : L C kp B σ e ⟨vars',st.hp⟩ s := by
  obtain ⟨m,hn,r⟩ := h.ns
  refine ⟨h.fn,h.glob,h.bi,by rw [F.keys]; exact h.nodup,⟨m,hn,fun x v hm hk => ?_⟩,fun x v hm => ?_,fun x v hm hk => ?_,h.priv,h.apart,h.alive⟩
  · rcases F.mem hm with q | ⟨rfl,_⟩
    · exact r x v q hk
    · exact .inl rfl
  · rcases F.mem hm with q | ⟨rfl,w,q⟩
    · exact h.kinds x v q
    · exact h.kinds x w q
  · rcases F.mem hm with q | ⟨rfl,w,q⟩
    · exact h.cells x v q hk
    · obtain ⟨c,o,ov,h1,h2,h3,_⟩ := h.cells x w q hk
      exact ⟨c,o,ov,h1,h2,h3,.inl rfl⟩
theorem T.forget {α β : Type} {rel : Base → List Addr → β → α → Prop} {t : Sem α} {vars vars' : List (Str × V)} {hp : List AObj} {Q : β → St → Prop} (F : Fgt vars vars') (h : T C d e rel t ⟨vars',hp⟩ Q) : T C d e rel t ⟨vars,hp⟩ Q :=
  fun A kp B σ s hA hS => h A kp B σ s hA ⟨hS.g,hS.l.forget (st := ⟨vars,hp⟩) F⟩

theorem B_by {t : Sem Bool} {Q : Bool → St → Prop} (c : Bool) (h : TB C d e t st (fun b st' => b = c ∧ st' = st)) (h1 : Q c st) : TB C d e t st Q :=
  T.mono h fun b st' ⟨q1,q2⟩ => by subst q1; subst q2; exact h1
theorem N_x {x : Str} {pos : Pos} {v : V} {Q : V → St → Prop} (h : Q v st) (hm : Has x v st.vars := by with_reducible ((repeat constructor); first | done | fail)) (hv : v ≠ .undef := by first | assumption | exact ne_undef rfl) : TV C d e (eval (.Name x pos) e) st Q := T_Name hm.mem hv h
theorem N_g {x : Str} {pos : Pos} {v : V} {gl : List (Str × V)} {Q : V → St → Prop} (hg : GL C e gl) (h : Q v st) (hm : Has x v gl := by with_reducible repeat constructor) : TV C d e (eval (.Name x pos) e) st Q := T_NameG hg hm.mem h
theorem A_x {x : Str} {pos : Pos} {v : V} {vars vars' : List (Str × V)} {hp : List AObj} {Q : St → Prop} (h : Q ⟨vars',hp⟩) (U : Upd x v vars vars' := by with_reducible repeat constructor) : Asg C d e (.Name x pos) v ⟨vars,hp⟩ Q := Asg_Name U h
end
end
section
open Builtin Builtin.Str StrLaws

theorem sw_tuple {M : Model} {A : Around} {E : Value → Shared → Prop} {s : Shared} {Q : Fin → Shared → Prop} {x : Str} {t v : Tok} {a : Addr} {items : Array Value} {i : Int} {n : Nat} {ys : List Str}
    (ho : s.heap.get? a = some { cls := .type "tuple",data := .seq items n }) (hz : StrsAre items.toList ys)
    (hq : Q (.done (.ret (.bool (ys.any fun p => fromIndex x.length i + p.length ≤ x.length && subAt x p (fromIndex x.length i))))) s) : wpAny M A («str.startswith» ⟨[.str x t,.ref a,.int i v],[]⟩) Q E s := by
  unfold «str.startswith» affixEntry
  refine wpAny_bind (wpAny_of_eq (a := (.str x t,x,[.ref a,.int i v])) rfl ?_)
  dsimp only
  refine wpAny_bind (wpAny_of_eq (a := (fromIndex x.length i,min x.length x.length)) rfl ?_)
  rw [Nat.min_self]
  dsimp only
  refine wpAny_bind (PySem.W.KPt.asStr_ref ho rfl ?_)
  dsimp only
  refine wpAny_bind (wpAny_isInstance (T := "tuple") ⟨_,ho,rfl⟩ isSubtype_tuple_tuple ?_)
  rw [if_pos rfl]
  refine wpAny_bind (wpAny_rule ?_)
  refine wpAny_bind (wpAny_seqItems ho rfl ?_)
  dsimp only
  generalize hT : (fun p : Str => decide (fromIndex x.length i + p.length ≤ x.length) && subAt x p (fromIndex x.length i)) = T at hq ⊢
  refine wpAny_bind (wpAny_forIn_array' _ (fun rest b s' => b.1 = none ∧ s' = s ∧ ∃ ys',StrsAre rest ys' ∧ ys'.any T = ys.any T) _ ?_ ?_ _ _ ⟨rfl,rfl,ys,hz,rfl⟩)
  · rintro y rest ⟨b1,b2⟩ s' ⟨rfl,rfl,ys',hs,hy⟩
    cases hs with
    | cons x' t' =>
      rename_i zs hs
      refine wpAny_bind (wpAny_of_eq (a := some x') rfl ?_)
      dsimp only
      have e0 : (decide (fromIndex x.length i + x'.length ≤ x.length) && subAt x x' (fromIndex x.length i)) = T x' := by rw [← hT]
      rw [List.any_cons] at hy
      cases hx : T x'
      · rw [hx,Bool.false_or] at hy
        refine wpAny_ite_false (decide_eq_false fun z => by have := z.symm.trans (e0.trans hx); cases this) ?_
        exact wpAny_pure ⟨rfl,rfl,zs,hs,hy⟩
      · rw [hx,Bool.true_or] at hy
        rw [← hy] at hq
        refine wpAny_ite_true (decide_eq_true (e0.trans hx)) ?_
        exact wpAny_bind (wpAny_of_eq (a := .done (.ret (.bool true))) rfl (wpAny_pure (wpAny_pure hq)))
  · rintro ⟨b1,b2⟩ s' ⟨rfl,rfl,ys',hs,hy⟩
    cases hs
    rw [← hy] at hq
    exact wpAny_pure hq
theorem any_starts {x : Str} {l : List Nat} (hx : x.cps.toList = l) (i : Nat) : ∀ (ys : List Str),(∀ m ∈ ys.map (·.cps.toList),m ≠ []) → (ys.any fun p => decide (fromIndex x.length (i : Int) + p.length ≤ x.length) && subAt x p (fromIndex x.length (i : Int))) = (ys.map (·.cps.toList)).any (startsAt l · i)
  | [],_ => rfl
  | y :: ys,h => by
    rw [List.any_cons,List.map_cons,List.any_cons,any_starts hx i ys fun m hm => h m (.tail _ hm)]
    congr 1
    exact starts3_eq hx rfl (h _ (.head _)) i
section
variable {C : Cx} {d : Nat} {e : Env} {st : St}
theorem Ap_startswith_tup {l : List Nat} {xs : List V} {ys : List (List Nat)} {i : Nat} {Q : V → St → Prop} (hs : strsOf xs = some ys) (hne : ys.all (fun m => m.length != 0) = true) (h : Q (.bool (ys.any (startsAt l · i))) st) :
    Ap C d e (.raw (.builtin "str.startswith")) [.str l,.tup xs,.int i] st Q := by
  intro A kp B σ s fv vals hA hS hf hv
  have hf : fv = .builtin "str.startswith" := hf
  obtain ⟨_,_,_,rfl,⟨x,t,rfl,hx⟩,⟨a,items,n,rfl,h1,h2⟩,⟨v,rfl⟩⟩ := RelL3 hv
  subst hf
  obtain ⟨zs,h3,h4⟩ := strsOf_are hs h2
  refine call_meets (S := fun _ R s' => s' = s ∧ R (.ok (.ret (.bool (ys.any (startsAt l · i))))) s) PySem.F.slot_str_startswith (typeIs_str _ _ _) PySem.F.entry_str_startswith (PySem.F.args_str_startswith_3 _ _ _) (Meets.of_wp fun prog w A' R s' hp => ?_) ⟨rfl,Post.here hS (show Rel C B σ (.bool _) (.bool _) from rfl) h⟩
  obtain ⟨rfl,hR⟩ := hp
  refine sw_tuple (hS.g.bh _ _ h1) h3 ⟨_,rfl,?_⟩
  rw [any_starts hx i zs (fun m hm => ?_),h4]; · exact hR
  rw [h4] at hm
  have := List.all_eq_true.mp hne m hm
  intro q; rw [q] at this; cases this
end
end
section
open Builtin Builtin.Str StrLaws

theorem repl_run (x y z : Str) (R : List Nat → List Nat) (h0 : R [] = [])
    (hN : ∀ k (h : k < x.cps.toList.length),¬ At x y x.length k → R (x.cps.toList.drop k) = x.cps.toList[k] :: R (x.cps.toList.drop (k + 1)))
    (hA : ∀ k,At x y x.length k → R (x.cps.toList.drop k) = z.cps.toList ++ R (x.cps.toList.drop (k + y.length))) :
    ∀ (cuts : List Nat) (a f : Nat),ChainG x y x.length a cuts f → (∀ k,f ≤ k → ¬ At x y x.length k) → (Str.join z (partsFrom x y.length a cuts)).cps.toList = R (x.cps.toList.drop a) := by
  have hlen : x.cps.toList.length = x.length := by simp [Str.length]
  have free : ∀ (n a b : Nat),a + n = b → b ≤ x.length → (∀ k,a ≤ k → k < b → ¬ At x y x.length k) → R (x.cps.toList.drop a) = ((x.cps.toList.drop a).take (b - a)) ++ R (x.cps.toList.drop b) := by
    intro n
    induction n with
    | zero => intro a b h _ _; have : a = b := by (first|lia -abstractProof|omega)
              subst this; simp
    | succ n ih =>
      intro a b h hb hn
      have ha : a < x.cps.toList.length := by (first|lia -abstractProof|omega)
      rw [hN a ha (hn a (Nat.le_refl _) (by (first|lia -abstractProof|omega))),ih (a + 1) b (by (first|lia -abstractProof|omega)) hb (fun k h1 h2 => hn k (by (first|lia -abstractProof|omega)) h2),List.drop_eq_getElem_cons ha,show b - a = (b - (a + 1)) + 1 by (first|lia -abstractProof|omega),List.take_succ_cons]
      rfl
  intro cuts
  induction cuts with
  | nil =>
    intro a f h hn
    have e : f = a := h
    subst e
    show (strSub x f x.length).cps.toList = _
    rw [strSub_toList]
    by_cases hf : f ≤ x.length
    · rw [free (x.length - f) f x.length (by (first|lia -abstractProof|omega)) (Nat.le_refl _) fun k h1 _ => hn k h1,← hlen,List.drop_length,h0,List.append_nil]
    · rw [List.drop_of_length_le (by (first|lia -abstractProof|omega)),h0]; simp
  | cons c r ih =>
    intro a f h hn
    obtain ⟨h1,h2,h3,h4⟩ := h
    have i2 := ih _ f h4 hn
    obtain ⟨p,q,e⟩ := partsFrom_ne x y.length (c + y.length) r
    show (Str.join z (strSub x a c :: partsFrom x y.length (c + y.length) r)).cps.toList = _
    rw [e] at i2 ⊢
    show (strSub x a c ++ z ++ Str.join z (p :: q)).cps.toList = _
    rw [Str.cps_append,Str.cps_append,Array.toList_append,Array.toList_append,i2,strSub_toList]
    have hcl : c ≤ x.length := by have := h2.1; (first|lia -abstractProof|omega)
    rw [free (c - a) a c (by (first|lia -abstractProof|omega)) hcl h3,hA c h2]
    simp
theorem repl_is (x y z : Str) (R : List Nat → List Nat) (hw : 1 ≤ y.length) (h0 : R [] = [])
    (hN : ∀ k (h : k < x.cps.toList.length),¬ At x y x.length k → R (x.cps.toList.drop k) = x.cps.toList[k] :: R (x.cps.toList.drop (k + 1)))
    (hA : ∀ k,At x y x.length k → R (x.cps.toList.drop k) = z.cps.toList ++ R (x.cps.toList.drop (k + y.length))) : (Txt.replace x y z).cps.toList = R x.cps.toList := by
  obtain ⟨f,hG,hn⟩ := occ_tight x y hw
  have key := repl_run x y z R h0 hN hA _ 0 f hG hn
  rw [List.drop_zero] at key
  unfold Txt.replace
  split
  · rename_i hc
    have he : occurrences x y 0 x.length (x.length + 1) = [] := by
      have : (y.length == 0) = false := by simp; (first|lia -abstractProof|omega)
      rw [this,Bool.false_and,Bool.or_false] at hc
      exact List.isEmpty_iff.mp hc
    rw [he] at key
    rw [← key]
    show x.cps.toList = (strSub x 0 x.length).cps.toList
    rw [strSub_toList,Nat.sub_zero,List.drop_zero]; exact (List.take_of_length_le (by simp [Str.length])).symm
  · rw [glued_eq_join,partsBetween_eq]; exact key

noncomputable def chg (a b : Nat) (l : List Nat) : List Nat := l.map fun c => if c = a then b else c
theorem At_one {x : Str} {a k : Nat} : At x ⟨#[a]⟩ x.length k ↔ x.cps.toList[k]? = some a := subAt_one x a k
theorem repl_chg (x : Str) (a b : Nat) : (Txt.replace x ⟨#[a]⟩ ⟨#[b]⟩).cps.toList = chg a b x.cps.toList := by
  refine repl_is x ⟨#[a]⟩ ⟨#[b]⟩ (chg a b) (Nat.le_refl 1) rfl (fun k h hn => ?_) (fun k hk => ?_)
  · have : x.cps.toList[k] ≠ a := fun q => hn (At_one.mpr (by rw [List.getElem?_eq_getElem h,q]))
    rw [List.drop_eq_getElem_cons h]
    simp only [chg,List.map_cons,if_neg this]
  · have h := At_one.mp hk
    obtain ⟨h1,h2⟩ := List.getElem?_eq_some_iff.mp h
    rw [List.drop_eq_getElem_cons h1,h2]
    simp [chg,Str.length]
noncomputable def crlf : List Nat → List Nat
  | [] => []
  | 13 :: 10 :: r => 10 :: crlf r
  | c :: r => c :: crlf r
theorem crlf_cons {c : Nat} {r : List Nat} (h : ¬ (c = 13 ∧ r.head? = some 10)) : crlf (c :: r) = c :: crlf r := by
  rw [crlf.eq_def]
  split
  · rename_i q; cases q
  · rename_i q; cases q; exact absurd ⟨rfl,rfl⟩ h
  · rename_i q; cases q; rfl
theorem At_two {x : Str} {a b k : Nat} : At x ⟨#[a,b]⟩ x.length k ↔ x.cps.toList[k]? = some a ∧ x.cps.toList[k + 1]? = some b := by
  have hlen : x.cps.toList.length = x.length := by simp [Str.length]
  unfold At
  rw [subAt_eq]
  have e2 : (⟨#[a,b]⟩ : Str).length = 2 := rfl
  rw [e2]
  constructor
  · rintro ⟨h1,h2⟩
    have h2 := beq_iff_eq.mp h2
    have hk : k < x.cps.toList.length := by (first|lia -abstractProof|omega)
    have hk1 : k + 1 < x.cps.toList.length := by (first|lia -abstractProof|omega)
    rw [List.drop_eq_getElem_cons hk,List.drop_eq_getElem_cons hk1] at h2
    simp only [List.take_succ_cons,List.take_zero,List.cons.injEq] at h2
    exact ⟨by rw [List.getElem?_eq_getElem hk,h2.1],by rw [List.getElem?_eq_getElem hk1,h2.2.1]⟩
  · rintro ⟨h1,h2⟩
    obtain ⟨hk,e1⟩ := List.getElem?_eq_some_iff.mp h1
    obtain ⟨hk1,e2⟩ := List.getElem?_eq_some_iff.mp h2
    refine ⟨by (first|lia -abstractProof|omega),beq_iff_eq.mpr ?_⟩
    rw [List.drop_eq_getElem_cons hk,List.drop_eq_getElem_cons hk1,e1,e2]; rfl
theorem repl_crlf (x : Str) : (Txt.replace x ⟨#[13,10]⟩ ⟨#[10]⟩).cps.toList = crlf x.cps.toList := by
  refine repl_is x ⟨#[13,10]⟩ ⟨#[10]⟩ crlf (by decide) rfl (fun k h hn => ?_) (fun k hk => ?_)
  · rw [List.drop_eq_getElem_cons h]
    refine crlf_cons fun ⟨q1,q2⟩ => hn (At_two.mpr ⟨by rw [List.getElem?_eq_getElem h,q1],?_⟩)
    rw [List.head?_drop] at q2; exact q2
  · obtain ⟨h1,h2⟩ := At_two.mp hk
    obtain ⟨hk0,e1⟩ := List.getElem?_eq_some_iff.mp h1
    obtain ⟨hk1,e2⟩ := List.getElem?_eq_some_iff.mp h2
    rw [List.drop_eq_getElem_cons hk0,List.drop_eq_getElem_cons hk1,e1,e2]
    rfl

section
variable {C : Cx} {d : Nat} {e : Env} {st : St}
theorem T_replace {o : Expr} {x y : Str} {k₁ k₂ : Nat} {p₁ p₂ apos pos : Pos} {Q : V → St → Prop} (h1 : 1 ≤ C.tk) (R : List Nat → List Nat) (hxy : (x == y) = false) (hR : ∀ z : Str,(Txt.replace z x y).cps.toList = R z.cps.toList) (hy : y.length ≤ 1)
    (h : TV C d e (eval o e) st fun ov st₁ => ∃ l,ov = .str l ∧ l.length ≤ 4000000 ∧ Q (.str (R l)) st₁)
    (hbase : attributeBase o (oS "replace") e (eval o e) = eval o e := by with_unfolding_all rfl)
    (hline : (apos.endLine == pos.line) = true := by with_unfolding_all rfl) : TV C d e (eval (.Call (.Attribute o (oS "replace") apos) [.Constant (.str x) k₁ p₁,.Constant (.str y) k₂ p₂] [] pos) e) st Q := by
  intro A kp B σ s hA hS
  refine wpAny_Call_method hbase rfl hline PySem.F.plainAttrs_str PySem.F.slot_str_replace PySem.F.type_str_replace (wpAny_mono (h A kp B σ s hA hS) (fun ov s₁ hp => ?_) fun _ _ x => x)
  obtain ⟨B₁,σ₁,o',st₁,g1,g2,g3,g4,l,rfl,hz,g5⟩ := hp
  obtain ⟨u,t,rfl,hx⟩ := g4
  refine ⟨typeIs_str _ _ _,(fun _ q => by cases q),callWith_builtin rfl (evalArgs_any (by rfl) ?_)⟩
  show wpAny _ A (spliced [(false,eval (.Constant (.str x) k₁ p₁) e),(false,eval (.Constant (.str y) k₂ p₂) e)]) _ _ s₁
  refine Calls.spliced_cons (wpAny_Constant_str (Calls.spliced_cons (wpAny_Constant_str (wpAny_pure ?_))))
  have htk := g3.g.tk
  have hS₂ := g3.toks (s₁.toks + 1 + 1) s₁.drawn (by (first|lia -abstractProof|omega))
  refine wpAny_with_toks (Nat.le_refl _) (SC.replace (by show s₁.toks ≠ 0; (first|lia -abstractProof|omega)) (by show s₁.toks + 1 ≠ 0; (first|lia -abstractProof|omega)) (by show s₁.toks ≠ s₁.toks + 1; (first|lia -abstractProof|omega)) hxy ?_ fun t' k hk => ?_)
  · have := str_len hx
    rw [this]
    have : (l.length + 1) * y.length ≤ (l.length + 1) * 1 := Nat.mul_le_mul_left _ hy
    (first|lia -abstractProof|omega)
  · have hk : s₁.toks + 1 + 1 ≤ k := hk
    have hS₃ := g3.toks k s₁.drawn (by (first|lia -abstractProof|omega))
    exact ⟨B₁,σ₁,.str (R l),st₁,g1,g2,hS₃,⟨_,t',rfl,by rw [hR,hx]⟩,g5⟩
end
end
section
mutual
noncomputable def below (n : Nat) : V → Bool
  | .own i => decide (i < n)
  | .tup xs => belowL n xs
  | .lst xs => belowL n xs
  | .dct es => belowD n es
  | .inst _ fs => belowL n fs
  | _ => true
noncomputable def belowL (n : Nat) : List V → Bool
  | [] => true
  | x :: xs => below n x && belowL n xs
noncomputable def belowD (n : Nat) : List (List Nat × V) → Bool
  | [] => true
  | (_,x) :: xs => below n x && belowD n xs
end
noncomputable def belowA (n : Nat) : AObj → Bool
  | .list xs => belowL n xs
  | .inst _ fs => belowL n fs
  | _ => true

section
variable {C : Cx} {B : Base} {σ : List Addr} {n : Nat}
mutual
theorem Rel.cut : ∀ {x : V} {v : Value},Rel C B σ x v → below n x = true → Rel C B (σ.take n) x v
  | .undef,_,h,_ => h
  | .none,_,h,_ => h
  | .bool _,_,h,_ => h
  | .int _,_,h,_ => h
  | .str _,_,h,_ => h
  | .tup xs,v,h,hb => by
    simp only [Rel] at h ⊢
    obtain ⟨a,items,k,h1,h2,h5⟩ := h
    exact ⟨a,items,k,h1,h2,RelL.cut h5 hb⟩
  | .lst xs,v,h,hb => by
    simp only [Rel] at h ⊢
    obtain ⟨a,items,k,h1,h2,h5⟩ := h
    exact ⟨a,items,k,h1,h2,RelL.cut h5 hb⟩
  | .dct es,v,h,hb => by
    simp only [Rel] at h ⊢
    obtain ⟨a,items,k,h1,h0,h2,h5⟩ := h
    exact ⟨a,items,k,h1,h0,h2,RelD.cut h5 hb⟩
  | .inst c fs,v,h,hb => by
    simp only [Rel] at h ⊢
    obtain ⟨a,o,ca,dx,od,h1,h2,h3,h4,h5,h6,h7,h8⟩ := h
    exact ⟨a,o,ca,dx,od,h1,h2,h3,h4,h5,h6,h7,RelS.cut h8 hb⟩
  | .own i,v,h,hb => by
    simp only [Rel] at h ⊢
    obtain ⟨a,h1,h2⟩ := h
    have hi : i < n := by simpa [below] using hb
    refine ⟨a,h1,?_⟩
    rw [List.getElem?_take_of_lt hi]; exact h2
  | .fn _,_,h,_ => h
  | .cls _,_,h,_ => h
  | .raw _,_,h,_ => h
  | .rng _ _ _,v,h,_ => h
theorem RelL.cut : ∀ {xs : List V} {vs : List Value},RelL C B σ xs vs → belowL n xs = true → RelL C B (σ.take n) xs vs
  | [],_,h,_ => h
  | x :: xs,vs,h,hb => by
    simp only [RelL] at h ⊢
    simp only [belowL,Bool.and_eq_true] at hb
    obtain ⟨v,r,h1,h2,h3⟩ := h
    exact ⟨v,r,h1,Rel.cut h2 hb.1,RelL.cut h3 hb.2⟩
theorem RelS.cut : ∀ {xs : List V} {vs : List (Option Value)},RelS C B σ xs vs → belowL n xs = true → RelS C B (σ.take n) xs vs
  | [],_,h,_ => h
  | x :: xs,vs,h,hb => by
    simp only [RelS] at h ⊢
    simp only [belowL,Bool.and_eq_true] at hb
    obtain ⟨h1,h3⟩ := h
    exact ⟨h1.imp id fun ⟨v,h4,h2⟩ => ⟨v,h4,Rel.cut h2 hb.1⟩,RelS.cut h3 hb.2⟩
theorem RelD.cut : ∀ {xs : List (List Nat × V)} {vs : List DictEntry},RelD C B σ xs vs → belowD n xs = true → RelD C B (σ.take n) xs vs
  | [],_,h,_ => h
  | (k,x) :: xs,vs,h,hb => by
    simp only [RelD] at h ⊢
    simp only [belowD,Bool.and_eq_true] at hb
    obtain ⟨v,r,h1,h4,h2,h3⟩ := h
    exact ⟨v,r,h1,h4,Rel.cut h2 hb.1,RelD.cut h3 hb.2⟩
end
mutual
theorem Rel.low : ∀ {x : V} {v : Value},Rel C B σ x v → below σ.length x = true
  | .undef,_,_ => rfl
  | .none,_,_ => rfl
  | .bool _,_,_ => rfl
  | .int _,_,_ => rfl
  | .str _,_,_ => rfl
  | .tup xs,v,h => by simp only [Rel] at h; obtain ⟨a,items,k,h1,h2,h5⟩ := h; exact RelL.low h5
  | .lst xs,v,h => by simp only [Rel] at h; obtain ⟨a,items,k,h1,h2,h5⟩ := h; exact RelL.low h5
  | .dct es,v,h => by simp only [Rel] at h; obtain ⟨a,items,k,h1,_,h2,h5⟩ := h; exact RelD.low h5
  | .inst c fs,v,h => by simp only [Rel] at h; obtain ⟨a,o,ca,dx,od,h1,h2,h3,h4,h5,h6,h7,h8⟩ := h; exact RelS.low h8
  | .own i,v,h => by
    simp only [Rel] at h
    obtain ⟨a,h1,h2⟩ := h
    simpa [below] using (List.getElem?_eq_some_iff.mp h2).1
  | .fn _,_,_ => rfl
  | .cls _,_,_ => rfl
  | .raw _,_,_ => rfl
  | .rng _ _ _,_,_ => rfl
theorem RelL.low : ∀ {xs : List V} {vs : List Value},RelL C B σ xs vs → belowL σ.length xs = true
  | [],_,_ => rfl
  | x :: xs,vs,h => by
    simp only [RelL] at h
    obtain ⟨v,r,h1,h2,h3⟩ := h
    simp only [belowL,Rel.low h2,RelL.low h3,Bool.and_self]
theorem RelS.low : ∀ {xs : List V} {vs : List (Option Value)},RelS C B σ xs vs → belowL σ.length xs = true
  | [],_,_ => rfl
  | x :: xs,vs,h => by
    simp only [RelS] at h
    obtain ⟨h1,h3⟩ := h
    have : below σ.length x = true := by
      rcases h1 with rfl | ⟨v,_,h2⟩
      · rfl
      · exact Rel.low h2
    simp only [belowL,this,RelS.low h3,Bool.and_self]
theorem RelD.low : ∀ {xs : List (List Nat × V)} {vs : List DictEntry},RelD C B σ xs vs → belowD σ.length xs = true
  | [],_,_ => rfl
  | (k,x) :: xs,vs,h => by
    simp only [RelD] at h
    obtain ⟨v,r,h1,h4,h2,h3⟩ := h
    simp only [belowD,Rel.low h2,RelD.low h3,Bool.and_self]
end
theorem AR.cut {h : Heap} {a : Addr} {ao : AObj} (hr : AR C B σ h a ao) (hb : belowA n ao = true) : AR C B (σ.take n) h a ao := by
  cases ao with
  | gone => trivial
  | list xs => obtain ⟨items,k,h1,h2⟩ := hr; exact ⟨items,k,h1,RelL.cut h2 hb⟩
  | tab c => exact hr
  | raw o => exact hr
  | inst c fs => obtain ⟨o,ca,dx,od,h1,h2,h3,h4,h5,h6,h7⟩ := hr; exact ⟨o,ca,dx,od,h1,h2,h3,h4,h5,h6,RelS.cut h7 hb⟩
theorem AR.low {h : Heap} {a : Addr} {ao : AObj} (hr : AR C B σ h a ao) : belowA σ.length ao = true := by
  cases ao with
  | gone => rfl
  | list xs => obtain ⟨items,k,h1,h2⟩ := hr; exact RelL.low h2
  | tab c => rfl
  | raw o => rfl
  | inst c fs => obtain ⟨o,ca,dx,od,h1,h2,h3,h4,h5,h6,h7⟩ := hr; exact RelS.low h7

theorem RelS.get : ∀ {xs : List V} {vs : List (Option Value)} {k : Nat} {x : V},RelS C B σ xs vs → xs[k]? = some x → x ≠ .undef → ∃ v,(vs[k]?).join = some v ∧ Rel C B σ x v
  | [],_,_,_,_,h,_ => by simp at h
  | y :: xs,vs,0,x,hr,h,hx => by
    simp only [RelS] at hr
    simp only [List.getElem?_cons_zero,Option.some.injEq] at h; subst h
    rcases hr.1 with q | ⟨v,h1,h2⟩
    · exact absurd q hx
    · exact ⟨v,by rw [← List.head?_eq_getElem?]; exact h1,h2⟩
  | y :: xs,vs,k + 1,x,hr,h,hx => by
    simp only [RelS] at hr
    simp only [List.getElem?_cons_succ] at h
    obtain ⟨v,h1,h2⟩ := RelS.get hr.2 h hx
    exact ⟨v,by rw [← h1,List.getElem?_tail],h2⟩
theorem RelS.of_get : ∀ {xs : List V} {vs : List (Option Value)},(∀ (k : Nat) (x : V),xs[k]? = some x → x = .undef ∨ ∃ v,(vs[k]?).join = some v ∧ Rel C B σ x v) → RelS C B σ xs vs
  | [],_,_ => trivial
  | x :: xs,vs,h => by
    simp only [RelS]
    refine ⟨(h 0 x rfl).imp id fun ⟨v,h1,h2⟩ => ⟨v,by rw [List.head?_eq_getElem?]; exact h1,h2⟩,RelS.of_get fun k y hy => ?_⟩
    refine (h (k + 1) y hy).imp id fun ⟨v,h1,h2⟩ => ⟨v,by rw [List.getElem?_tail]; exact h1,h2⟩
theorem RelS.put {xs : List V} {sl : Array (Option Value)} {k : Nat} {x : V} {v : Value} (hr : RelS C B σ xs sl.toList) (hv : Rel C B σ x v) :
    RelS C B σ (xs.set k x) ((sl ++ Array.replicate (k + 1 - sl.size) none).setIfInBounds k (some v)).toList := by
  refine RelS.of_get fun j y hy => ?_
  have hsz : k < (sl ++ Array.replicate (k + 1 - sl.size) none).size := by simp; (first|lia -abstractProof|omega)
  by_cases hj : j = k
  · subst hj
    by_cases hlt : j < xs.length
    · rw [List.getElem?_set_self hlt] at hy; cases hy
      refine .inr ⟨v,?_,hv⟩
      rw [Array.getElem?_toList,Array.getElem?_setIfInBounds_self_of_lt hsz]; rfl
    · rw [List.getElem?_eq_none (by simp; (first|lia -abstractProof|omega))] at hy; cases hy
  · rw [List.getElem?_set_ne (Ne.symm hj)] at hy
    by_cases hu : y = .undef
    · exact .inl hu
    · obtain ⟨w,h1,h2⟩ := RelS.get hr hy hu
      refine .inr ⟨w,?_,h2⟩
      rw [Array.getElem?_toList,Array.getElem?_setIfInBounds_ne (Ne.symm hj),Array.getElem?_append]
      rw [Array.getElem?_toList] at h1
      split
      · exact h1
      · rename_i q; rw [Array.getElem?_eq_none (by (first|lia -abstractProof|omega))] at h1; cases h1
end

section
variable {C : Cx} {kp B : Base} {σ : List Addr} {hp junk : List AObj} {s : Shared} {d : Nat}
theorem G.trim (hG : G C kp B σ (hp ++ junk) s) (hb : ∀ ao ∈ hp,belowA hp.length ao = true) : G C kp B (σ.take hp.length) hp s where
  ok := hG.ok
  bh := hG.bh
  b0 := hG.b0
  kh := hG.kh
  len := by rw [List.length_take,hG.len]; simp
  own := fun i a ao h1 h2 h3 => by
    have hi : i < hp.length := (List.getElem?_eq_some_iff.mp h2).1
    rw [List.getElem?_take_of_lt hi] at h1
    obtain ⟨g1,g2,g3,g4⟩ := hG.own i a ao h1 (by rw [List.getElem?_append_left hi]; exact h2) h3
    exact ⟨g1,g2,g3,g4.cut (hb ao (List.mem_of_getElem? h2))⟩
  inj := fun i j a ai aj h1 h2 h3 h4 h5 h6 => by
    have hi : i < hp.length := (List.getElem?_eq_some_iff.mp h3).1
    have hj : j < hp.length := (List.getElem?_eq_some_iff.mp h4).1
    rw [List.getElem?_take_of_lt hi] at h1
    rw [List.getElem?_take_of_lt hj] at h2
    exact hG.inj i j a ai aj h1 h2 (by rw [List.getElem?_append_left hi]; exact h3) (by rw [List.getElem?_append_left hj]; exact h4) h5 h6
  gens := hG.gens
  os := hG.os
  tk := hG.tk
theorem G.low (hG : G C kp B σ hp s) : ∀ ao ∈ hp,belowA hp.length ao = true := fun ao hm => by
  obtain ⟨i,hi,rfl⟩ := List.getElem_of_mem hm
  have hs : i < σ.length := by rw [hG.len]; exact hi
  by_cases q : hp[i].live
  · obtain ⟨_,_,_,g4⟩ := hG.own i σ[i] hp[i] (List.getElem?_eq_getElem hs) (List.getElem?_eq_getElem hi) q
    rw [← hG.len]; exact g4.low
  · cases e : hp[i] with
    | gone => rfl
    | list xs => rw [e] at q; exact absurd trivial q
    | tab c => rfl
    | raw o => rfl
    | inst c fs => rw [e] at q; exact absurd trivial q
theorem take_of_prefix {α : Type} {l l' : List α} (h : l <+: l') : l'.take l.length = l := by obtain ⟨r,rfl⟩ := h; simp

theorem Calls.trim {f : V} {args : List V} {Q : V → List AObj → Prop} (h : Calls C d f args hp (fun v hp' => ∃ junk,hp' = hp ++ junk ∧ below hp.length v = true ∧ Q v hp)) : Calls C d f args hp Q := by
  intro A kp B σ s fv vals hA hG hf hv
  refine codeAny_mono (h A kp B σ s fv vals hA hG hf hv) fun r s' hr => ?_
  obtain ⟨v,B',σ',b,hp',rfl,h1,h2,h3,h4,junk,rfl,h5,h6⟩ := hr
  have ht : σ'.take hp.length = σ := by rw [← hG.len]; exact take_of_prefix h2
  have g := h3.trim hG.low
  have r' := h4.cut h5
  rw [ht] at g r'
  exact ⟨v,B',σ,b,hp,rfl,h1,List.prefix_refl _,g,r',h6⟩
theorem Calls.settle {f : V} {args : List V} {Q : List V → Prop} (h : Calls C d f args hp (fun v hp' => ∃ junk k xs,v = .own k ∧ hp' = hp ++ junk ∧ hp.length ≤ k ∧ hp'[k]? = some (.list xs) ∧ belowL hp.length xs = true ∧ Q xs)) :
    Calls C d f args hp (fun v hp' => hp' = hp ∧ ∃ xs,v = .lst xs ∧ Q xs) := by
  intro A kp B σ s fv vals hA hG hf hv
  refine codeAny_mono (h A kp B σ s fv vals hA hG hf hv) fun r s' hr => ?_
  obtain ⟨v,B',σ',b,hp',rfl,h1,h2,h3,h4,junk,k,xs,rfl,rfl,hk,hget,hb,hq⟩ := hr
  have ht : σ'.take hp.length = σ := by rw [← hG.len]; exact take_of_prefix h2
  have g := h3.trim hG.low
  rw [ht] at g
  obtain ⟨a,rfl,ha⟩ := h4
  obtain ⟨g1,g2,_,items,n,g4,g5⟩ := h3.own k a _ ha hget trivial
  have hfree : ∀ (i : Nat) (ao : AObj),σ[i]? = some a → hp[i]? = some ao → ¬ ao.live := fun i ao q1 q2 q3 => by
    have hi : i < hp.length := (List.getElem?_eq_some_iff.mp q2).1
    have e1 : σ'[i]? = some a := by
      rw [← ht,List.getElem?_take_of_lt hi] at q1; exact q1
    have := h3.inj i k a ao _ e1 ha (by rw [List.getElem?_append_left hi]; exact q2) hget q3 trivial
    (first|lia -abstractProof|omega)
  have fz := g.freeze g1 g2 hfree g4
  refine ⟨.ref a,_,σ,.lst xs,hp,rfl,h1.trans (Base.put_sub g2),List.prefix_refl _,fz,?_,rfl,xs,rfl,hq⟩
  have r' := RelL.cut g5 hb
  rw [ht] at r'
  exact ⟨a,items,n,rfl,Base.put_self,RelL.mono (Base.put_sub g2) (List.prefix_refl _) r'⟩
end
end
section
open Builtin Builtin.ObjectAttr Builtin.Getset_descriptor

section
variable {C : Cx} {kp B : Base} {σ : List Addr} {hp : List AObj} {s : Shared} {d : Nat} {e : Env} {st : St}

theorem slot_put {A : Around} {K : Frag} {R : Result → Shared → Prop} {x c p : Addr} {ox : Obj} {od : Option Obj} {v : Value} {i : Nat} (X : K.In s.heap) (I : InstAt s.heap x ox c od) (hp : slotIn K p c = some i) (hi : i < 1000)
    (h : R (.ok (.ret .none)) { s with heap := s.heap.update x fun o => { o with slots := (o.slots ++ Array.replicate (i + 1 - o.slots.size) none).setIfInBounds i (some v) } }) :
    codeAny (model P C.w) A (.call (.builtin "member_descriptor.__set__") ⟨[.ref p,.ref x,v],[]⟩) R s := by
  obtain ⟨n,tn,owner,behind,tb,dd,sl,cd,ho,hc,hm,hb,rfl⟩ := slot_of X hp
  obtain ⟨hh,g,dr,t,os⟩ := s
  have L0 := I.type (M := model P C.w)
  have L1 := looks_mroIn (M := model P C.w) X hm
  have L2 : Looks (model P C.w) hh (Slots.slotNamesOf (.ref c)) cd.slotNames := (looks_clsIn X hc).andThen .now
  have hx := I.at_
  dsimp only at ho hx L0 L1
  have f0 := looks_field (M := model P C.w) ho 0 (v := .str n tn) rfl
  have f1 := looks_field (M := model P C.w) ho 1 (v := owner) rfl
  have f3 := looks_field (M := model P C.w) ho 3 (v := .builtin "proto.slot#set") rfl
  have f4 := looks_field (M := model P C.w) ho 4 (v := .int behind tb) rfl
  refine codeAny_call_builtin KF.slot_mset.plain KF.entry_mset (KF.slot_mset.check _ _ _ _ _ _ _ _ ⟨_,ho,rfl⟩ (KF.args_mset _ _ _) ?_)
  unfold Builtin.«member_descriptor.__set__» descrSet descrStoreThrough descrCheckInstance descrNameAndClass isInstance
  have f5 : Looks (model P C.w) hh (descrItself (.ref p)) [.ref p] := ((Looks.ld (part := none) ho).andThen .now).andThen (Looks.of_pure (by kernel_rfl))
  repeat lk
  refine ⟨Code.quiet_builtin _ (by decide +kernel),codeAny_builtin KF.entry_slotset ?_⟩
  unfold Builtin.«proto.slot#set» Slots.target
  repeat lk
  rw [if_neg hb]
  refine wpAny_pure (wpAny_bind ?_)
  unfold setSlotAt
  dsimp only
  rw [if_neg (by rw [sizeLine_eq]; (first|lia -abstractProof|omega))]
  exact wpAny_updatePart hx (wpAny_pure h)

theorem inst_at {h : Heap} {a ca dx : Addr} {o od : Obj} (h1 : h.get? a = some o) (h2 : o.cls = .ref ca) (h3 : o.dict = some dx) (h4 : o.data = .plain) (h5 : h.get? dx = some od) : InstAt h a o ca (some od) :=
  ⟨h1,h2,by unfold notCls; rw [h4],by rw [h3]; exact h5⟩

theorem slotTab_le (c : Nat) : (slotTab c).length ≤ 8 := by
  by_cases h : c < 26
  · exact (by decide : ∀ c < 26,(slotTab c).length ≤ 8) c h
  · obtain ⟨n,rfl⟩ : ∃ n,c = n + 26 := ⟨c - 26,(Nat.sub_add_cancel (Nat.le_of_not_lt h)).symm⟩
    exact Nat.zero_le _
theorem Asg_slot {o : Expr} {name : String} {pos : Pos} {i c k : Nat} {fs : List V} {v : V} {Q : St → Prop} (h : TV C d e (eval o e) st fun ov st₁ => ov = .own i ∧ st₁.hp[i]? = some (.inst c fs) ∧ (slotTab c)[k]? = some name ∧ Q ⟨st₁.vars,st₁.hp.set i (.inst c (fs.set k v))⟩) :
    Asg C d e (.Attribute o (oS name) pos) v st Q := by
  intro A kp B σ s va hA hS hr
  rw [assign_Attribute]
  refine wpAny_bind (wpAny_holding (wpAny_mono (h A kp B σ s hA hS) (fun ov s₁ hp => ?_) fun _ _ x => x))
  obtain ⟨B₁,σ₁,a',st₁,g1,g2,g3,g4,rfl,h1,h2,h3⟩ := hp
  obtain ⟨x,rfl,hx⟩ := g4
  refine wpAny_bind (wpAny_standAt (wpAny_bind (wpAny_holding ?_)))
  have hb : Sub C.b0 s₁.heap.get? := g3.g.b0.trans g3.g.bh
  have X := g3.g.ok.K _ hb
  obtain ⟨k1,k2,_,ob,ca,dx,od,q1,q2,q3,q4,q5,q6,q7⟩ := g3.g.own i x _ hx h1 trivial
  have M := g3.g.ok.mkd _ _ q2
  obtain ⟨p,P1⟩ := M.slot k name h2
  have I := inst_at q1 q3 q4 q5 (g3.g.bh _ _ q6)
  have hk : k < 1000 := by
    have h2' := (List.getElem?_eq_some_iff.mp h2).1
    have : (slotTab c).length ≤ 8 := slotTab_le c
    (first|lia -abstractProof|omega)
  refine set_plain X I M.setat (osa_descr (s := { s₁ with toks := s₁.toks + 1 }) KF.slot_mset X I M.over (by unfold takerIn; rw [P1.find]; show (takesIn C.K (.ref p)).map _ = _; rw [P1.takes]; rfl) P1.typ (slot_put (s := { s₁ with toks := s₁.toks + 1 }) X I P1.slot hk ?_))
  have hva : Rel C B₁ σ₁ v va := hr.mono g1 g2
  have hup := Heap.get?_update_self (h := s₁.heap) (fun o : Obj => { o with slots := (o.slots ++ Array.replicate (k + 1 - o.slots.size) none).setIfInBounds k (some va) }) q1 (by unfold Obj.isFreed; show (match ob.data with | _ => _) = _; rw [q5])
  have S' := g3.change (ao' := .inst c (fs.set k v)) (h' := s₁.heap.update x fun o : Obj => { o with slots := (o.slots ++ Array.replicate (k + 1 - o.slots.size) none).setIfInBounds k (some va) }) hx h1 trivial
    (fun b o hb eb => (Heap.get?_update_other s₁.heap _ (Ne.symm hb)).trans eb) ⟨_,hup⟩ ⟨({ ob with slots := (ob.slots ++ Array.replicate (k + 1 - ob.slots.size) none).setIfInBounds k (some va) } : Obj),ca,dx,od,hup,q2,q3,q4,q5,q6,RelS.put q7 hva⟩ (s₁.toks + 1) s₁.drawn
  exact wpAny_release ⟨B₁,σ₁,(),_,g1,g2,S',rfl,h3⟩

theorem G.alloc {o : Obj} (hG : G C kp B σ hp s) (hf : o.isFreed = false) : Sub B (B.put s.heap.objs.size o) ∧ G C kp (B.put s.heap.objs.size o) σ hp ⟨s.heap.push o,s.gens,s.drawn,s.toks,s.os⟩ := by
  obtain ⟨o1,o2,o3⟩ := hG.out (get_none_size s.heap)
  refine ⟨Base.put_sub o2,G.freeze (G.ext hG (s' := ⟨s.heap.push o,s.gens,s.drawn,s.toks,s.os⟩) (fun b o' h => Heap.get?_push_of_some _ h) hG.gens rfl (Nat.le_refl _)) o1 o2 o3 (Heap.get?_push_size _ hf)⟩
theorem G.own_ {o : Obj} {ao : AObj} (hG : G C kp B σ hp s) (hf : o.isFreed = false) (hr : ∀ h : Heap,h.get? s.heap.objs.size = some o → AR C B (σ ++ [s.heap.objs.size]) h s.heap.objs.size ao) :
    G C kp B (σ ++ [s.heap.objs.size]) (hp ++ [ao]) ⟨s.heap.push o,s.gens,s.drawn,s.toks,s.os⟩ := by
  obtain ⟨o1,o2,o3⟩ := hG.out (get_none_size s.heap)
  have hP := G.ext hG (s' := ⟨s.heap.push o,s.gens,s.drawn,s.toks,s.os⟩) (fun b o' h => Heap.get?_push_of_some _ h) hG.gens rfl (Nat.le_refl _)
  have hlen := hG.len
  have old : ∀ (i : Nat) (a : Addr) (ao' : AObj),(σ ++ [s.heap.objs.size])[i]? = some a → (hp ++ [ao])[i]? = some ao' → (σ[i]? = some a ∧ hp[i]? = some ao') ∨ (i = σ.length ∧ a = s.heap.objs.size ∧ ao' = ao) := by
    intro i a ao' h1 h2
    by_cases hi : i < σ.length
    · rw [List.getElem?_append_left hi] at h1
      rw [List.getElem?_append_left (hlen ▸ hi)] at h2
      exact .inl ⟨h1,h2⟩
    · have hi' : i = σ.length := by
        have := (List.getElem?_eq_some_iff.mp h1).1
        simp only [List.length_append,List.length_singleton] at this; (first|lia -abstractProof|omega)
      subst hi'
      rw [List.getElem?_append_right (Nat.le_refl _)] at h1
      rw [hlen,List.getElem?_append_right (Nat.le_refl _)] at h2
      simp only [Nat.sub_self,List.getElem?_cons_zero,Option.some.injEq] at h1 h2
      exact .inr ⟨rfl,h1.symm,h2.symm⟩
  refine ⟨hP.ok,hP.bh,hP.b0,hP.kh,by simp [hlen],fun i a ao' h1 h2 h3 => ?_,fun i j a ai aj h1 h2 h3 h4 h5 h6 => ?_,hP.gens,hP.os,hP.tk⟩
  · rcases old i a ao' h1 h2 with ⟨g1,g2⟩ | ⟨rfl,rfl,rfl⟩
    · obtain ⟨k1,k2,k3,k4⟩ := hP.own i a ao' g1 g2 h3
      exact ⟨k1,k2,k3,k4.mono (Sub.refl _) (List.prefix_append _ _)⟩
    · exact ⟨o1,o2,⟨o,Heap.get?_push_size _ hf⟩,hr _ (Heap.get?_push_size _ hf)⟩
  · rcases old i a ai h1 h3 with ⟨g1,g2⟩ | ⟨rfl,rfl,rfl⟩
    · rcases old j a aj h2 h4 with ⟨g3,g4⟩ | ⟨rfl,rfl,rfl⟩
      · exact hP.inj i j a ai aj g1 g3 g2 g4 h5 h6
      · exact absurd h5 (o3 i ai g1 g2)
    · rcases old j _ aj h2 h4 with ⟨g3,g4⟩ | ⟨rfl,_,_⟩
      · exact absurd h6 (o3 j aj g3 g4)
      · rfl
theorem undefs : ∀ (l : List String) (vs : List (Option Value)),RelS C B σ (l.map fun _ => V.undef) vs
  | [],_ => trivial
  | _ :: l,vs => ⟨.inl rfl,undefs l vs.tail⟩
theorem typeCall_units (a : Args) : (Code.builtin "type.__call__" a).cUnits ≤ 8 := by
  have : (Code.builtin "type.__call__" a).cUnits = 1 + 3 * (Code.builtin "type.__call__" a).frames := rfl
  rw [this]
  have : (Code.builtin "type.__call__" a).frames ≤ 2 := by first | exact Nat.le_of_ble_eq_true rfl | (show 1 ≤ 2; decide) | (show 0 ≤ 2; decide) | (unfold Code.frames; simp [Code.isFrame]; done)
  (first|lia -abstractProof|omega)
theorem Calls_cls {i : Nat} {args : List V} {Q : V → List AObj → Prop}
    (h : Calls C d (.fn (1000 + i)) (.own hp.length :: args) (hp ++ [.inst i ((slotTab i).map fun _ => .undef)]) (fun v hp' => v = .none ∧ ∃ fs,hp' = hp ++ [.inst i fs] ∧ belowL hp.length fs = true ∧ Q (.inst i fs) hp)) : Calls C (d + 1) (.cls i) args hp Q := by
  intro A kp B σ s fv vals hA hG hf hv
  obtain ⟨c,rfl,hc⟩ := hf
  have hb : Sub C.b0 s.heap.get? := hG.b0.trans hG.bh
  have X := hG.ok.K _ hb
  have M := hG.ok.mkd _ _ hc
  obtain ⟨fI,i1,i2,i3⟩ := M.init
  obtain ⟨hh,g,dr,t,os⟩ := s
  refine make_core (makes_of X M.makes) (looks_findIn X i1) (fun self => bind_fn X self i2) (.inl rfl) ?_
  have hA' : AOk d (A.under (.builtin "type.__call__" ⟨.ref c :: vals,[]⟩)) := by
    obtain ⟨a1,a2,a3⟩ := hA
    refine ⟨a1,?_,?_⟩
    · show A.depth + 1 + d ≤ 990; (first|lia -abstractProof|omega)
    · show A.units + (Code.builtin "type.__call__" ⟨.ref c :: vals,[]⟩).cUnits + 8 * d ≤ 9800
      have := typeCall_units ⟨.ref c :: vals,[]⟩
      (first|lia -abstractProof|omega)
  obtain ⟨sub,G1⟩ := hG.alloc (o := emptyDict) rfl
  have G2 := G1.own_ (o := instObj c hh.objs.size) (ao := .inst i ((slotTab i).map fun _ => .undef)) rfl (fun h' hx => ⟨_,c,hh.objs.size,emptyDict,hx,hc,rfl,rfl,rfl,Base.put_self,undefs _ _⟩)
  have e1 : (hh.push emptyDict).objs.size = hh.objs.size + 1 := by rw [Heap.size_push]
  have hself : Rel C (B.put hh.objs.size emptyDict) (σ ++ [(hh.push emptyDict).objs.size]) (.own hp.length) (.ref (hh.objs.size + 1)) := ⟨_,rfl,by rw [← hG.len,List.getElem?_append_right (Nat.le_refl _),e1]; simp⟩
  refine codeAny_mono (h _ kp _ _ _ (.ref fI) (.ref (hh.objs.size + 1) :: vals) hA' G2 ⟨fI,rfl,i3⟩ ⟨_,vals,rfl,hself,RelL.mono sub (List.prefix_append _ _) hv⟩) fun r s' hr => ?_
  obtain ⟨v,B',σ',b,hp',rfl,h1,h2,h3,h4,rfl,fs,rfl,hbf,hq⟩ := hr
  have h4 : v = .none := h4
  subst h4
  refine ⟨rfl,?_⟩
  have hσ : σ <+: σ' := (List.prefix_append _ _).trans h2
  have ht : σ'.take hp.length = σ := by rw [← hG.len]; exact take_of_prefix hσ
  have g := h3.trim hG.low
  rw [ht] at g
  have ha : σ'[hp.length]? = some (hh.objs.size + 1) := by
    obtain ⟨r,rfl⟩ := h2
    rw [List.getElem?_append_left (by rw [List.length_append,hG.len]; simp),← hG.len,List.getElem?_append_right (Nat.le_refl _),← e1]; simp
  have hget : (hp ++ [AObj.inst i fs])[hp.length]? = some (.inst i fs) := by rw [List.getElem?_append_right (Nat.le_refl _)]; simp
  obtain ⟨g1,g2,_,ob,ca,dx,od,q1,q2,q3,q4,q5,q6,q7⟩ := h3.own hp.length _ _ ha hget trivial
  have hfree : ∀ (j : Nat) (ao : AObj),σ[j]? = some (hh.objs.size + 1) → hp[j]? = some ao → ¬ ao.live := fun j ao p1 p2 p3 => by
    have hj : j < hp.length := (List.getElem?_eq_some_iff.mp p2).1
    have e1 : σ'[j]? = some (hh.objs.size + 1) := by rw [← ht,List.getElem?_take_of_lt hj] at p1; exact p1
    have := h3.inj j hp.length _ ao _ e1 ha (by rw [List.getElem?_append_left hj]; exact p2) hget p3 trivial
    (first|lia -abstractProof|omega)
  have fz := g.freeze g1 g2 hfree q1
  have r' := RelS.cut q7 hbf
  rw [ht] at r'
  exact ⟨_,_,σ,.inst i fs,hp,rfl,(sub.trans h1).trans (Base.put_sub g2),List.prefix_refl _,fz,⟨_,ob,ca,dx,od,rfl,q2,Base.put_self,q3,q4,q5,Base.put_sub g2 _ _ q6,RelS.mono (Base.put_sub g2) (List.prefix_refl _) r'⟩,hq⟩
end
end
section
open Builtin Builtin.ObjectAttr Builtin.Getset_descriptor

noncomputable def plainV : V → Bool
  | .none | .bool _ | .int _ | .str _ | .tup _ | .lst _ | .dct _ | .inst _ _ | .own _ => true
  | _ => false
section
variable {C : Cx} {kp B : Base} {σ : List Addr} {hp : List AObj} {s : Shared} {d : Nat} {e : Env} {st : St}
theorem handed_of {x : V} {v : Value} (h : Rel C B σ x v) (hx : plainV x = true) : handedIn v = true := by
  cases x with
  | none => have h : v = .none := h; subst h; rfl
  | bool b => have h : v = .bool b := h; subst h; rfl
  | int i => obtain ⟨t,rfl⟩ := h; rfl
  | str l => obtain ⟨y,t,rfl,_⟩ := h; rfl
  | tup l => obtain ⟨y,t,n,rfl,_⟩ := h; rfl
  | lst l => obtain ⟨y,t,n,rfl,_⟩ := h; rfl
  | dct l => obtain ⟨y,t,n,rfl,_⟩ := h; rfl
  | inst c l => obtain ⟨y,_,_,_,_,rfl,_⟩ := h; rfl
  | own i => obtain ⟨y,rfl,_⟩ := h; rfl
  | _ => cases hx
theorem plain_undef {x : V} (hx : plainV x = true) : x ≠ .undef := by rintro rfl; cases hx

theorem T_AttrSlot {o : Expr} {name : String} {pos : Pos} {Q : V → St → Prop} (h : TV C d e (eval o e) st fun ov st₁ => ∃ (c : Nat) (fs : List V) (k : Nat) (x : V),ov = .inst c fs ∧ (slotTab c)[k]? = some name ∧ fs[k]? = some x ∧ plainV x = true ∧ Q x st₁)
    (hbase : attributeBase o (oS name) e (eval o e) = eval o e := by with_unfolding_all rfl) (ht : ∀ a r,letTemporaryGo o a r = pure () := by with_unfolding_all intro _ _; rfl) : TV C d e (eval (.Attribute o (oS name) pos) e) st Q := by
  intro A kp B σ s hA hS
  rw [arm_eval_Attribute,hbase]
  refine wpAny_bind (wpAny_mono (h A kp B σ s hA hS) (fun ov s₁ hp => ?_) fun _ _ x => x)
  obtain ⟨B₁,σ₁,a',st₁,g1,g2,g3,g4,c,fs,k,x,rfl,h1,h2,h3,h4⟩ := hp
  obtain ⟨a,ob,ca,dx,od,rfl,q2,q1,q3,q4,q5,q6,q7⟩ := g4
  refine wpAny_bind (wpAny_standAt (wpAny_bind (wpAny_holding ?_)))
  have hb : Sub C.b0 s₁.heap.get? := g3.g.b0.trans g3.g.bh
  have X := g3.g.ok.K _ hb
  have M := g3.g.ok.mkd _ _ q2
  obtain ⟨p,P1⟩ := M.slot k name h1
  have I := inst_at (g3.g.bh _ _ q1) q3 q4 q5 (g3.g.bh _ _ q6)
  obtain ⟨v,v1,v2⟩ := RelS.get q7 h2 (plain_undef h3)
  have v1 : (ob.slots[k]?).join = some v := by rw [← Array.getElem?_toList]; exact v1
  refine get_bind X I (plainGet_of M.get).1 (findObj_data M.isc P1.find P1.get P1.takes) (plainGet_of M.get).2 (wpAny_call (slot_get (s := { s₁ with toks := s₁.toks + 1 }) X I P1.slot v1 ?_))
  refine handed_on (handed_of v2 h3) ?_
  refine wpAny_bind ?_
  rw [ht]
  exact wpAny_pure (wpAny_pure ⟨B₁,σ₁,x,st₁,g1,g2,g3.toks _ _,v2,h4⟩)
noncomputable def tyOf (c : Nat) : List Nat := (oS (typeTab c)).cps.toList
theorem T_AttrType {o : Expr} {pos : Pos} {Q : V → St → Prop} (h : TV C d e (eval o e) st fun ov st₁ => ∃ c fs,ov = .inst c fs ∧ c ≠ 8 ∧ Q (.str (tyOf c)) st₁)
    (hbase : attributeBase o (oS "type") e (eval o e) = eval o e := by with_unfolding_all rfl) (ht : ∀ a r,letTemporaryGo o a r = pure () := by with_unfolding_all intro _ _; rfl) : TV C d e (eval (.Attribute o (oS "type") pos) e) st Q := by
  intro A kp B σ s hA hS
  rw [arm_eval_Attribute,hbase]
  refine wpAny_bind (wpAny_mono (h A kp B σ s hA hS) (fun ov s₁ hp => ?_) fun _ _ x => x)
  obtain ⟨B₁,σ₁,a',st₁,g1,g2,g3,g4,c,fs,rfl,hc8,h4⟩ := hp
  obtain ⟨a,ob,ca,dx,od,rfl,q2,q1,q3,q4,q5,q6,q7⟩ := g4
  refine wpAny_bind (wpAny_standAt (wpAny_bind (wpAny_holding ?_)))
  have hb : Sub C.b0 s₁.heap.get? := g3.g.b0.trans g3.g.bh
  have X := g3.g.ok.K _ hb
  have M := g3.g.ok.mkd _ _ q2
  have I := inst_at (g3.g.bh _ _ q1) q3 q4 q5 (g3.g.bh _ _ q6)
  rcases M.typ with q | ⟨t1,t,t2⟩
  · exact absurd q hc8
  obtain ⟨cd,c1,c2⟩ := any_some t1
  have c2 : cd.hasDict = false := by simpa using c2
  have gt : specialIn C.K (.str (oS (typeTab c)) t) "__get__" = some none := by
    show (typeIn C.K _).bind _ = _
    show findIn C.K (.type "str") "__get__" = _
    exact (by decide +kernel : fastLookup "str" "__get__" = some none)
  have hf : findObj C.K ca (some od) (oS "type") = some (.value (.str (oS (typeTab c)) t)) := by
    unfold findObj
    rw [c1,Option.bind_some,t2,Option.bind_some]
    have n1 : copiedNames.contains (oS "type") = false := by decide +kernel
    simp only [gt,Option.bind_some,PySem.W.ownOf,c2,n1,Bool.false_and,Bool.false_eq_true,if_false]
    rfl
  refine get_value X I (plainGet_of M.get).1 hf rfl ?_
  refine wpAny_bind ?_
  rw [ht]
  exact wpAny_pure (wpAny_pure ⟨B₁,σ₁,.str (tyOf c),st₁,g1,g2,g3.toks _ _,⟨_,t,rfl,rfl⟩,h4⟩)

theorem T_ClsCall {o : Expr} {apos pos : Pos} {args : List Expr} {Q : V → St → Prop}
    (h : TV C d e (eval o e) st fun ov st₁ => ∃ i,ov = .cls i ∧ TA C d e pos args st₁ fun vs st₂ => Ap C d e (.fn (1000 + i)) vs st₂ Q)
    (hbase : attributeBase o (oS "__init__") e (eval o e) = eval o e := by with_unfolding_all rfl)
    (hfew : methodCallForm (args.length + ([] : List Keyword).length) (backTo pos (starEach args e)) (backToKw pos (keywordEach [] e)) = true := by with_unfolding_all rfl)
    (hline : (apos.endLine == pos.line) = true := by with_unfolding_all rfl)
    (hpl : args.all (fun x => match x with | .Starred _ _ => false | _ => true) = true := by with_unfolding_all rfl) : TV C d e (eval (.Call (.Attribute o (oS "__init__") apos) args [] pos) e) st Q := by
  intro A kp B σ s hA hS
  rw [arm_eval_Call,hbase]
  refine wpAny_bind (wpAny_mono (h A kp B σ s hA hS) (fun ov s₁ hp => ?_) fun _ _ x => x)
  obtain ⟨B₁,σ₁,a',st₁,g1,g2,g3,g4,i,rfl,g5⟩ := hp
  obtain ⟨c,rfl,hc⟩ := g4
  refine wpAny_bind (wpAny_standAt ?_)
  have hb : Sub C.b0 s₁.heap.get? := g3.g.b0.trans g3.g.bh
  have X := g3.g.ok.K _ hb
  obtain ⟨r1,r2,fI,r3,r4⟩ := (g3.g.ok.mkd _ _ hc).initv
  have hpos : methodCallPos true o e apos pos = pure pos := by unfold methodCallPos; simp [hline]
  unfold methodCall calleeOf
  rw [hfew]
  refine wpAny_bind (wpAny_holding (method_cls X r2 (cls_value X r1 r3 rfl (wpAny_bind (wpAny_of_eq hpos ?_)))))
  have g3' := g3.toks (s₁.toks + 1) s₁.drawn
  have hfn : Rel C B₁ σ₁ (.fn (1000 + i)) (.ref fI) := ⟨fI,rfl,r4⟩
  refine callWith_of (P := fun h' => Sub C.b0 h'.get?) (by show ((backTo pos (starEach args e)).any (·.1) || false) = false; rw [noStar args hpl]; rfl) (fun h' hb' => keeps_fn B₁ σ₁ (.ref fI) hfn h' hb' g3.g.ok) ?_
  refine evalArgs_any hpl (wpAny_mono (g5 A kp B₁ σ₁ _ hA g3') (fun vs s₂ hp₂ => ?_) fun _ _ x => x)
  obtain ⟨B₂,σ₂,b,st₂,k1,k2,k3,k4,k5⟩ := hp₂
  exact ⟨k3.g.b0.trans k3.g.bh,wpAny_mono (k5 A kp B₂ σ₂ s₂ _ vs hA k3 (hfn.mono k1 k2) k4) (fun _ _ p => p.weaken (g1.trans k1) (g2.trans k2)) fun _ _ x => x⟩
end
end
section
noncomputable def ch (l : List Nat) (i : Nat) : Nat := l.getD i 0
noncomputable def cut {α : Type} (l : List α) (a b : Nat) : List α := (l.drop a).take (b - a)
theorem ch_get {l : List Nat} {i : Nat} (h : i < l.length) : l[i]? = some (ch l i) := by
  unfold ch; rw [List.getD_eq_getElem?_getD,List.getElem?_eq_getElem h]; rfl
theorem cut_one {l : List Nat} {i : Nat} : cut l i (i + 1) = if i < l.length then [ch l i] else [] := by
  unfold cut
  split
  · rename_i h
    rw [List.drop_eq_getElem_cons h,Nat.add_sub_cancel_left,List.take_succ_cons,List.take_zero]
    unfold ch; rw [List.getD_eq_getElem?_getD,List.getElem?_eq_getElem h]; rfl
  · rw [List.drop_of_length_le (by (first|lia -abstractProof|omega))]; simp
theorem cut_length {α : Type} (l : List α) (a b : Nat) : (cut l a b).length = min (b - a) (l.length - a) := by unfold cut; simp
theorem starts_one {l : List Nat} {c i : Nat} : startsAt l [c] i = (decide (i < l.length) && ch l i == c) := by
  unfold startsAt
  by_cases h : i < l.length
  · rw [List.drop_eq_getElem_cons h]
    unfold ch
    rw [List.getD_eq_getElem?_getD,List.getElem?_eq_getElem h,List.length_cons,List.length_nil,List.take_succ_cons,List.take_zero]
    simp [h]
  · rw [List.drop_of_length_le (by (first|lia -abstractProof|omega))]; simp [h]
theorem starts_cons {l m : List Nat} {c i : Nat} : startsAt l (c :: m) i = (decide (i < l.length) && ch l i == c && startsAt l m (i + 1)) := by
  unfold startsAt
  by_cases h : i < l.length
  · rw [List.drop_eq_getElem_cons h]
    unfold ch
    rw [List.getD_eq_getElem?_getD,List.getElem?_eq_getElem h,List.length_cons,List.take_succ_cons]
    simp [h]
  · rw [List.drop_of_length_le (by (first|lia -abstractProof|omega))]; simp [h]
section
variable {C : Cx} {d : Nat} {e : Env} {st : St}
theorem T_lit {s : String} {l : List Nat} {k : Nat} {pos : Pos} {Q : V → St → Prop} (h : Q (.str l) st) (hl : s.toList.map Char.toNat = l := by with_unfolding_all (first | (simp; done) | (simp; rfl) | rfl)) : TV C d e (eval (.Constant (.str (oS s)) k pos) e) st Q :=
  T_str (by rw [Str.ofString_eq_toList]; exact hl) h
theorem T_nat {n : Nat} {k : Nat} {pos : Pos} {Q : V → St → Prop} (h : Q (.int ((@OfNat.ofNat Nat n (instOfNatNat n) : Nat) : Int)) st) : TV C d e (eval (.Constant (.int (@OfNat.ofNat Int n (@instOfNat n))) k pos) e) st Q := T_int h
theorem Bin_addn {i j : Nat} {Q : V → St → Prop} (h : Q (.int ((i + j : Nat) : Int)) st) : Bin C d e (binaryOp .Add) (.int (i : Int)) (.int (j : Int)) st Q := Bin_add (by rw [← Int.natCast_add]; exact h)
theorem Bin_iaddn {i j : Nat} {Q : V → St → Prop} (h : Q (.int ((i + j : Nat) : Int)) st) : Bin C d e (inplaceOp .Add) (.int (i : Int)) (.int (j : Int)) st Q := Bin_iadd (by rw [← Int.natCast_add]; exact h)
theorem Cmp_ltn {i j : Nat} {Q : Bool → St → Prop} (h : Q (decide (i < j)) st) : Cmp C d e .Lt (.int (i : Int)) (.int (j : Int)) st Q := Cmp_lt (by simpa only [Int.ofNat_lt] using h)
theorem Cmp_gtn {i j : Nat} {Q : Bool → St → Prop} (h : Q (decide (j < i)) st) : Cmp C d e .Gt (.int (i : Int)) (.int (j : Int)) st Q := Cmp_gt (by simpa only [Int.ofNat_lt] using h)
theorem Cmp_len {i j : Nat} {Q : Bool → St → Prop} (h : Q (decide (i ≤ j)) st) : Cmp C d e .LtE (.int (i : Int)) (.int (j : Int)) st Q := Cmp_le (by simpa only [Int.ofNat_le] using h)
theorem beqn {i j : Nat} : ((i : Int) == (j : Int)) = (i == j) := by
  rw [Bool.eq_iff_iff]; simp only [beq_iff_eq]; exact Int.ofNat_inj
theorem Cmp_eqn {i j : Nat} {Q : Bool → St → Prop} (h : Q (i == j) st) : Cmp C d e .Eq (.int (i : Int)) (.int (j : Int)) st Q := Cmp_eqi (by rw [beqn]; exact h)
theorem Cmp_eq1 {a b : Nat} {Q : Bool → St → Prop} (h : Q (a == b) st) : Cmp C d e .Eq (.str [a]) (.str [b]) st Q := Cmp_eqs (by rw [show ([a] == [b]) = (a == b) from by simp]; exact h)
theorem Cmp_in1 {c : Nat} {m : List Nat} {Q : Bool → St → Prop} (h : Q (decide (c ∈ m)) st) : Cmp C d e .In (.str [c]) (.str m) st Q := Cmp_ins rfl h
theorem Item_ch {l : List Nat} {i : Nat} {Q : V → St → Prop} (h : Q (.str [ch l i]) st) (hi : i < l.length := by first | assumption | (first|lia -abstractProof|omega)) (hz : l.length ≤ 16777216 := by first | assumption | (first|lia -abstractProof|omega)) : Item C d e (.str l) (.int (i : Int)) st Q :=
  Item_str (Int.natCast_nonneg i) (c := ch l i) (by rw [Int.toNat_natCast]; exact ch_get hi) hz h
theorem Item_tup {xs : List V} {i : Nat} {x : V} {Q : V → St → Prop} (h : Q x st) (hc : xs[i]? = some x := by rfl) (hz : xs.length ≤ 16777216 := by first | assumption | (simp; done) | (first|lia -abstractProof|omega)) : Item C d e (.tup xs) (.int (i : Int)) st Q := by
  rintro A kp B σ s va vi hA hS ⟨a,items,n,rfl,h1,h2⟩ ⟨u,rfl⟩
  obtain ⟨v,h3,h4⟩ := RelL.get h2 hc
  have hl : IsTup s.heap a items := ⟨_,hS.g.bh _ _ h1,rfl,n,rfl⟩
  have hlt := (List.getElem?_eq_some_iff.mp hc).1
  have hlen := RelL.length h2
  have hsz : items.size = xs.length := by rw [← hlen]; simp
  refine ⟨"tuple","tuple.__getitem__",PySem.F.slot_tuple_getitem.lookup,hl.typeIs,PyProof.Rows.getItem_tuple hl (by (first|lia -abstractProof|omega)) (by (first|lia -abstractProof|omega)) (j := i) ?_ (by rw [← Array.getElem?_toList]; exact h3) (Post.here hS h4 h)⟩
  rw [seqIndex_of (Int.natCast_nonneg i) (by (first|lia -abstractProof|omega)),Int.toNat_natCast]
theorem T_SliceNat {value x y : Expr} {p pos : Pos} {Q : V → St → Prop}
    (h : TV C d e (eval value e) st fun o st₁ => TV C d e (eval x e) st₁ fun vx st₂ => ∃ a : Nat,vx = .int (a : Int) ∧ TV C d e (eval y e) st₂ fun vy st₃ => ∃ (b : Nat) (l : List Nat),vy = .int (b : Int) ∧ o = .str l ∧ l.length ≤ 16777216 ∧ Q (.str (cut l a b)) st₃)
    (ht : ∀ o r,letTemporaryGo value o r = pure () := by with_unfolding_all intro _ _; rfl) : TV C d e (eval (.Subscript value (.Slice (some x) (some y) none p) pos) e) st Q :=
  T_SliceStr (T.mono h fun o st₁ h₁ => P_some (T.mono h₁ fun vx st₂ ⟨a,e1,h₂⟩ => ⟨a,e1,P_some (T.mono h₂ fun vy st₃ ⟨b,l,e2,e3,e4,e5⟩ => ⟨b,e2,l,e3,e4,by rw [slc_nat]; exact e5⟩)⟩)) ht
theorem Q_call {x : Str} {np pos : Pos} {args : List Expr} {f : V} {gl : List (Str × V)} {Q : V → St → Prop} (hg : GL C e gl) (h : TA C d e pos args st fun vs st₂ => Ap C d e f vs st₂ Q)
    (hm : Has x f gl := by with_reducible repeat constructor) (hk : Keeps C f := by with_reducible first | exact keeps_fn | exact keeps_builtin | exact keeps_cls | exact keeps_type)
    (hpl : args.all (fun x => match x with | .Starred _ _ => false | _ => true) = true := by with_unfolding_all rfl) : TV C d e (eval (.Call (.Name x np) args [] pos) e) st Q :=
  T_Call (T_NameG hg hm.mem ⟨hk,h⟩) hpl
theorem M_startswith {o : Expr} {apos pos : Pos} {args : List Expr} {Q : V → St → Prop}
    (h : TV C d e (eval o e) st fun ov st₁ => ∃ l,ov = .str l ∧ TA C d e pos args st₁ fun vs st₂ => Ap C d e (.raw (.builtin "str.startswith")) (.str l :: vs) st₂ Q)
    (hbase : attributeBase o (oS "startswith") e (eval o e) = eval o e := by with_unfolding_all rfl)
    (hfew : ((backTo pos (starEach args e)).all (fun x => !x.1) && (backToKw pos (keywordEach [] e)).all (fun x => x.1.isSome) && decide (args.length + ([] : List Keyword).length + (if ([] : List Keyword).isEmpty then 0 else 1) < 30)) = true := by with_unfolding_all rfl)
    (hline : (apos.endLine == pos.line) = true := by with_unfolding_all rfl)
    (hpl : args.all (fun x => match x with | .Starred _ _ => false | _ => true) = true := by with_unfolding_all rfl) : TV C d e (eval (.Call (.Attribute o (oS "startswith") apos) args [] pos) e) st Q :=
  T_method PySem.F.plainAttrs_str PySem.F.slot_str_startswith PySem.F.type_str_startswith (T.mono h fun ov st₁ ⟨l,q,r⟩ => by subst q; exact ⟨kind_str,r⟩) hbase hfew hline hpl
theorem M_rfind {o : Expr} {apos pos : Pos} {args : List Expr} {Q : V → St → Prop}
    (h : TV C d e (eval o e) st fun ov st₁ => ∃ l,ov = .str l ∧ TA C d e pos args st₁ fun vs st₂ => Ap C d e (.raw (.builtin "str.rfind")) (.str l :: vs) st₂ Q)
    (hbase : attributeBase o (oS "rfind") e (eval o e) = eval o e := by with_unfolding_all rfl)
    (hfew : ((backTo pos (starEach args e)).all (fun x => !x.1) && (backToKw pos (keywordEach [] e)).all (fun x => x.1.isSome) && decide (args.length + ([] : List Keyword).length + (if ([] : List Keyword).isEmpty then 0 else 1) < 30)) = true := by with_unfolding_all rfl)
    (hline : (apos.endLine == pos.line) = true := by with_unfolding_all rfl)
    (hpl : args.all (fun x => match x with | .Starred _ _ => false | _ => true) = true := by with_unfolding_all rfl) : TV C d e (eval (.Call (.Attribute o (oS "rfind") apos) args [] pos) e) st Q :=
  T_method PySem.F.plainAttrs_str PySem.F.slot_str_rfind PySem.F.type_str_rfind (T.mono h fun ov st₁ ⟨l,q,r⟩ => by subst q; exact ⟨kind_str,r⟩) hbase hfew hline hpl
theorem M_count {o : Expr} {apos pos : Pos} {args : List Expr} {Q : V → St → Prop}
    (h : TV C d e (eval o e) st fun ov st₁ => ∃ l,ov = .str l ∧ TA C d e pos args st₁ fun vs st₂ => Ap C d e (.raw (.builtin "str.count")) (.str l :: vs) st₂ Q)
    (hbase : attributeBase o (oS "count") e (eval o e) = eval o e := by with_unfolding_all rfl)
    (hfew : ((backTo pos (starEach args e)).all (fun x => !x.1) && (backToKw pos (keywordEach [] e)).all (fun x => x.1.isSome) && decide (args.length + ([] : List Keyword).length + (if ([] : List Keyword).isEmpty then 0 else 1) < 30)) = true := by with_unfolding_all rfl)
    (hline : (apos.endLine == pos.line) = true := by with_unfolding_all rfl)
    (hpl : args.all (fun x => match x with | .Starred _ _ => false | _ => true) = true := by with_unfolding_all rfl) : TV C d e (eval (.Call (.Attribute o (oS "count") apos) args [] pos) e) st Q :=
  T_method PySem.F.plainAttrs_str PySem.F.slot_str_count PySem.F.type_str_count (T.mono h fun ov st₁ ⟨l,q,r⟩ => by subst q; exact ⟨kind_str,r⟩) hbase hfew hline hpl
theorem M_join {o : Expr} {apos pos : Pos} {args : List Expr} {Q : V → St → Prop}
    (h : TV C d e (eval o e) st fun ov st₁ => ∃ l,ov = .str l ∧ TA C d e pos args st₁ fun vs st₂ => Ap C d e (.raw (.builtin "str.join")) (.str l :: vs) st₂ Q)
    (hbase : attributeBase o (oS "join") e (eval o e) = eval o e := by with_unfolding_all rfl)
    (hfew : ((backTo pos (starEach args e)).all (fun x => !x.1) && (backToKw pos (keywordEach [] e)).all (fun x => x.1.isSome) && decide (args.length + ([] : List Keyword).length + (if ([] : List Keyword).isEmpty then 0 else 1) < 30)) = true := by with_unfolding_all rfl)
    (hline : (apos.endLine == pos.line) = true := by with_unfolding_all rfl)
    (hpl : args.all (fun x => match x with | .Starred _ _ => false | _ => true) = true := by with_unfolding_all rfl) : TV C d e (eval (.Call (.Attribute o (oS "join") apos) args [] pos) e) st Q :=
  T_method PySem.F.plainAttrs_str PySem.F.slot_str_join PySem.F.type_str_join (T.mono h fun ov st₁ ⟨l,q,r⟩ => by subst q; exact ⟨kind_str,r⟩) hbase hfew hline hpl
theorem M_append {o : Expr} {apos pos : Pos} {args : List Expr} {Q : V → St → Prop}
    (h : TV C d e (eval o e) st fun ov st₁ => ∃ (i : Nat) (xs : List V),ov = .own i ∧ st₁.hp[i]? = some (.list xs) ∧ TA C d e pos args st₁ fun vs st₂ => Ap C d e (.raw (.builtin "list.append")) (.own i :: vs) st₂ Q)
    (hbase : attributeBase o (oS "append") e (eval o e) = eval o e := by with_unfolding_all rfl)
    (hfew : ((backTo pos (starEach args e)).all (fun x => !x.1) && (backToKw pos (keywordEach [] e)).all (fun x => x.1.isSome) && decide (args.length + ([] : List Keyword).length + (if ([] : List Keyword).isEmpty then 0 else 1) < 30)) = true := by with_unfolding_all rfl)
    (hline : (apos.endLine == pos.line) = true := by with_unfolding_all rfl)
    (hpl : args.all (fun x => match x with | .Starred _ _ => false | _ => true) = true := by with_unfolding_all rfl) : TV C d e (eval (.Call (.Attribute o (oS "append") apos) args [] pos) e) st Q :=
  T_method PySem.F.plainAttrs_list PySem.F.slot_list_append PySem.F.type_list_append (T.mono h fun ov st₁ ⟨i,xs,q,q2,r⟩ => by subst q; exact ⟨kind_own q2,r⟩) hbase hfew hline hpl
theorem last_at {α : Type} {l : List α} {x : α} : (l ++ [x])[l.length]? = some x := by simp
theorem last_set {α : Type} {l : List α} {x y : α} : (l ++ [x]).set l.length y = l ++ [y] := by simp
theorem Ap_appendL {hp : List AObj} {vars : List (Str × V)} {xs : List V} {v : V} {Q : V → St → Prop} (h : Q .none ⟨vars,hp ++ [.list (xs ++ [v])]⟩) (hz : xs.length ≤ 16777216) : Ap C d e (.raw (.builtin "list.append")) [.own hp.length,v] ⟨vars,hp ++ [.list xs]⟩ Q :=
  Ap_append (xs := xs) last_at hz (by rw [last_set]; exact h)
theorem Ap_joinL {hp : List AObj} {vars : List (Str × V)} {xs : List V} {ys : List (List Nat)} {Q : V → St → Prop} (h : Q (.str ys.flatten) ⟨vars,hp ++ [.list xs]⟩) (hs : strsOf xs = some ys) (hz : ys.flatten.length ≤ 16777216) : Ap C d e (.raw (.builtin "str.join")) [.str [],.own hp.length] ⟨vars,hp ++ [.list xs]⟩ Q :=
  Ap_join_own last_at hs hz h
end
end
section
theorem ite_dec {p : Prop} [Decidable p] {A B : Prop} (h1 : p → A) (h2 : ¬ p → B) : if decide p = true then A else B := by
  by_cases h : p
  · simpa [h] using h1 h
  · simpa [h] using h2 h
theorem ite_beq {a b : Nat} {A B : Prop} (h1 : a = b → A) (h2 : a ≠ b → B) : if (a == b) = true then A else B := by
  by_cases h : a = b
  · simpa [h] using h1 h
  · simpa [h] using h2 h
theorem ite_cutne {l : List Nat} {a : Nat} {A B : Prop} (h1 : a < l.length → A) (h2 : ¬ a < l.length → B) : if (cut l a (a + 1) != []) = true then A else B := by
  rw [cut_one]
  by_cases h : a < l.length
  · simpa [h] using h1 h
  · simpa [h] using h2 h
theorem ite_cuteq {l : List Nat} {a c : Nat} {A B : Prop} (h1 : a < l.length → ch l a = c → A) (h2 : ¬ (a < l.length ∧ ch l a = c) → B) : if (cut l a (a + 1) == [c]) = true then A else B := by
  rw [cut_one]
  by_cases h : a < l.length
  · by_cases h' : ch l a = c
    · simpa [h,h'] using h1 h h'
    · simpa [h,h'] using h2 fun q => h' q.2
  · simpa [h] using h2 fun q => h q.1
theorem ite_cutin {l : List Nat} {ys : List (List Nat)} {a : Nat} {A B : Prop} (h1 : a < l.length → ys.contains [ch l a] = true → A) (h2 : ¬ (a < l.length ∧ ys.contains [ch l a] = true) → B) (hy : ys.contains [] = false := by with_unfolding_all rfl) : if ys.contains (cut l a (a + 1)) = true then A else B := by
  rw [cut_one]
  by_cases h : a < l.length
  · rw [if_pos h]
    by_cases h' : ys.contains [ch l a] = true
    · rw [if_pos h']; exact h1 h h'
    · rw [if_neg h']; exact h2 fun q => h' q.2
  · rw [if_neg h,hy]
    exact h2 fun q => h q.1
theorem ite_starts1 {l : List Nat} {c a : Nat} {A B : Prop} (h1 : a < l.length → ch l a = c → A) (h2 : ¬ (a < l.length ∧ ch l a = c) → B) : if startsAt l [c] a = true then A else B := by
  rw [starts_one]
  by_cases h : a < l.length
  · by_cases h' : ch l a = c
    · simpa [h,h'] using h1 h h'
    · simpa [h,h'] using h2 fun q => h' q.2
  · simpa [h] using h2 fun q => h q.1
theorem starts_any {l : List Nat} {a : Nat} : ∀ (cs : List Nat),(cs.map fun c => [c]).any (startsAt l · a) = (decide (a < l.length) && cs.contains (ch l a))
  | [] => by simp
  | c :: cs => by
    rw [List.map_cons,List.any_cons,starts_any cs,starts_one]
    have e : ∀ x y : Nat,(x == y) = decide (x = y) := fun x y => by rw [Bool.eq_iff_iff]; simp
    by_cases h : a < l.length
    · simp [h,e]
    · simp [h]

noncomputable def run (p : Nat → Bool) (l : List Nat) : Nat → Nat → Nat
  | 0,i => i
  | n + 1,i => if i < l.length ∧ p (ch l i) = true then run p l n (i + 1) else i
noncomputable def skip (p : Nat → Bool) (l : List Nat) (i : Nat) : Nat := run p l (l.length - i) i
theorem skip_step {p : Nat → Bool} {l : List Nat} {i : Nat} (h : i < l.length) (hp : p (ch l i) = true) : skip p l i = skip p l (i + 1) := by
  unfold skip
  rw [show l.length - i = (l.length - (i + 1)) + 1 by (first|lia -abstractProof|omega),run,if_pos ⟨h,hp⟩]
theorem skip_stop {p : Nat → Bool} {l : List Nat} {i : Nat} (h : ¬ (i < l.length ∧ p (ch l i) = true)) : skip p l i = i := by
  unfold skip
  cases l.length - i with
  | zero => rfl
  | succ n => rw [run,if_neg h]
theorem run_le (p : Nat → Bool) (l : List Nat) : ∀ (n i : Nat),i ≤ run p l n i
  | 0,i => Nat.le_refl _
  | n + 1,i => by
    rw [run]
    split
    · have := run_le p l n (i + 1); (first|lia -abstractProof|omega)
    · exact Nat.le_refl _
theorem run_len (p : Nat → Bool) (l : List Nat) : ∀ (n i : Nat),i ≤ l.length → run p l n i ≤ l.length
  | 0,i,h => h
  | n + 1,i,h => by
    rw [run]
    split
    · rename_i q; exact run_len p l n (i + 1) (by (first|lia -abstractProof|omega))
    · exact h
noncomputable def isHex (c : Nat) : Bool := (48 ≤ c && c ≤ 57) || (65 ≤ c && c ≤ 70) || (97 ≤ c && c ≤ 102)
noncomputable def isDig (c : Nat) : Bool := 48 ≤ c && c ≤ 57
noncomputable def isWs (c : Nat) : Bool := c == 32 || c == 10 || c == 9
theorem mem_iff_b {p : Nat → Bool} {m : List Nat} (h1 : m.all p = true) {n : Nat} (h2 : ∀ c,p c = true → c < n) (h3 : (List.range n).all (fun c => !p c || decide (c ∈ m)) = true) (c : Nat) : decide (c ∈ m) = p c := by
  rw [Bool.eq_iff_iff,decide_eq_true_eq]
  constructor
  · exact List.all_eq_true.mp h1 c
  · intro h
    have := List.all_eq_true.mp h3 c (List.mem_range.mpr (h2 c h))
    simpa [h] using this
theorem hex_mem (c : Nat) : decide (c ∈ [48,49,50,51,52,53,54,55,56,57,97,98,99,100,101,102,65,66,67,68,69,70]) = isHex c :=
  mem_iff_b (n := 128) (by decide +kernel) (fun c h => by simp only [isHex,Bool.or_eq_true,Bool.and_eq_true,decide_eq_true_eq] at h; (first|lia -abstractProof|omega)) (by decide +kernel) c
theorem contains1 {c : Nat} : ∀ {cs : List Nat},(cs.map fun x => [x]).contains [c] = cs.contains c
  | [] => rfl
  | x :: cs => by
    rw [List.map_cons,List.contains_cons,List.contains_cons,contains1 (cs := cs)]
    simp
theorem contains_dec {c : Nat} {cs : List Nat} : cs.contains c = decide (c ∈ cs) := by rw [Bool.eq_iff_iff,List.contains_iff_mem,decide_eq_true_eq]
theorem dig_in (c : Nat) : ([[48],[49],[50],[51],[52],[53],[54],[55],[56],[57]] : List (List Nat)).contains [c] = isDig c := by
  refine (contains1 (c := c) (cs := [48,49,50,51,52,53,54,55,56,57])).trans ?_
  rw [contains_dec]
  exact mem_iff_b (n := 128) (by decide +kernel) (fun c h => by simp only [isDig,Bool.and_eq_true,decide_eq_true_eq] at h; (first|lia -abstractProof|omega)) (by decide +kernel) c
theorem ws_in (c : Nat) : ([[32],[10],[9]] : List (List Nat)).contains [c] = isWs c := by
  refine (contains1 (c := c) (cs := [32,10,9])).trans ?_
  simp [isWs,List.contains_cons]
  by_cases h1 : c = 32 <;> by_cases h2 : c = 10 <;> by_cases h3 : c = 9 <;> simp_all
theorem ws_mem (c : Nat) : decide (c ∈ [32,10,9]) = isWs c := by
  rw [← contains_dec]
  exact (contains1 (c := c) (cs := [32,10,9])).symm.trans (ws_in c)
theorem ws_any {l : List Nat} {a : Nat} : ([[32],[10],[9]] : List (List Nat)).any (startsAt l · a) = (decide (a < l.length) && isWs (ch l a)) := by
  rw [show ([[32],[10],[9]] : List (List Nat)) = ([32,10,9] : List Nat).map fun c => [c] from rfl,starts_any,contains_dec,ws_mem]
section
variable {C : Cx} {d : Nat} {e : Env} {st : St}
theorem Ap_is {f : V} {args : List V} {v : V} {Q : V → St → Prop} (h : Calls C d f args st.hp (fun v' hp' => v' = v ∧ hp' = st.hp)) (hq : Q v st) : Ap C d e f args st Q :=
  Ap_Calls (Calls.mono h fun v' hp' ⟨h1,h2⟩ => by subst h1; subst h2; exact hq)
theorem strsOf_map : ∀ (cs : List (List Nat)),strsOf (cs.map V.str) = some cs
  | [] => rfl
  | c :: cs => by rw [List.map_cons,strsOf,strsOf_map cs]; rfl
theorem map_snoc {cs : List (List Nat)} {x : List Nat} : cs.map V.str ++ [V.str x] = (cs ++ [x]).map V.str := by simp
end
theorem beqd (x y : Nat) : (x == y) = decide (x = y) := by rw [Bool.eq_iff_iff]; simp
theorem size_and {n : Nat} {P : Prop} (h : n ≤ 16777216) (p : P) : n ≤ sizeLine ∧ P := ⟨by rw [sizeLine_eq]; exact h,p⟩
section
variable {C : Cx} {d : Nat} {e : Env} {st : St}
theorem Ap_chrn {n : Nat} {Q : V → St → Prop} (h1 : n ≤ 1114111) (h : Q (.str [n]) st) : Ap C d e (.raw (.builtin "chr")) [.int (n : Int)] st Q := Ap_chr (by (first|lia -abstractProof|omega)) (by (first|lia -abstractProof|omega)) (by rw [Int.toNat_natCast]; exact h)
end
inductive StrL : List V → List (List Nat) → Prop where
  | nil : StrL [] []
  | cons {l : List Nat} {xs : List V} {ys : List (List Nat)} : StrL xs ys → StrL (.str l :: xs) (l :: ys)
theorem StrL.of {xs : List V} {ys : List (List Nat)} (h : StrL xs ys) : strsOf xs = some ys := by
  induction h with
  | nil => rfl
  | cons _ ih => rw [strsOf,ih]; rfl
section
variable {C : Cx} {d : Nat} {e : Env} {st : St}
theorem Cmp_inT {l : List Nat} {xs : List V} {ys : List (List Nat)} {Q : Bool → St → Prop} (h : Q (ys.contains l) st) (hs : StrL xs ys := by with_reducible repeat constructor) : Cmp C d e .In (.str l) (.tup xs) st Q := Cmp_inTup hs.of h
theorem Ap_startswithT {l : List Nat} {xs : List V} {ys : List (List Nat)} {i : Nat} {Q : V → St → Prop} (h : Q (.bool (ys.any (startsAt l · i))) st) (hs : StrL xs ys := by with_reducible repeat constructor) (hne : ys.all (fun m => m.length != 0) = true := by with_unfolding_all rfl) :
    Ap C d e (.raw (.builtin "str.startswith")) [.str l,.tup xs,.int i] st Q := Ap_startswith_tup hs.of hne h
end
theorem ite_ws {l : List Nat} {a : Nat} {A B : Prop} (h1 : a < l.length → isWs (ch l a) = true → A) (h2 : ¬ (a < l.length ∧ isWs (ch l a) = true) → B) : if ([[32],[10],[9]] : List (List Nat)).any (startsAt l · a) = true then A else B := by
  rw [ws_any]
  by_cases h : a < l.length
  · by_cases h' : isWs (ch l a) = true
    · simpa [h,h'] using h1 h h'
    · simpa [h,h'] using h2 fun q => h' q.2
  · simpa [h] using h2 fun q => h q.1
theorem ite_wsin {l : List Nat} {a : Nat} {A B : Prop} (h1 : a < l.length → isWs (ch l a) = true → A) (h2 : ¬ (a < l.length ∧ isWs (ch l a) = true) → B) : if ([[32],[10],[9]] : List (List Nat)).contains (cut l a (a + 1)) = true then A else B :=
  ite_cutin (fun p q => h1 p (by rw [ws_in] at q; exact q)) (fun p => h2 fun q => p ⟨q.1,by rw [ws_in]; exact q.2⟩) rfl
theorem ite_digin {l : List Nat} {a : Nat} {A B : Prop} (h1 : a < l.length → isDig (ch l a) = true → A) (h2 : ¬ (a < l.length ∧ isDig (ch l a) = true) → B) : if ([[48],[49],[50],[51],[52],[53],[54],[55],[56],[57]] : List (List Nat)).contains (cut l a (a + 1)) = true then A else B :=
  ite_cutin (fun p q => h1 p (by rw [dig_in] at q; exact q)) (fun p => h2 fun q => p ⟨q.1,by rw [dig_in]; exact q.2⟩) rfl
theorem ite_hexin {c : Nat} {A B : Prop} (h1 : isHex c = true → A) (h2 : ¬ isHex c = true → B) : if decide (c ∈ [48,49,50,51,52,53,54,55,56,57,97,98,99,100,101,102,65,66,67,68,69,70]) = true then A else B := by
  rw [hex_mem]; exact ite_in h1 fun q => h2 (by rw [q]; decide)
end
section
set_option maxRecDepth 100000
open PySem.NumText

noncomputable def hexDig (c : Nat) : Nat := if c ≤ 57 then c - 48 else if c ≤ 70 then c - 55 else c - 87
noncomputable def hexVal (l : List Nat) : Nat := l.foldl (fun n c => n * 16 + hexDig c) 0
theorem isHex_iff {c : Nat} (h : isHex c = true) : (48 ≤ c ∧ c ≤ 57) ∨ (65 ≤ c ∧ c ≤ 70) ∨ (97 ≤ c ∧ c ≤ 102) := by
  simp only [isHex,Bool.or_eq_true,Bool.and_eq_true,decide_eq_true_eq] at h; (first|lia -abstractProof|omega)
theorem hex_digit {c : Nat} (h : isHex c = true) : digit? c = some (hexDig c) ∧ hexDig c < 16 := by
  unfold digit? hexDig
  rcases isHex_iff h with ⟨h1,h2⟩ | ⟨h1,h2⟩ | ⟨h1,h2⟩
  · have e : (decide (48 ≤ c) && decide (c ≤ 57)) = true := by simp [h1,h2]
    rw [if_pos e,if_pos h2]; exact ⟨rfl,by (first|lia -abstractProof|omega)⟩
  · have e : ¬ (decide (48 ≤ c) && decide (c ≤ 57)) = true := by simp; (first|lia -abstractProof|omega)
    have e2 : ¬ (decide (97 ≤ c) && decide (c ≤ 122)) = true := by simp; (first|lia -abstractProof|omega)
    have e3 : (decide (65 ≤ c) && decide (c ≤ 90)) = true := by simp; (first|lia -abstractProof|omega)
    rw [if_neg e,if_neg e2,if_pos e3,if_neg (by (first|lia -abstractProof|omega)),if_pos h2]; exact ⟨rfl,by (first|lia -abstractProof|omega)⟩
  · have e : ¬ (decide (48 ≤ c) && decide (c ≤ 57)) = true := by simp; (first|lia -abstractProof|omega)
    have e2 : (decide (97 ≤ c) && decide (c ≤ 122)) = true := by simp; (first|lia -abstractProof|omega)
    rw [if_neg e,if_pos e2,if_neg (by (first|lia -abstractProof|omega)),if_neg (by (first|lia -abstractProof|omega))]; exact ⟨rfl,by (first|lia -abstractProof|omega)⟩
theorem hex_step {p : Array Nat × Bool} {c : Nat} (h : isHex c = true) : NumText.step 16 p c = some (p.1.push (hexDig c),true) := by
  obtain ⟨h1,h2⟩ := hex_digit h
  unfold NumText.step
  have : ¬ (c == 95) = true := by have := isHex_iff h; simp; (first|lia -abstractProof|omega)
  rw [if_neg this,h1]
  dsimp only
  rw [if_pos h2]
theorem hex_steps : ∀ (l : List Nat) (p : Array Nat × Bool),l.all isHex = true → l.foldlM (NumText.step 16) p = some (p.1 ++ (l.map hexDig).toArray,p.2 || !l.isEmpty)
  | [],p,_ => by simp
  | c :: l,p,h => by
    simp only [List.all_cons,Bool.and_eq_true] at h
    rw [List.foldlM_cons,hex_step h.1]
    show l.foldlM (NumText.step 16) (p.1.push (hexDig c),true) = _
    rw [hex_steps l _ h.2]
    simp
theorem hex_digits {l : List Nat} (h : l.all isHex = true) (hne : l ≠ []) : digits? 16 l = some (l.map hexDig).toArray := by
  unfold digits?
  rw [hex_steps l _ h]
  cases l with
  | nil => exact absurd rfl hne
  | cons c r => simp
theorem hex_blank {l : List Nat} (h : l.all isHex = true) : l.dropWhile blank = l := by
  cases l with
  | nil => rfl
  | cons c r =>
    simp only [List.all_cons,Bool.and_eq_true] at h
    have : blank c = false := by have := isHex_iff h.1; unfold blank; simp; (first|lia -abstractProof|omega)
    rw [List.dropWhile_cons,this]; rfl
theorem hex_sign {l : List Nat} (h : l.all isHex = true) : sign l = (false,l) := by
  cases l with
  | nil => rfl
  | cons c r =>
    simp only [List.all_cons,Bool.and_eq_true] at h
    have := isHex_iff h.1
    unfold sign
    split
    · rename_i q; cases q; (first|lia -abstractProof|omega)
    · rename_i q; cases q; (first|lia -abstractProof|omega)
    · rfl
theorem hex_prefix {l : List Nat} (h : l.all isHex = true) : prefix? l ≠ some 16 := by
  unfold prefix?
  split
  · rename_i c r
    simp only [List.all_cons,Bool.and_eq_true] at h
    have := isHex_iff h.2.1
    split
    · rename_i q; simp at q; (first|lia -abstractProof|omega)
    · split
      · intro q; cases q
      · split
        · intro q; cases q
        · intro q; cases q
  · intro q; cases q
theorem hex_based {l : List Nat} (h : l.all isHex = true) : based 16 l = (16,false,l) := by
  unfold based
  split
  · rename_i p hp
    have : ¬ ((16 : Nat) == 0 || (16 : Nat) == p) = true := by
      simp only [Bool.or_eq_true,beq_iff_eq,not_or]
      exact ⟨by (first|lia -abstractProof|omega),fun q => hex_prefix h (by rw [q]; exact hp)⟩
    rw [if_neg this]
  · rfl
theorem all_reverse {p : Nat → Bool} {l : List Nat} (h : l.all p = true) : l.reverse.all p = true := by simpa using h
theorem hex_read {l : List Nat} (h : l.all isHex = true) (hne : l ≠ []) (hl : l.length ≤ 640) : (int_private% "readNumeral") 0 16 l = (int_private% "Numeral.value") (hexVal l : Int) := by
  rw [readNumeral_eq,hex_blank h,hex_sign h]
  simp only [hex_based h]
  rw [hex_blank (all_reverse h),List.reverse_reverse,hex_digits h hne]
  have e : ((l.map hexDig).toArray.foldl (fun acc d => acc * 16 + d) 0) = hexVal l := by
    unfold hexVal
    rw [List.foldl_toArray',List.foldl_map]
    simp
  unfold judge
  dsimp only
  rw [e]
  rfl
theorem hex_nz : ∀ {l : List Nat},l.all isHex = true → l.takeWhile (· != 0) = l
  | [],_ => rfl
  | c :: r,h => by
    simp only [List.all_cons,Bool.and_eq_true] at h
    have := isHex_iff h.1
    have e : (c != 0) = true := by simp; (first|lia -abstractProof|omega)
    rw [List.takeWhile_cons,if_pos e,hex_nz h.2]
theorem wp_text16 {M : Model} {A : Around} {E : Value → Shared → Prop} {s : Shared} {Q : Value → Shared → Prop} {v : Value} {text : List Nat} (h : text.all isHex = true) (hne : text ≠ []) (hl : text.length ≤ 640)
    (hq : Q (.int (hexVal text) s.toks) { s with toks := s.toks + 1 }) : wpAny M A ((int_private% "intFromText") v text 16) Q E s := by
  have hr := hex_read h hne hl
  have hz := hex_nz h
  obtain ⟨hp,g,d,tk,os⟩ := s
  have hs : (text.takeWhile (· != 0)).length ≤ 640 := by rw [hz]; exact hl
  have ha : ((text.takeWhile (· != 0)).length == text.length) = true := by rw [hz]; simp
  have hr : (int_private% "readNumeral") 0 16 (text.takeWhile (· != 0)) = (int_private% "Numeral.value") (hexVal text : Int) := by rw [hz]; exact hr
  clear hz
  repeat (any_goals (first
    | assumption
    | (with_reducible refine wpAny_ite_true (decide_eq_true hs) ?_)
    | (with_reducible refine wpAny_ite_true (decide_eq_true ha) ?_)
    | wp_step))
  all_goals (try rw [hr])
  all_goals (try dsimp only)
  repeat (any_goals (first
    | assumption
    | (with_reducible refine wpAny_ite_true (decide_eq_true hs) ?_)
    | (with_reducible refine wpAny_ite_true (decide_eq_true ha) ?_)
    | wp_step))
theorem typeCall_int_2 (a b : Value) : checkTypeCall "int" ⟨[a,b],[]⟩ = pure () := by kernel_rfl
theorem newCall_int_2 (a b : Value) : checkBuiltinCall "int.__new__" ⟨[.type "int",a,b],[]⟩ = pure () := by kernel_rfl
set_option maxHeartbeats 4000000 in
theorem gives_text16 {x : Str} {u w : Tok} (h : x.cps.toList.all isHex = true) (hne : x.cps.toList ≠ []) (hl : x.length ≤ 640) : Gives (Builtin.«int.__new__» ⟨[.type "int",.str x u,.int 16 w],[]⟩) (.int (hexVal x.cps.toList)) :=
  .of_wp fun M A E s Q hq => by
    obtain ⟨hp,g,d,tk,os⟩ := s
    have f1 := F.conv_sub_int
    have f2 := F.madeHere_int
    have f6 : typeOf (.str x u) = pure (.type "str") := rfl
    have hlt : x.cps.all (· < 128) = true := by
      rw [← Array.all_toList]
      refine List.all_eq_true.mpr fun c hc => ?_
      have := isHex_iff (List.all_eq_true.mp h c hc)
      simp; (first|lia -abstractProof|omega)
    have hl' : x.cps.toList.length ≤ 640 := by simpa [Str.length] using hl
    have ht : (if (x.cps.all fun c => decide (c < 128)) = true then x.cps.toList else Unicode.numberText x.cps.toList) = x.cps.toList := if_pos hlt
    repeat (any_goals (first
      | assumption
      | ((with_reducible show wpAny _ _ ((int_private% "intFromText") _ _ _) _ _ _); refine wp_text16 (by rw [ht]; exact h) (by rw [ht]; exact hne) (by rw [ht]; exact hl') ?_)
      | wp_step))
    rw [ht]
    exact ⟨_,rfl,hq⟩
theorem args_oi3 (a b c : Value) : argsOk "object.__init__" ⟨[a,b,c],[]⟩ := by unfold argsOk; kernel_rfl
section
variable {C : Cx} {d : Nat} {e : Env} {st : St}
theorem Ap_int16 {l : List Nat} {Q : V → St → Prop} (h : l.all isHex = true) (hne : l ≠ []) (hl : l.length ≤ 640) (hq : Q (.int (hexVal l)) st) : Ap C d e (.raw (.type "int")) [.str l,.int ((16 : Nat) : Int)] st Q := by
  intro A kp B σ s fv vals hA hS hf hv
  have hf : fv = .type "int" := hf
  obtain ⟨_,_,rfl,⟨x,t,rfl,hx⟩,⟨u,rfl⟩⟩ := RelL2 hv
  subst hf
  have hlen := str_len hx
  subst hx
  exact callType_new F.called_int F.newNe_int (typeCall_int_2 _ _) (newCall_int_2 _ _) (fun obj => args_oi3 obj _ _) F.entry_int_new (gives_text16 h hne (by (first|lia -abstractProof|omega))).meets
    (show (Made.int _).post _ s from ⟨rfl,Post.here (hS.toks _ _) (Rel_int rfl) hq⟩)

end
section
variable {C : Cx} {d : Nat} {e : Env} {st : St}
theorem Ap_appendS {hp : List AObj} {vars : List (Str × V)} {cs : List (List Nat)} {x : List Nat} {Q : V → St → Prop} (h : Q .none ⟨vars,hp ++ [.list ((cs ++ [x]).map V.str)]⟩) (hz : cs.length ≤ 16777216) : Ap C d e (.raw (.builtin "list.append")) [.own hp.length,.str x] ⟨vars,hp ++ [.list (cs.map V.str)]⟩ Q :=
  Ap_appendL (by rw [map_snoc]; exact h) (by rw [List.length_map]; exact hz)
theorem Ap_joinS {hp : List AObj} {vars : List (Str × V)} {cs : List (List Nat)} {Q : V → St → Prop} (h : Q (.str cs.flatten) ⟨vars,hp ++ [.list (cs.map V.str)]⟩) (hz : cs.flatten.length ≤ 16777216) : Ap C d e (.raw (.builtin "str.join")) [.str [],.own hp.length] ⟨vars,hp ++ [.list (cs.map V.str)]⟩ Q :=
  Ap_joinL h (strsOf_map cs) hz
end
section
variable {C : Cx} {d : Nat} {e : Env} {st : St}
theorem G_tf {t : Sem Flow} {Q : AF → St → Prop} (h : TF C d e t st Q) : TF C d e t st Q := h
theorem G_tv {t : Sem Value} {Q : V → St → Prop} (h : TV C d e t st Q) : TV C d e t st Q := h
theorem G_tb {t : Sem Bool} {Q : Bool → St → Prop} (h : TB C d e t st Q) : TB C d e t st Q := h
theorem G_ti {b : Bool} {A B : Prop} (h : if b = true then A else B) : if b = true then A else B := h
theorem G_ta {pos : Pos} {args : List Expr} {Q : List V → St → Prop} (h : TA C d e pos args st Q) : TA C d e pos args st Q := h
theorem G_tc {op : CmpOp} {a b : V} {Q : Bool → St → Prop} (h : Cmp C d e op a b st Q) : Cmp C d e op a b st Q := h
theorem G_tn {f : Value → Value → Sem Value} {a b : V} {Q : V → St → Prop} (h : Bin C d e f a b st Q) : Bin C d e f a b st Q := h
theorem G_tp {f : V} {args : List V} {Q : V → St → Prop} (h : Ap C d e f args st Q) : Ap C d e f args st Q := h
end
theorem in2 {c a b : Nat} : ([[a],[b]] : List (List Nat)).contains [c] = true ↔ (c = a ∨ c = b) := by
  rw [show ([[a],[b]] : List (List Nat)).contains [c] = [a,b].contains c from contains1 (c := c) (cs := [a,b]),List.contains_iff_mem]; simp
theorem ite_in2 {l : List Nat} {i a b : Nat} {A B : Prop} (h1 : i < l.length ∧ (ch l i = a ∨ ch l i = b) → A) (h2 : ¬ (i < l.length ∧ (ch l i = a ∨ ch l i = b)) → B) : if ([[a],[b]] : List (List Nat)).contains (cut l i (i + 1)) = true then A else B :=
  ite_cutin (fun p q => h1 ⟨p,in2.mp q⟩) (fun p => h2 fun q => p ⟨q.1,in2.mpr q.2⟩) rfl
section
variable {C : Cx} {d : Nat} {e : Env} {st : St}
noncomputable def J (R : St → Prop) (Q : AF → St → Prop) : AF → St → Prop
  | .next,st => R st
  | .brk,st => Q .brk st
  | .cont,st => Q .cont st
  | .ret v,st => Q (.ret v) st
theorem J_next {R : St → Prop} {Q : AF → St → Prop} (h : R st) : J R Q .next st := h
theorem S_J {x : Stmt} {r : List Stmt} (R : St → Prop) {Q : AF → St → Prop} (h : TF C d e (exec x e) st (J R Q)) (k : ∀ st₁,R st₁ → TF C d e (execs r e) st₁ Q) : TF C d e (execs (x :: r) e) st Q :=
  T_cons (T.mono h fun f st₁ q => by
    cases f with
    | next => exact k st₁ q
    | _ => exact q)
end
section
variable {C : Cx} {d : Nat} {e : Env} {st : St}
theorem Truth_nat {n : Nat} {Q : Bool → St → Prop} (h : Q (n != 0) st) : Truth C d e (.int (n : Int)) st Q := by
  rintro A kp B σ s va hA hS ⟨t,rfl⟩
  refine PyProof.Rows.truthy_int (Post.here hS rfl ?_)
  have : ((n : Int) != 0) = (n != 0) := by rw [Bool.eq_iff_iff]; simp
  rw [this]; exact h
theorem ite_ne0 {n : Nat} {A B : Prop} (h1 : n ≠ 0 → A) (h2 : n = 0 → B) : if (n != 0) = true then A else B := by
  by_cases h : n = 0
  · simpa [h] using h2 h
  · simpa [h] using h1 h
end
section
variable {C : Cx} {d : Nat} {e : Env} {st : St}
structure ZK (C : Cx) (d : Nat) (e : Env) (I : Nat → St → Prop) (n : Nat) (r : List Stmt) (Q Z : AF → St → Prop) : Prop where
  nx : ∀ m st,m < n → I m st → Z .next st
  ct : ∀ m st,m < n → I m st → Z .cont st
  br : ∀ st,TF C d e (execs r e) st Q → Z .brk st
  re : ∀ v st,Q (.ret v) st → Z (.ret v) st
theorem S_Z {test : Expr} {body orelse r : List Stmt} {pos : Pos} {Q : AF → St → Prop} (I : Nat → St → Prop) (n : Nat) (h : I n st)
    (turn : ∀ n st₁ Z,ZK C d e I n r Q Z → I n st₁ → TB C d e (isTrue test e (eval test e)) st₁ fun b st₂ => if b = true then TF C d e (execs body e) st₂ Z else TF C d e (execs orelse e) st₂ (K C d e r Q)) : TF C d e (execs (.While test body orelse pos :: r) e) st Q :=
  S_W I n h fun n st₁ hI => turn n st₁ (WK C d e I n r Q) ⟨fun m st hm hi => ⟨m,hm,hi⟩,fun m st hm hi => ⟨m,hm,hi⟩,fun st q => q,fun v st q => q⟩ hI
end
end
section
section
variable {C : Cx} {d : Nat} {e : Env} {st : St}
theorem U_name {x : Str} {pos : Pos} {Q : V → St → Prop} (h : TV C d e (eval (.Name x pos) e) st Q) : TV C d e (eval (.Name x pos) e) st Q := h
theorem U_str {x : String} {k : Nat} {pos : Pos} {Q : V → St → Prop} (h : TV C d e (eval (.Constant (.str (oS x)) k pos) e) st Q) : TV C d e (eval (.Constant (.str (oS x)) k pos) e) st Q := h
theorem U_call {x : Str} {np pos : Pos} {args : List Expr} {Q : V → St → Prop} (h : TV C d e (eval (.Call (.Name x np) args [] pos) e) st Q) : TV C d e (eval (.Call (.Name x np) args [] pos) e) st Q := h
theorem U_meth (m : String) {o : Expr} {apos pos : Pos} {args : List Expr} {Q : V → St → Prop} (h : TV C d e (eval (.Call (.Attribute o (oS m) apos) args [] pos) e) st Q) : TV C d e (eval (.Call (.Attribute o (oS m) apos) args [] pos) e) st Q := h
theorem U_sl2 {value x y : Expr} {p pos : Pos} {Q : V → St → Prop} (h : TV C d e (eval (.Subscript value (.Slice (some x) (some y) none p) pos) e) st Q) : TV C d e (eval (.Subscript value (.Slice (some x) (some y) none p) pos) e) st Q := h
theorem U_sub {value x : Expr} {pos : Pos} {Q : V → St → Prop} (h : TV C d e (eval (.Subscript value x pos) e) st Q) : TV C d e (eval (.Subscript value x pos) e) st Q := h
theorem U_as1 {t value : Expr} {r : List Stmt} {pos : Pos} {Q : AF → St → Prop} (h : TF C d e (execs (.Assign [t] value pos :: r) e) st Q) : TF C d e (execs (.Assign [t] value pos :: r) e) st Q := h
theorem U_as2 {t u value : Expr} {r : List Stmt} {pos : Pos} {Q : AF → St → Prop} (h : TF C d e (execs (.Assign [t,u] value pos :: r) e) st Q) : TF C d e (execs (.Assign [t,u] value pos :: r) e) st Q := h
theorem U_exp {value : Expr} {r : List Stmt} {pos : Pos} {Q : AF → St → Prop} (h : TF C d e (execs (.Expr value pos :: r) e) st Q) : TF C d e (execs (.Expr value pos :: r) e) st Q := h
theorem U_aug {x : Str} {npos pos : Pos} {op : Operator} {value : Expr} {r : List Stmt} {Q : AF → St → Prop} (h : TF C d e (execs (.AugAssign (.Name x npos) op value pos :: r) e) st Q) : TF C d e (execs (.AugAssign (.Name x npos) op value pos :: r) e) st Q := h
theorem U_asg {x : Str} {pos : Pos} {v : V} {vars : List (Str × V)} {hp : List AObj} {Q : St → Prop} (h : Asg C d e (.Name x pos) v ⟨vars,hp⟩ Q) : Asg C d e (.Name x pos) v ⟨vars,hp⟩ Q := h
theorem U_sto {x : Str} {v : V} {vars : List (Str × V)} {hp : List AObj} {Q : St → Prop} (h : Sto x v ⟨vars,hp⟩ Q) : Sto x v ⟨vars,hp⟩ Q := h
theorem U_new {vs : List V} {vars : List (Str × V)} {hp : List AObj} {Q : V → St → Prop} (h : NewL vs ⟨vars,hp⟩ Q) : NewL vs ⟨vars,hp⟩ Q := h
theorem U_ich {l : List Nat} {i : Nat} {Q : V → St → Prop} (h : Item C d e (.str l) (.int (i : Int)) st Q) : Item C d e (.str l) (.int (i : Int)) st Q := h
theorem U_itu {l : List V} {i : Nat} {Q : V → St → Prop} (h : Item C d e (.tup l) (.int (i : Int)) st Q) : Item C d e (.tup l) (.int (i : Int)) st Q := h
theorem U_fn (i : Nat) {args : List V} {Q : V → St → Prop} (h : Ap C d e (.fn i) args st Q) : Ap C d e (.fn i) args st Q := h
theorem U_cls (i : Nat) {args : List V} {Q : V → St → Prop} (h : Ap C d e (.cls i) args st Q) : Ap C d e (.cls i) args st Q := h
theorem U_raw (s : String) {args : List V} {Q : V → St → Prop} (h : Ap C d e (.raw (.builtin s)) args st Q) : Ap C d e (.raw (.builtin s)) args st Q := h
theorem U_acons {x : Expr} {r : List Expr} {pos : Pos} {Q : List V → St → Prop} (h : TA C d e pos (x :: r) st Q) : TA C d e pos (x :: r) st Q := h
theorem U_cmp {l r : Expr} {op : CmpOp} {pos : Pos} {Q : V → St → Prop} (h : TV C d e (eval (.Compare l [op] [r] pos) e) st Q) : TV C d e (eval (.Compare l [op] [r] pos) e) st Q := h
theorem U_bc1 {l r : Expr} {op : CmpOp} {pos : Pos} {whole : Sem Value} {Q : Bool → St → Prop} (h : TB C d e (isTrue (.Compare l [op] [r] pos) e whole) st Q) : TB C d e (isTrue (.Compare l [op] [r] pos) e whole) st Q := h
theorem U_bc2 {l r r₂ : Expr} {op op₂ : CmpOp} {pos : Pos} {whole : Sem Value} {Q : Bool → St → Prop} (h : TB C d e (isTrue (.Compare l [op,op₂] [r,r₂] pos) e whole) st Q) : TB C d e (isTrue (.Compare l [op,op₂] [r,r₂] pos) e whole) st Q := h
theorem U_atup {elts : List Expr} {k : Nat} {pos : Pos} {vs : List V} {Q : St → Prop} (h : Asg C d e (.Tuple elts k pos) (.tup vs) st Q) : Asg C d e (.Tuple elts k pos) (.tup vs) st Q := h
theorem U_cin {l : List Nat} {xs : List V} {Q : Bool → St → Prop} (h : Cmp C d e .In (.str l) (.tup xs) st Q) : Cmp C d e .In (.str l) (.tup xs) st Q := h
theorem U_swT {l : List Nat} {xs : List V} {i : Nat} {Q : V → St → Prop} (h : Ap C d e (.raw (.builtin "str.startswith")) [.str l,.tup xs,.int i] st Q) : Ap C d e (.raw (.builtin "str.startswith")) [.str l,.tup xs,.int i] st Q := h
end
theorem U_ex2 {α β : Sort _} {p : α → β → Prop} (h : ∃ a b,p a b) : ∃ a b,p a b := h
theorem U_ex1 {α : Sort _} {p : α → Prop} (h : ∃ a,p a) : ∃ a,p a := h
end
section
section
variable {C : Cx} {kp B : Base} {σ : List Addr} {e : Env} {st : St} {s s' : Shared} {hp : List AObj} {x : Addr} {o o' : Obj}
theorem put_ne {kp : Base} {a x : Addr} {o : Obj} (h : a ≠ x) : kp.put x o a = kp a := by simp only [Base.put,if_neg h]
theorem put_none {kp : Base} {a x : Addr} {o : Obj} (h : kp.put x o a = none) : a ≠ x ∧ kp a = none := by
  by_cases q : a = x
  · rw [q,Base.put_self] at h; cases h
  · exact ⟨q,by rw [put_ne q] at h; exact h⟩
theorem G.keep (hG : G C kp B σ hp s) (hb : B x = none) (ho : ∀ (i : Nat) (ao : AObj),σ[i]? = some x → hp[i]? = some ao → ¬ ao.live) (hx : s.heap.get? x = some o) : G C (kp.put x o) B σ hp s where
  tk := hG.tk
  ok := hG.ok
  bh := hG.bh
  b0 := hG.b0
  kh := fun a o' ea => by
    by_cases q : a = x
    · subst q; rw [Base.put_self] at ea; cases ea; exact ⟨hx,hb⟩
    · rw [put_ne q] at ea; exact hG.kh a o' ea
  len := hG.len
  own := fun i a ao h1 h2 h3 => by
    obtain ⟨g1,g2,g3,g4⟩ := hG.own i a ao h1 h2 h3
    have q : a ≠ x := fun q => ho i ao (q ▸ h1) h2 h3
    exact ⟨by rw [put_ne q]; exact g1,g2,g3,g4⟩
  inj := hG.inj
  gens := hG.gens
  os := hG.os
theorem G.kept (hG : G C (kp.put x o) B σ hp s) : s.heap.get? x = some o ∧ B x = none := hG.kh x o Base.put_self
theorem G.kown (hG : G C (kp.put x o) B σ hp s) : ∀ (i : Nat) (ao : AObj),σ[i]? = some x → hp[i]? = some ao → ¬ ao.live := fun i ao h1 h2 h3 => (put_none (hG.own i x ao h1 h2 h3).1).1 rfl
theorem G.unkeep (hk : kp x = none) (hG : G C (kp.put x o) B σ hp s) : G C kp B σ hp s where
  tk := hG.tk
  ok := hG.ok
  bh := hG.bh
  b0 := hG.b0
  kh := fun a o' ea => by
    have q : a ≠ x := fun q => by rw [q,hk] at ea; cases ea
    exact hG.kh a o' (by rw [put_ne q]; exact ea)
  len := hG.len
  own := fun i a ao h1 h2 h3 => by
    obtain ⟨g1,g2,g3,g4⟩ := hG.own i a ao h1 h2 h3
    exact ⟨(put_none g1).2,g2,g3,g4⟩
  inj := hG.inj
  gens := hG.gens
  os := hG.os
theorem G.drop (hk : kp x = none) (hG : G C (kp.put x o) B σ hp s) (k : ∀ b o,b ≠ x → s.heap.get? b = some o → s'.heap.get? b = some o) (hg : AllBare s'.gens) (hos : s'.os = s.os) (htk : s.toks ≤ s'.toks) : G C kp B σ hp s' :=
  (hG.unkeep hk).but hk hG.kept.2 hG.kown k hg hos htk
theorem G.rekeep (hk : kp x = none) (hG : G C (kp.put x o) B σ hp s) (k : ∀ b o,b ≠ x → s.heap.get? b = some o → s'.heap.get? b = some o) (hx : s'.heap.get? x = some o') (hg : AllBare s'.gens) (hos : s'.os = s.os) (htk : s.toks ≤ s'.toks) : G C (kp.put x o') B σ hp s' :=
  (hG.drop hk k hg hos htk).keep hG.kept.2 hG.kown hx
theorem L.keep (hL : L C kp B σ e st s) (hx : x ∉ privs e) : L C (kp.put x o) B σ e st s :=
  ⟨hL.fn,hL.glob,hL.bi,hL.nodup,hL.ns,hL.kinds,hL.cells,fun a ha => ⟨by rw [put_ne fun q => hx (by rw [← q]; exact ha)]; exact (hL.priv a ha).1,(hL.priv a ha).2⟩,hL.apart,hL.alive⟩
theorem L.unkeep (hL : L C (kp.put x o) B σ e st s) : L C kp B σ e st s :=
  ⟨hL.fn,hL.glob,hL.bi,hL.nodup,hL.ns,hL.kinds,hL.cells,fun a ha => ⟨(put_none (hL.priv a ha).1).2,(hL.priv a ha).2⟩,hL.apart,hL.alive⟩
theorem L.kpriv (hL : L C (kp.put x o) B σ e st s) : x ∉ privs e := fun q => (put_none (hL.priv x q).1).1 rfl
theorem S.keep (hS : S C kp B σ e st s) (F : Free C kp B σ e st.hp x) (hx : s.heap.get? x = some o) : S C (kp.put x o) B σ e st s := ⟨hS.g.keep F.b F.own hx,hS.l.keep F.priv⟩
theorem S.drop (hk : kp x = none) (hS : S C (kp.put x o) B σ e st s) (k : ∀ b o,b ≠ x → s.heap.get? b = some o → s'.heap.get? b = some o) (hg : AllBare s'.gens) (hos : s'.os = s.os) (htk : s.toks ≤ s'.toks) : S C kp B σ e st s' :=
  ⟨hS.g.drop hk k hg hos htk,hS.l.unkeep.but hS.l.kpriv k⟩
theorem S.rekeep (hk : kp x = none) (hS : S C (kp.put x o) B σ e st s) (k : ∀ b o,b ≠ x → s.heap.get? b = some o → s'.heap.get? b = some o) (hx : s'.heap.get? x = some o') (hg : AllBare s'.gens) (hos : s'.os = s.os) (htk : s.toks ≤ s'.toks) : S C (kp.put x o') B σ e st s' :=
  ⟨hS.g.rekeep hk k hx hg hos htk,(hS.l.unkeep.but hS.l.kpriv k).keep hS.l.kpriv⟩
theorem S.unkeep (hk : kp x = none) (hS : S C (kp.put x o) B σ e st s) : S C kp B σ e st s := ⟨hS.g.unkeep hk,hS.l.unkeep⟩
theorem S.kfree (hk : kp x = none) (hS : S C (kp.put x o) B σ e st s) : Free C kp B σ e st.hp x := ⟨hk,hS.g.kept.2,hS.g.kown,hS.l.kpriv⟩
end

structure Iter (C : Cx) (I : Addr) (xs : List V) (B₀ : Base) (σ₀ : List Addr) (R : List AObj → Prop) (At : Nat → Obj → Prop) : Prop where
  next : ∀ {A : Around} {kp B : Base} {σ : List Addr} {hp : List AObj} {s : Shared} {i : Nat} {o : Obj} {x : V} {Q : Option Value → Shared → Prop} {E : Value → Shared → Prop},A.handled = none → G C kp B σ hp s → Sub B₀ B → σ₀ <+: σ → R hp → s.heap.get? I = some o → At i o → xs[i]? = some x →
    (∀ v h' o' tk,Rel C B σ x v → s.toks ≤ tk → h'.get? I = some o' → At (i + 1) o' → (∀ b o,b ≠ I → s.heap.get? b = some o → h'.get? b = some o) → Q (some v) { s with heap := h',toks := tk }) → wpAny (model P C.w) A (pyNext (.ref I)) Q E s
  stop : ∀ {A : Around} {kp B : Base} {σ : List Addr} {hp : List AObj} {s : Shared} {o : Obj} {Q : Option Value → Shared → Prop} {E : Value → Shared → Prop},A.handled = none → G C kp B σ hp s → Sub B₀ B → σ₀ <+: σ → R hp → s.heap.get? I = some o → At xs.length o →
    (∀ h' tk,s.toks ≤ tk → (∀ b o,b ≠ I → s.heap.get? b = some o → h'.get? b = some o) → Q none { s with heap := h',toks := tk }) → wpAny (model P C.w) A (pyNext (.ref I)) Q E s
  self : ∀ {A : Around} {s : Shared} {i : Nat} {o : Obj} {Q : Value → Shared → Prop} {E : Value → Shared → Prop},s.heap.get? I = some o → At i o → Q (.ref I) s → wpAny (model P C.w) A (pyIter (.ref I)) Q E s
  cls : ∀ {i : Nat} {o : Obj},At i o → ∃ n,o.cls = .type n ∧ (["enumerate","zip","dict_itemiterator","dict_reverseitemiterator","odict_iterator","itertools.zip_longest","itertools.pairwise"].contains n) = false

theorem Iter.go {C : Cx} {I : Addr} {xs : List V} {B₀ : Base} {σ₀ : List Addr} {R : List AObj → Prop} {At : Nat → Obj → Prop} (T : Iter C I xs B₀ σ₀ R At) {A : Around} {s : Shared} {i : Nat} {o : Obj} {target : Expr} {v : Value} {Q : Unit → Shared → Prop} {E : Value → Shared → Prop}
    (ho : s.heap.get? I = some o) (hA : At i o) (hq : Q () s) : wpAny (model P C.w) A (letOwnedTupleGo target (.ref I) v) Q E s := by
  obtain ⟨n,hc,hn⟩ := T.cls hA
  have go : ∀ a : Addr,wpAny (model P C.w) A (do
    let o ← load I
    match o.cls,o.data with
    | .type n,.fields vs =>
      if ["enumerate","zip","dict_itemiterator","dict_reverseitemiterator","odict_iterator","itertools.zip_longest","itertools.pairwise"].contains n && vs[0]? == some (rawInt a) then
        rule "for.unpacks-the-owned-tuple"
        updateField I 0 .none
    | _,_ => pure ()) Q E s := fun a => by
    refine wpAny_bind (wpAny_load ho ?_)
    rw [hc]
    cases o.data <;> first
      | exact wpAny_pure hq
      | (dsimp only; rw [hn,Bool.false_and]; exact wpAny_pure hq)
  unfold letOwnedTupleGo
  split
  · cases v <;> first
      | exact wpAny_pure hq
      | exact go _
  · cases v <;> first
      | exact wpAny_pure hq
      | exact go _
  · exact wpAny_pure hq

theorem Iter.of {C : Cx} {Y : Type} {I : Addr} {xs : List V} {B₀ : Base} {σ₀ : List Addr} {R : List AObj → Prop} (It : Nat → Heap → Prop) (fp : List Addr) (PI : Y → Nat → Value → Prop) (StY : Y → Nat → Heap → Prop)
    (W : ∀ (A : Around) (y : Y),A.handled = none → Walks P C.w A I fp [I] xs.length (PI y) (StY y))
    (hIt : ∀ i (h h' : Heap) o,It i h → h.get? I = some o → h'.get? I = some o → It i h')
    (hIo : ∀ i h,It i h → ∃ o,h.get? I = some o)
    (hst : ∀ kp B σ hp s i,G C kp B σ hp s → Sub B₀ B → σ₀ <+: σ → R hp → It i s.heap → ∃ y,StY y i s.heap ∧ (∀ v x,PI y i v → xs[i]? = some x → Rel C B σ x v))
    (hback : ∀ y i h,StY y i h → It i h)
    (hcls : ∀ i (h : Heap) o,It i h → h.get? I = some o → ∃ n,o.cls = .type n ∧ (["enumerate","zip","dict_itemiterator","dict_reverseitemiterator","odict_iterator","itertools.zip_longest","itertools.pairwise"].contains n) = false)
    (hself : ∀ (A : Around) i (s : Shared) (Q : Value → Shared → Prop) (E : Value → Shared → Prop),It i s.heap → Q (.ref I) s → wpAny (model P C.w) A (pyIter (.ref I)) Q E s) :
    Iter C I xs B₀ σ₀ R (fun i o => ∃ h : Heap,h.get? I = some o ∧ It i h) where
  next := fun {A kp B σ hp s i o x Q E} hA hG hB hσ hR ho hAt hx hq => by
    obtain ⟨h₀,h1,h2⟩ := hAt
    have hI : It i s.heap := hIt i h₀ s.heap o h2 h1 ho
    obtain ⟨y,g1,g2⟩ := hst kp B σ hp s i hG hB hσ hR hI
    refine wpAny_with_toks (Nat.le_refl s.toks) ((W A y hA).item i s _ _ (List.getElem?_eq_some_iff.mp hx).1 g1 fun v h' tk hP hS' hk htk => ?_)
    obtain ⟨o',ho'⟩ := hIo _ _ (hback y _ _ hS')
    exact hq v h' o' tk (g2 v x hP hx) htk ho' ⟨h',ho',hback y _ _ hS'⟩ (fun b o hb e => hk b o (by simpa using hb) e)
  stop := fun {A kp B σ hp s o Q E} hA hG hB hσ hR ho hAt hq => by
    obtain ⟨h₀,h1,h2⟩ := hAt
    have hI : It xs.length s.heap := hIt _ h₀ s.heap o h2 h1 ho
    obtain ⟨y,g1,g2⟩ := hst kp B σ hp s _ hG hB hσ hR hI
    exact wpAny_with_toks (Nat.le_refl s.toks) ((W A y hA).done s _ _ g1 fun h' tk hk htk => hq h' tk htk (fun b o hb e => hk b o (by simpa using hb) e))
  self := fun {A s i o Q E} ho ⟨h₀,h1,h2⟩ hq => hself A i s Q E (hIt i h₀ s.heap o h2 h1 ho) hq
  cls := fun {i o} ⟨h₀,h1,h2⟩ => hcls i h₀ o h2 h1

noncomputable def ItV (C : Cx) (v : V) (hp : List AObj) (xs : List V) (R : List AObj → Prop) : Prop :=
  ∀ {A : Around} {kp B : Base} {σ : List Addr} {s : Shared} {va : Value} {Q : Value → Shared → Prop} {E : Value → Shared → Prop},A.handled = none → G C kp B σ hp s → Rel C B σ v va →
    (∀ I o At h',s.heap.get? I = none → h'.get? I = some o → At 0 o → Iter C I xs B σ R At → (∀ b o,s.heap.get? b = some o → h'.get? b = some o) → Q (.ref I) { s with heap := h' }) → wpAny (model P C.w) A (pyIter va) Q E s
section
variable {C : Cx} {hp : List AObj}
theorem sizeXs {xs : List V} {items : Array Value} {B : Base} {σ : List Addr} (h : RelL C B σ xs items.toList) : items.size = xs.length := by have := RelL.length h; simpa using this
theorem itList {I ax : Addr} {xs : List V} {B₀ : Base} {σ₀ : List Addr} {R : List AObj → Prop} (hne : ax ≠ I)
    (hst : ∀ kp B σ hp s,G C kp B σ hp s → Sub B₀ B → σ₀ <+: σ → R hp → ∃ items : Array Value,s.heap.IsList ax items ∧ RelL C B σ xs items.toList) :
    Iter C I xs B₀ σ₀ R (fun i o => ∃ h : Heap,h.get? I = some o ∧ h.IsListIter I ax i) := by
  refine Iter.of (Y := { items : Array Value // items.size = xs.length }) (fun i h => h.IsListIter I ax i) [I,ax] (fun y i v => y.1[i]? = some v) (fun y i h => h.IsListIter I ax i ∧ h.IsList ax y.1)
    (fun A y hA => by have := Walks.list (prog := P) (w := C.w) hA I ax hne y.1; rw [y.2] at this; exact this) ?_ ?_ ?_ (fun y i h q => q.1) ?_ ?_
  · rintro i h h' o ⟨o',h1,h2⟩ h3 h4
    rw [h1] at h3; cases h3; exact ⟨o,h4,h2⟩
  · rintro i h ⟨o,h1,_⟩; exact ⟨o,h1⟩
  · intro kp B σ hp s i hG hB hσ hR hI
    obtain ⟨items,h1,h2⟩ := hst kp B σ hp s hG hB hσ hR
    refine ⟨⟨items,sizeXs h2⟩,⟨hI,h1⟩,fun v x hv hx => ?_⟩
    obtain ⟨u,h3,h4⟩ := RelL.get h2 hx
    rw [Array.getElem?_toList] at h3
    rw [h3] at hv; cases hv; exact h4
  · rintro i h o ⟨o',h1,h2,_⟩ h3
    rw [h1] at h3; cases h3; exact ⟨_,h2,by decide⟩
  · intro A i s Q E hI hq; exact wpAny_pyIter_listiter hI hq
theorem itv_own {k : Nat} {xs : List V} (hk : hp[k]? = some (.list xs)) : ItV C (.own k) hp xs (fun hp => hp[k]? = some (.list xs)) := by
  rintro A kp B σ s va Q E hA hG ⟨a,rfl,ha⟩ hq
  obtain ⟨_,_,_,items,n,g1,g2⟩ := hG.own k a _ ha hk trivial
  refine wpAny_pyIter_list ⟨_,g1,rfl,n,rfl⟩ ?_
  have hne : a ≠ s.heap.objs.size := fun q => by rw [q,get_none_size] at g1; cases g1
  refine hq _ _ _ _ (get_none_size _) (Heap.get?_push_size _ rfl) ⟨_,Heap.get?_push_size _ rfl,⟨_,Heap.get?_push_size _ rfl,rfl,rfl⟩⟩ (itList hne fun kp' B' σ' hp' s' hG' hB hσ hR => ?_) (fun b o e => Heap.get?_push_of_some _ e)
  obtain ⟨r,rfl⟩ := hσ
  have ha' : (σ ++ r)[k]? = some a := by rw [List.getElem?_append_left (List.getElem?_eq_some_iff.mp ha).1]; exact ha
  obtain ⟨_,_,_,items',n',g1',g2'⟩ := hG'.own k a _ ha' hR trivial
  exact ⟨items',⟨_,g1',rfl,n',rfl⟩,g2'⟩
theorem sign_rel {x : Str} {l : List Nat} (hx : x.cps.toList = l) {i : Nat} {v : Value} {y : V} {B : Base} {σ : List Addr} (h : SignAt x i v) (hy : (l.map fun c => V.str [c])[i]? = some y) : Rel C B σ y v := by
  obtain ⟨c,u,h1,rfl⟩ := h
  subst hx
  rw [List.getElem?_map,Array.getElem?_toList,h1] at hy
  cases hy
  exact ⟨_,_,rfl,rfl⟩
theorem itv_str {l : List Nat} : ItV C (.str l) hp (l.map fun c => V.str [c]) (fun _ => True) := by
  rintro A kp B σ s va Q E hA hG ⟨x,t,rfl,hx⟩ hq
  have hn : x.cps.size = (l.map fun c => V.str [c]).length := by rw [← hx]; simp
  cases ha : x.cps.all (· < 128)
  · refine wpAny_pyIter_wide ha ?_
    refine hq _ _ (fun i o => ∃ h : Heap,h.get? s.heap.objs.size = some o ∧ h.IsStrIter s.heap.objs.size "str_iterator" x t i) _ (get_none_size _) (Heap.get?_push_size _ rfl) ⟨_,Heap.get?_push_size _ rfl,⟨_,Heap.get?_push_size _ rfl,rfl,rfl⟩⟩ ?_ (fun b o e => Heap.get?_push_of_some _ e)
    refine Iter.of (Y := Unit) (fun i h => h.IsStrIter s.heap.objs.size "str_iterator" x t i) [s.heap.objs.size] (fun y i v => SignAt x i v) (fun y i h => h.IsStrIter s.heap.objs.size "str_iterator" x t i)
      (fun A y hA => by have := Walks.strWide (prog := P) (w := C.w) hA s.heap.objs.size x t; rw [hn] at this; exact this) ?_ ?_ ?_ (fun y i h q => q) ?_ ?_
    · rintro i h h' o ⟨o',h1,h2⟩ h3 h4
      rw [h1] at h3; cases h3; exact ⟨o,h4,h2⟩
    · rintro i h ⟨o,h1,_⟩; exact ⟨o,h1⟩
    · intro kp' B' σ' hp' s' i hG' hB hσ hR hI
      exact ⟨(),hI,fun v y hv hy => sign_rel hx hv hy⟩
    · rintro i h o ⟨o',h1,h2,_⟩ h3
      rw [h1] at h3; cases h3; exact ⟨_,h2,by decide⟩
    · intro A i s Q E hI hq; exact wpAny_pyIter_striter_wide hI hq
  · refine wpAny_pyIter_ascii ha ?_
    refine hq _ _ (fun i o => ∃ h : Heap,h.get? s.heap.objs.size = some o ∧ h.IsStrIter s.heap.objs.size "str_ascii_iterator" x t i) _ (get_none_size _) (Heap.get?_push_size _ rfl) ⟨_,Heap.get?_push_size _ rfl,⟨_,Heap.get?_push_size _ rfl,rfl,rfl⟩⟩ ?_ (fun b o e => Heap.get?_push_of_some _ e)
    refine Iter.of (Y := Unit) (fun i h => h.IsStrIter s.heap.objs.size "str_ascii_iterator" x t i) [s.heap.objs.size] (fun y i v => SignAt x i v) (fun y i h => h.IsStrIter s.heap.objs.size "str_ascii_iterator" x t i)
      (fun A y hA => by have := Walks.strAscii (prog := P) (w := C.w) hA s.heap.objs.size x t; rw [hn] at this; exact this) ?_ ?_ ?_ (fun y i h q => q) ?_ ?_
    · rintro i h h' o ⟨o',h1,h2⟩ h3 h4
      rw [h1] at h3; cases h3; exact ⟨o,h4,h2⟩
    · rintro i h ⟨o,h1,_⟩; exact ⟨o,h1⟩
    · intro kp' B' σ' hp' s' i hG' hB hσ hR hI
      exact ⟨(),hI,fun v y hv hy => sign_rel hx hv hy⟩
    · rintro i h o ⟨o',h1,h2,_⟩ h3
      rw [h1] at h3; cases h3; exact ⟨_,h2,by decide⟩
    · intro A i s Q E hI hq; exact wpAny_pyIter_striter_ascii hI hq
end
end
section
section
variable {C : Cx} {hp : List AObj}
noncomputable def rngL (a c : Int) (n : Nat) : List V := (List.range n).map fun (i : Nat) => V.int (a + (i : Int) * c)
theorem itv_rng {a b c : Int} {n : Nat} (hs : Builtin.Range.small a b c = true) (hn : Builtin.Range.rangeSize a b c = (n : Int)) : ItV C (.rng a b c) hp (rngL a c n) (fun _ => True) := by
  rintro A kp B σ s va Q E hA hG ⟨r,t,u,w,rfl,h1⟩ hq
  have g1 := hG.bh _ _ h1
  refine wpAny_pyIter_range g1 hs ?_
  have hlen : (rngL a c n).length = n := by unfold rngL; simp
  refine hq _ _ (fun i o => ∃ h : Heap,h.get? s.heap.objs.size = some o ∧ IsRangeIter h s.heap.objs.size (a + (i : Nat) * c) ((n : Int) - (i : Nat)) c) _ (get_none_size _) (Heap.get?_push_size _ rfl) ⟨_,Heap.get?_push_size _ rfl,?_⟩ ?_ (fun b o e => Heap.get?_push_of_some _ e)
  · rw [IsRangeIter,Heap.get?_push_size _ rfl,hn]
    simp
  · refine Iter.of (Y := Unit) (fun i h => IsRangeIter h s.heap.objs.size (a + (i : Nat) * c) ((n : Int) - (i : Nat)) c) [s.heap.objs.size] (fun y i v => ∃ t,v = .int (a + i * c) t) (fun y i h => IsRangeIter h s.heap.objs.size (a + (i : Nat) * c) ((n : Int) - (i : Nat)) c)
      (fun A y hA => by rw [hlen]; exact Walks.range (prog := P) (w := C.w) hA s.heap.objs.size a c n) ?_ ?_ ?_ (fun y i h q => q) ?_ ?_
    · intro i h h' o h1 h2 h3
      have h1' : h.get? _ = some _ := h1
      rw [h2] at h1'; cases h1'; exact h3
    · intro i h h1; exact ⟨_,h1⟩
    · intro kp' B' σ' hp' s' i hG' hB hσ hR hI
      refine ⟨(),hI,fun v y hv hy => ?_⟩
      obtain ⟨t,rfl⟩ := hv
      unfold rngL at hy
      rw [List.getElem?_map] at hy
      obtain ⟨j,h4,h5⟩ := Option.map_eq_some_iff.mp hy
      obtain ⟨h6,h7⟩ := List.getElem?_eq_some_iff.mp h4
      rw [List.getElem_range] at h7
      subst h7; subst h5
      exact ⟨t,rfl⟩
    · intro i h o h1 h2
      have h1' : h.get? _ = some _ := h1
      rw [h2] at h1'; cases h1'; exact ⟨_,rfl,by decide⟩
    · intro A i s Q E hI hq; exact wpAny_pyIter_rangeiter hI hq
end

section
variable {C : Cx} {d : Nat} {e : Env} {st : St}
noncomputable def FK (C : Cx) (d : Nat) (e : Env) (Inv : Nat → St → Prop) (i : Nat) (r : List Stmt) (Q : AF → St → Prop) : AF → St → Prop
  | .next,st | .cont,st => Inv (i + 1) st
  | .brk,st => TF C d e (execs r e) st Q
  | .ret v,st => Q (.ret v) st
theorem FK_next {Inv : Nat → St → Prop} {i : Nat} {r : List Stmt} {Q : AF → St → Prop} (h : Inv (i + 1) st) : FK C d e Inv i r Q .next st := h
inductive FLp (C : Cx) (xs : List V) (At : Nat → Obj → Prop) (Inv : Nat → St → Prop) (B : Base) (σ : List Addr) (kp : Base) (I : Addr) (e : Env) (n : Nat) (s' : Shared) : Prop where
  | mk (B' : Base) (σ' : List Addr) (st' : St) (o' : Obj) (i : Nat) (h1 : n = xs.length - i) (h2 : i ≤ xs.length) (h3 : Sub B B') (h4 : σ <+: σ') (h5 : At i o') (h6 : Inv i st') (h7 : S C (kp.put I o') B' σ' e st' s')
theorem T_For {target iter : Expr} {body : List Stmt} {pos : Pos} {Q : AF → St → Prop}
    (h : TV C d e (eval iter e) st fun v st₁ => ∃ xs R,ItV C v st₁.hp xs R ∧ ∃ Inv : Nat → St → Prop,Inv 0 st₁ ∧ (∀ i st,Inv i st → R st.hp) ∧
      (∀ i x st₂,xs[i]? = some x → Inv i st₂ → Asg C d e target x st₂ fun st₃ => TF C d e (execs body e) st₃ (fun f st₄ => match f with | .next | .cont => Inv (i + 1) st₄ | .brk => Q .next st₄ | .ret v => Q (.ret v) st₄)) ∧
      (∀ st₂,Inv xs.length st₂ → Q .next st₂))
    (hs : ∀ x,foldedSetIterable iter e x = pure x := by intro _; rfl) : TF C d e (exec (.For target iter body [] pos) e) st Q := by
  intro A kp B σ s hA hS
  refine wpAny_For (wpAny_mono (h A kp B σ s hA hS) (fun va s₁ hp₁ => ?_) fun _ _ q => q.elim) hs
  obtain ⟨B₁,σ₁,v,st₁,hB₁,hσ₁,hS₁,hr,xs,R,hit,Inv,hI0,hIR,turn,fin⟩ := hp₁
  refine hit hA.1 hS₁.g hr fun I o At h' hI0' hIo hAt T keep => ?_
  have hS₂ : S C kp B₁ σ₁ e st₁ { s₁ with heap := h' } := hS₁.ext keep hS₁.g.gens rfl (Nat.le_refl _)
  have hF := Free.fresh hS₁ hI0'
  have hk : kp I = none := hF.kp
  have hS₃ := hS₂.keep (o := o) hF hIo
  clear hr hit keep hS₂ hS₁
  refine codeAny_forLoop_any (fun n s' => FLp C xs At Inv B₁ σ₁ kp I e n s') ?_ xs.length ⟨B₁,σ₁,st₁,o,0,rfl,Nat.zero_le _,Sub.refl _,List.prefix_refl _,hAt,hI0,hS₃⟩
  rintro n s' ⟨B',σ',st',o',i,rfl,hi,hB,hσ,hAt',hI',hS'⟩
  have hIo' := hS'.g.kept.1
  by_cases hlt : i < xs.length
  · obtain ⟨x,hx⟩ : ∃ x,xs[i]? = some x := ⟨xs[i],List.getElem?_eq_getElem hlt⟩
    refine T.next hA.1 hS'.g hB hσ (hIR _ _ hI') hIo' hAt' hx fun v' h₁ o₁ tk hv htk ho₁ hAt₁ keep₁ => ?_
    have hS₁ : S C (kp.put I o₁) B' σ' e st' { s' with heap := h₁,toks := tk } := hS'.rekeep hk keep₁ ho₁ hS'.g.gens rfl htk
    refine T.go (s := { s' with heap := h₁,toks := tk }) ho₁ hAt₁ ?_
    refine wpAny_mono (turn i x st' hx hI' A (kp.put I o₁) B' σ' _ v' hA hS₁ hv) (fun _ s₂ hp₂ => ?_) fun _ _ q => q.elim
    obtain ⟨B₂,σ₂,_,st₂,hB₂,hσ₂,hS₂,_,hf⟩ := hp₂
    refine wpAny_mono (hf A (kp.put I o₁) B₂ σ₂ s₂ hA hS₂) (fun f s₃ hp₃ => ?_) fun _ _ q => q.elim
    obtain ⟨B₃,σ₃,b,st₃,hB₃,hσ₃,hS₃,hrf,hq⟩ := hp₃
    have go : Inv (i + 1) st₃ → ∃ m,m < xs.length - i ∧ FLp C xs At Inv B₁ σ₁ kp I e m s₃ := fun hi' =>
      ⟨xs.length - (i + 1),by (first|lia -abstractProof|omega),B₃,σ₃,st₃,o₁,i + 1,rfl,hlt,hB.trans (hB₂.trans hB₃),hσ.trans (hσ₂.trans hσ₃),hAt₁,hi',hS₃⟩
    cases b with
    | next => have hrf : f = .next := hrf; subst hrf; exact go hq
    | cont => have hrf : f = .cont := hrf; subst hrf; exact go hq
    | brk =>
      have hrf : f = .brk := hrf; subst hrf
      exact ⟨B₃,σ₃,.next,st₃,hB₁.trans (hB.trans (hB₂.trans hB₃)),hσ₁.trans (hσ.trans (hσ₂.trans hσ₃)),hS₃.unkeep hk,rfl,hq⟩
    | ret w =>
      obtain ⟨z,rfl,hz⟩ := hrf
      exact ⟨B₃,σ₃,.ret w,st₃,hB₁.trans (hB.trans (hB₂.trans hB₃)),hσ₁.trans (hσ.trans (hσ₂.trans hσ₃)),hS₃.unkeep hk,⟨z,rfl,hz⟩,hq⟩
  · have hil : i = xs.length := by (first|lia -abstractProof|omega)
    subst hil
    refine T.stop hA.1 hS'.g hB hσ (hIR _ _ hI') hIo' hAt' fun h₁ tk htk keep₁ => ?_
    refine wpAny_execs_nil ?_
    exact ⟨B',σ',.next,st',hB₁.trans hB,hσ₁.trans hσ,hS'.drop hk keep₁ hS'.g.gens rfl htk,rfl,fin _ hI'⟩
theorem S_For {target iter : Expr} {body r : List Stmt} {pos : Pos} {Q : AF → St → Prop}
    (h : TV C d e (eval iter e) st fun v st₁ => ∃ xs R,ItV C v st₁.hp xs R ∧ ∃ Inv : Nat → St → Prop,Inv 0 st₁ ∧ (∀ i st,Inv i st → R st.hp) ∧
      (∀ i x st₂,xs[i]? = some x → Inv i st₂ → Asg C d e target x st₂ fun st₃ => TF C d e (execs body e) st₃ (FK C d e Inv i r Q)) ∧
      (∀ st₂,Inv xs.length st₂ → TF C d e (execs r e) st₂ Q))
    (hs : ∀ x,foldedSetIterable iter e x = pure x := by intro _; rfl) : TF C d e (execs (.For target iter body [] pos :: r) e) st Q := by
  refine S_cons (T_For (T.mono h fun v st₁ ⟨xs,R,h1,Inv,h2,h3,h4,h5⟩ => ⟨xs,R,h1,Inv,h2,h3,fun i x st₂ hx hi => ?_,h5⟩) hs)
  intro A kp B σ s va hA hS hr
  exact wpAny_mono (h4 i x st₂ hx hi A kp B σ s va hA hS hr) (fun _ s' hp => hp.imp fun _ st₃ q => T.mono q fun f st₄ z => by cases f <;> exact z) fun _ _ q => q
end
end
section
inductive CV (e : Env) (vars : List (Str × V)) : List (Str × NameKind) → List (Str × V) → Prop where
  | nil : CV e vars [] []
  | loc {x : Str} {r : List (Str × NameKind)} {r' : List (Str × V)} : CV e vars r r' → CV e vars ((x,.local) :: r) ((x,.undef) :: r')
  | fre {x : Str} {v : V} {r : List (Str × NameKind)} {r' : List (Str × V)} : Has x v vars → e.kindOf x = some .cell → CV e vars r r' → CV e vars ((x,.free) :: r) ((x,v) :: r')
  | glo {x : Str} {r : List (Str × NameKind)} {r' : List (Str × V)} : CV e vars r r' → CV e vars ((x,.globalImplicit) :: r) r'
section
variable {e : Env} {vars : List (Str × V)}
theorem CV.keys {n : List (Str × NameKind)} {l : List (Str × V)} (h : CV e vars n l) : (l.map (·.1)).Sublist (n.map (·.1)) := by
  induction h with
  | nil => exact .slnil
  | loc _ ih => exact ih.cons_cons _
  | fre _ _ _ ih => exact ih.cons_cons _
  | glo _ ih => exact ih.cons _
theorem CV.mem {n : List (Str × NameKind)} {l : List (Str × V)} (h : CV e vars n l) {x : Str} {v : V} (hm : (x,v) ∈ l) : ((x,NameKind.local) ∈ n ∧ v = .undef) ∨ ((x,NameKind.free) ∈ n ∧ e.kindOf x = some .cell ∧ (x,v) ∈ vars) := by
  induction h with
  | nil => cases hm
  | loc _ ih =>
    rcases List.mem_cons.mp hm with q | q
    · cases q; exact .inl ⟨.head _,rfl⟩
    · exact (ih q).imp (fun z => ⟨.tail _ z.1,z.2⟩) fun z => ⟨.tail _ z.1,z.2⟩
  | fre h1 h2 _ ih =>
    rcases List.mem_cons.mp hm with q | q
    · cases q; exact .inr ⟨.head _,h2,h1.mem⟩
    · exact (ih q).imp (fun z => ⟨.tail _ z.1,z.2⟩) fun z => ⟨.tail _ z.1,z.2⟩
  | glo _ ih => exact (ih hm).imp (fun z => ⟨.tail _ z.1,z.2⟩) fun z => ⟨.tail _ z.1,z.2⟩
theorem CV.free {n : List (Str × NameKind)} {l : List (Str × V)} (h : CV e vars n l) {x : Str} (hm : (x,NameKind.free) ∈ n) : e.kindOf x = some .cell ∧ ∃ v,(x,v) ∈ vars ∧ (x,v) ∈ l := by
  induction h with
  | nil => cases hm
  | loc _ ih =>
    rcases List.mem_cons.mp hm with q | q
    · cases q
    · obtain ⟨a,v,b,c⟩ := ih q; exact ⟨a,v,b,.tail _ c⟩
  | fre h1 h2 _ ih =>
    rcases List.mem_cons.mp hm with q | q
    · cases q; exact ⟨h2,_,h1.mem,.head _⟩
    · obtain ⟨a,v,b,c⟩ := ih q; exact ⟨a,v,b,.tail _ c⟩
  | glo _ ih =>
    rcases List.mem_cons.mp hm with q | q
    · cases q
    · exact ih q
theorem CV.nocell {n : List (Str × NameKind)} {l : List (Str × V)} (h : CV e vars n l) : ∀ y ∈ n,y.2 ≠ .cell := by
  induction h with
  | nil => intro y hy; cases hy
  | loc _ ih => intro y hy; rcases List.mem_cons.mp hy with rfl | q; · exact nofun
                exact ih y q
  | fre _ _ _ ih => intro y hy; rcases List.mem_cons.mp hy with rfl | q; · exact nofun
                    exact ih y q
  | glo _ ih => intro y hy; rcases List.mem_cons.mp hy with rfl | q; · exact nofun
                exact ih y q
end

noncomputable def clOf (e : Env) : List (Str × NameKind) → List (Str × Addr)
  | [] => []
  | (x,k) :: r => if k == .free then clOf e r ++ [(x,(e.cells.lookup x).getD 0)] else clOf e r
theorem clOf_mem {e : Env} : ∀ {n : List (Str × NameKind)} {x : Str} {c : Addr},(x,c) ∈ clOf e n ↔ (x,NameKind.free) ∈ n ∧ c = (e.cells.lookup x).getD 0
  | [],x,c => by simp [clOf]
  | (y,k) :: r,x,c => by
    unfold clOf
    by_cases hk : k == .free
    · rw [if_pos hk,List.mem_append,clOf_mem]
      have hk : k = .free := by simpa using hk
      subst hk
      simp only [List.mem_cons,List.not_mem_nil,or_false,Prod.mk.injEq,and_true]
      constructor
      · rintro (⟨h1,h2⟩ | ⟨rfl,h2⟩)
        · exact ⟨.inr h1,h2⟩
        · exact ⟨.inl rfl,h2⟩
      · rintro ⟨rfl | h1,h2⟩
        · exact .inr ⟨rfl,h2⟩
        · exact .inl ⟨h1,h2⟩
    · rw [if_neg hk,clOf_mem]
      have hk : NameKind.free ≠ k := fun q => hk (by simp [← q])
      simp [hk]
theorem clOf_keys {e : Env} : ∀ {n : List (Str × NameKind)},(n.map (·.1)).Nodup → ((clOf e n).map (·.1)).Nodup
  | [],_ => .nil
  | (y,k) :: r,h => by
    have h' := List.nodup_cons.mp h
    unfold clOf
    split
    · rw [List.map_append,List.nodup_append]
      refine ⟨clOf_keys h'.2,by simp,fun a ha b hb => ?_⟩
      simp only [List.map_cons,List.map_nil,List.mem_singleton] at hb
      subst hb
      rintro rfl
      obtain ⟨⟨x,c⟩,hp,rfl⟩ := List.mem_map.mp ha
      exact h'.1 (List.mem_map.mpr ⟨_,(clOf_mem.mp hp).1,rfl⟩)
    · exact clOf_keys h'.2
theorem closure_go {e : Env} : ∀ (n : List (Str × NameKind)) (acc : List (Str × Addr)),(∀ x,(x,NameKind.free) ∈ n → ∃ c,e.cells.lookup x = some c) →
    (forIn n acc (fun p r => if p.2 == .free then (do let c ← cellOf e p.1; pure (ForInStep.yield ((p.1,c) :: r))) else pure (ForInStep.yield r)) : Sem (List (Str × Addr))) = pure (clOf e n ++ acc)
  | [],acc,_ => rfl
  | (x,k) :: r,acc,h => by
    rw [List.forIn_cons]
    unfold clOf
    by_cases hk : (k == .free) = true
    · have hk' : k = .free := by simpa using hk
      subst hk'
      obtain ⟨c,hc⟩ := h x (.head _)
      have : cellOf e x = pure c := by unfold cellOf; rw [hc]
      simp only [this,hc,Option.getD_some]
      have ih := closure_go r ((x,c) :: acc) (fun y hy => h y (.tail _ hy))
      simp only [pure_bind] at ih ⊢
      simp only [if_pos (show (NameKind.free == NameKind.free) = true from rfl),pure_bind]
      rw [ih,List.append_assoc]; rfl
    · have ih := closure_go r acc (fun y hy => h y (.tail _ hy))
      rw [if_neg hk,if_neg hk]
      simp only [pure_bind]
      exact ih
theorem closureFor_eq {e : Env} {sc : Scope} (h : ∀ x,(x,NameKind.free) ∈ sc.names → ∃ c,e.cells.lookup x = some c) : closureFor sc e = pure (clOf e sc.names) := by
  have := closure_go sc.names [] h
  rw [List.append_nil] at this
  rw [← this]
  unfold closureFor
  simp only [bind_pure]
noncomputable def compOk (sc : Scope) : Bool := (match sc.kind with | .function => true | _ => false) && nodupS (sc.names.map (·.1)) && sc.names.all (fun p => !eqS p.1 ("__debug__" : Str))
structure CompOk (sc : Scope) : Prop where
  kind : sc.kind = .function
  nodup : (sc.names.map (·.1)).Nodup
  debug : ∀ x k,(x,k) ∈ sc.names → (x == ("__debug__" : Str)) = false
theorem compOk_iff {sc : Scope} (h : compOk sc = true) : CompOk sc := by
  simp only [compOk,Bool.and_eq_true,List.all_eq_true,Bool.not_eq_true'] at h
  obtain ⟨⟨h1,h2⟩,h3⟩ := h
  refine ⟨?_,nodupS_iff h2,fun x k hm => ?_⟩
  · revert h1; cases sc.kind <;> simp
  · cases q : x == ("__debug__" : Str) with
    | false => rfl
    | true => have := h3 _ hm; rw [eqS_iff.mpr (beq_iff_eq.mp q)] at this; cases this

theorem relabel_lookup {sc : Scope} {e : Env} (hn : (sc.names.map (·.1)).Nodup) {x : Str} {k : NameKind} (hm : (x,k) ∈ sc.names) :
    (relabel sc e).names.lookup x = some (if (k == .free && e.scope.kind == .function && e.kindOf x == some .cell) then .cell else k) := by
  unfold relabel
  refine lookup_of_nodup (by
    rw [List.map_map,show sc.names.map _ = sc.names.map (·.1) from List.map_congr_left fun p _ => ?_]
    · exact hn
    · obtain ⟨a,b⟩ := p; simp only [Function.comp_apply]; split <;> rfl) ?_
  refine List.mem_map.mpr ⟨(x,k),hm,?_⟩
  dsimp only
  split <;> rfl

noncomputable def kpN (kp : Base) (e : Env) (cl : List (Str × Addr)) (h : Heap) : Base := fun a => if a ∈ privs e ∧ a ∉ cl.map (·.2) then h.get? a else kp a
section
variable {C : Cx} {kp B : Base} {σ : List Addr} {e e' : Env} {st : St} {s s' : Shared} {vars' : List (Str × V)} {sc : Scope}
theorem kpN_out {a : Addr} {cl : List (Str × Addr)} {h : Heap} (q : a ∉ privs e) : kpN kp e cl h a = kp a := if_neg fun z => q z.1
theorem caught (hL : L C kp B σ e st s) (hv : CV e st.vars sc.names vars') {x : Str} (hx : (x,NameKind.free) ∈ sc.names) : ∃ c o ov v,e.cells.lookup x = some c ∧ (x,c) ∈ clOf e sc.names ∧ s.heap.get? c = some o ∧ o.data = .cell ov ∧ (x,v) ∈ st.vars ∧ (x,v) ∈ vars' ∧ (v = .undef ∨ ∃ val,ov = some val ∧ Rel C B σ v val) := by
  obtain ⟨h1,v,h2,h3⟩ := hv.free hx
  obtain ⟨c,o,ov,g1,g2,g3,g4⟩ := hL.cells x v h2 h1
  exact ⟨c,o,ov,v,g1,clOf_mem.mpr ⟨hx,by rw [g1]; rfl⟩,g2,g3,h2,h3,g4⟩
theorem clPriv (hL : L C kp B σ e st s) (hv : CV e st.vars sc.names vars') {a : Addr} (ha : a ∈ (clOf e sc.names).map (·.2)) : a ∈ e.cells.map (·.2) := by
  obtain ⟨⟨x,c⟩,hp,rfl⟩ := List.mem_map.mp ha
  obtain ⟨h1,h2⟩ := clOf_mem.mp hp
  obtain ⟨c',o,ov,v,g1,_⟩ := caught hL hv h1
  rw [g1] at h2
  exact List.mem_map.mpr ⟨(x,c'),TC.mem_of_lookup g1,h2.symm⟩
theorem nodup_snd {α β : Type} : ∀ {l : List (α × β)} {x y : α} {c : β},(l.map (·.2)).Nodup → (x,c) ∈ l → (y,c) ∈ l → x = y
  | (a,b) :: l,x,y,c,h,h1,h2 => by
    have h' := List.nodup_cons.mp h
    rcases List.mem_cons.mp h1 with q1 | q1
    · rcases List.mem_cons.mp h2 with q2 | q2
      · cases q1; cases q2; rfl
      · cases q1; exact absurd (List.mem_map.mpr ⟨_,q2,rfl⟩) h'.1
    · rcases List.mem_cons.mp h2 with q2 | q2
      · cases q2; exact absurd (List.mem_map.mpr ⟨_,q1,rfl⟩) h'.1
      · exact nodup_snd h'.2 q1 q2
theorem nest_in (hS : S C kp B σ e st s) (hv : CV e st.vars sc.names vars') (hc : CompOk sc) (hsc : e'.scope = relabel sc e) (hg : e'.globals = e.globals) (hb : e'.builtins = e.builtins) (hcl : e'.cells = clOf e sc.names)
    (hfree : Free C kp B σ e st.hp e'.locals) (hns : s.heap.Ns e'.locals (fun _ => none)) : S C (kpN kp e (clOf e sc.names) s.heap) B σ e' ⟨vars',st.hp⟩ s := by
  have hL := hS.l
  have hpl : e'.locals ∉ privs e := hfree.priv
  have hkind : ∀ {x : Str} {k : NameKind},(x,k) ∈ sc.names → e'.kindOf x = some (if (k == .free && e.scope.kind == .function && e.kindOf x == some .cell) then .cell else k) := fun hm => by
    rw [Env.kindOf,hsc]; exact relabel_lookup hc.nodup hm
  have hef : (e.scope.kind == ScopeKind.function) = true := by rw [hL.fn]; rfl
  have hfr : ∀ {x : Str},(x,NameKind.free) ∈ sc.names → e'.kindOf x = some .cell := fun {x} hm => by
    rw [hkind hm,(hv.free hm).1,hef]; rfl
  refine ⟨⟨hS.g.ok,hS.g.bh,hS.g.b0,fun a o q => ?_,hS.g.len,fun i a ao h1 h2 h3 => ?_,hS.g.inj,hS.g.gens,hS.g.os,hS.g.tk⟩,⟨?_,hg.trans hL.glob,hb.trans hL.bi,hv.keys.nodup hc.nodup,⟨_,hns,fun x v hm hk => ?_⟩,fun x v hm => ?_,fun x v hm hk => ?_,fun a ha => ?_,?_,fun a ha => ?_⟩⟩
  · unfold kpN at q
    split at q
    · rename_i z; exact ⟨q,(hL.priv a z.1).2.1⟩
    · exact hS.g.kh a o q
  · obtain ⟨k1,k2,k3,k4⟩ := hS.g.own i a ao h1 h2 h3
    exact ⟨by rw [kpN_out (priv_own hS h1 h2 h3)]; exact k1,k2,k3,k4⟩
  · rw [hsc]; exact hc.kind
  · rcases hv.mem hm with ⟨_,z⟩ | ⟨z,_⟩
    · exact .inl z
    · rw [hfr z] at hk; cases hk
  · rcases hv.mem hm with ⟨z,_⟩ | ⟨z,_⟩
    · exact ⟨.inl (by rw [hkind z]; rfl),hc.debug _ _ z⟩
    · exact ⟨.inr (hfr z),hc.debug _ _ z⟩
  · rcases hv.mem hm with ⟨z,_⟩ | ⟨z,_,z3⟩
    · rw [hkind z] at hk; cases hk
    · obtain ⟨c,o,ov,w,g1,g2,g3,g4,g5,g6,g7⟩ := caught hL hv z
      have : w = v := by
        have hn := hL.nodup
        have a1 := lookup_of_nodup hn g5
        have a2 := lookup_of_nodup hn z3
        rw [a1] at a2; exact Option.some.inj a2
      subst this
      exact ⟨c,o,ov,by rw [hcl]; exact lookup_of_nodup (clOf_keys hc.nodup) g2,g3,g4,g7⟩
  · rcases List.mem_cons.mp ha with rfl | ha
    · exact ⟨by rw [kpN_out hpl]; exact hfree.kp,hfree.b,hfree.own⟩
    · rw [hcl] at ha
      obtain ⟨k1,k2,k3⟩ := hL.priv a (List.mem_cons_of_mem _ (clPriv hL hv ha))
      exact ⟨by unfold kpN; rw [if_neg (fun z => z.2 ha)]; exact k1,k2,k3⟩
  · refine List.nodup_cons.mpr ⟨fun q => hpl (List.mem_cons_of_mem _ (clPriv hL hv (by rw [hcl] at q; exact q))),?_⟩
    rw [hcl]
    have hn := (List.nodup_cons.mp hL.apart).2
    rw [List.nodup_iff_pairwise_ne,List.pairwise_map]
    refine List.Pairwise.imp_of_mem ?_ (List.pairwise_map.mp (List.nodup_iff_pairwise_ne.mp (clOf_keys (e := e) hc.nodup)))
    rintro ⟨x,c⟩ ⟨y,c'⟩ h1 h2 hne rfl
    obtain ⟨c₁,_,_,_,g1,_⟩ := caught hL hv (clOf_mem.mp h1).1
    obtain ⟨c₂,_,_,_,g2,_⟩ := caught hL hv (clOf_mem.mp h2).1
    have e1 := (clOf_mem.mp h1).2
    have e2 := (clOf_mem.mp h2).2
    rw [g1] at e1; rw [g2] at e2
    have e1 : c = c₁ := e1
    have e2 : c = c₂ := e2
    subst e1; subst e2
    exact hne (nodup_snd hn (TC.mem_of_lookup g1) (TC.mem_of_lookup g2))
  · rcases List.mem_cons.mp ha with rfl | ha
    · obtain ⟨o,_,_,h1,_⟩ := hns; exact ⟨o,h1⟩
    · rw [hcl] at ha
      exact hL.alive a (List.mem_cons_of_mem _ (clPriv hL hv ha))
theorem nest_out {B' : Base} {σ' : List Addr} {st' : St} {h₀ : Heap} (hS : S C kp B σ e st s) (hB : Sub B B') (hσ : σ <+: σ') (hv : CV e st.vars sc.names vars') (hc : CompOk sc) (hsc : e'.scope = relabel sc e) (hcl : e'.cells = clOf e sc.names)
    (hloc : e'.locals ∉ privs e) (hh : ∀ a ∈ privs e,h₀.get? a = s.heap.get? a)
    (hS' : S C (kpN kp e (clOf e sc.names) h₀) B' σ' e' st' s') (hst : Fgt st'.vars vars') : S C kp B' σ' e ⟨st.vars,st'.hp⟩ s' := by
  have hL := hS.l
  have hL' := hS'.l
  have hkind : ∀ {x : Str} {k : NameKind},(x,k) ∈ sc.names → e'.kindOf x = some (if (k == .free && e.scope.kind == .function && e.kindOf x == some .cell) then .cell else k) := fun hm => by
    rw [Env.kindOf,hsc]; exact relabel_lookup hc.nodup hm
  have hef : (e.scope.kind == ScopeKind.function) = true := by rw [hL.fn]; rfl
  have hfr : ∀ {x : Str},(x,NameKind.free) ∈ sc.names → e'.kindOf x = some .cell := fun {x} hm => by
    rw [hkind hm,(hv.free hm).1,hef]; rfl
  have hkp : ∀ a ∈ privs e,kp a = none := fun a ha => (hL.priv a ha).1
  -- a private object of the outer frame that is not caught stands
  have stand : ∀ a ∈ privs e,a ∉ (clOf e sc.names).map (·.2) → s'.heap.get? a = s.heap.get? a ∧ B' a = none ∧ ∀ (i : Nat) (ao : AObj),σ'[i]? = some a → st'.hp[i]? = some ao → ¬ ao.live := fun a ha hn => by
    obtain ⟨o,ho⟩ := hL.alive a ha
    have hk : kpN kp e (clOf e sc.names) h₀ a = some o := by unfold kpN; rw [if_pos ⟨ha,hn⟩,hh a ha]; exact ho
    refine ⟨((hS'.g.kh a o hk).1).trans ho.symm,(hS'.g.kh a o hk).2,fun i ao k1 k2 k3 => ?_⟩
    obtain ⟨m1,_⟩ := hS'.g.own i a ao k1 k2 k3
    rw [hk] at m1; cases m1
  have inner : ∀ a ∈ privs e,a ∈ (clOf e sc.names).map (·.2) → a ∈ privs e' := fun a _ ha => List.mem_cons_of_mem _ (by rw [hcl]; exact ha)
  refine ⟨⟨hS'.g.ok,hS'.g.bh,hS'.g.b0,fun a o q => ?_,hS'.g.len,fun i a ao h1 h2 h3 => ?_,hS'.g.inj,hS'.g.gens,hS'.g.os,hS'.g.tk⟩,⟨hL.fn,hL.glob,hL.bi,hL.nodup,?_,hL.kinds,fun x v hm hk => ?_,fun a ha => ?_,hL.apart,fun a ha => ?_⟩⟩
  · have z : a ∉ privs e := fun z => by rw [hkp a z] at q; cases q
    exact hS'.g.kh a o (by rw [kpN_out z]; exact q)
  · obtain ⟨m1,m2,m3,m4⟩ := hS'.g.own i a ao h1 h2 h3
    refine ⟨?_,m2,m3,m4⟩
    by_cases z : a ∈ privs e
    · exact hkp a z
    · rw [kpN_out z] at m1; exact m1
  · have hl : e.locals ∉ (clOf e sc.names).map (·.2) := fun q => (List.nodup_cons.mp hL.apart).1 (clPriv hL hv q)
    have hst1 := (stand e.locals (List.mem_cons_self) hl).1
    obtain ⟨m,⟨o,es,ep,q1,q2⟩,q3⟩ := hL.ns
    exact ⟨m,⟨o,es,ep,hst1.trans q1,q2⟩,fun x v hm hk => (q3 x v hm hk).imp id fun ⟨val,z1,z2⟩ => ⟨val,z1,z2.mono hB hσ⟩⟩
  · obtain ⟨c,o,ov,q1,q2,q3,q4⟩ := hL.cells x v hm hk
    have hcp : c ∈ privs e := List.mem_cons_of_mem _ (List.mem_map.mpr ⟨(x,c),TC.mem_of_lookup q1,rfl⟩)
    by_cases z : c ∈ (clOf e sc.names).map (·.2)
    · obtain ⟨⟨y,c'⟩,hp,hcc⟩ := List.mem_map.mp z
      have hcc : c' = c := hcc
      subst hcc
      obtain ⟨g1,g2⟩ := clOf_mem.mp hp
      obtain ⟨c₁,o₁,ov₁,w,k1,k2,k3,k4,k5,k6,k7⟩ := caught hL hv g1
      rw [k1] at g2
      have g2 : c' = c₁ := g2
      subst g2
      have hyx : y = x := nodup_snd (List.nodup_cons.mp hL.apart).2 (TC.mem_of_lookup k1) (TC.mem_of_lookup q1)
      subst hyx
      have hwv : w = v := by
        have a1 := lookup_of_nodup hL.nodup k5
        have a2 := lookup_of_nodup hL.nodup hm
        rw [a1] at a2; exact Option.some.inj a2
      subst hwv
      rcases hst.mem k6 with hin | ⟨rfl,w',hin⟩
      · obtain ⟨c₂,o₂,ov₂,r1,r2,r3,r4⟩ := hL'.cells y w hin (hfr g1)
        rw [hcl,lookup_of_nodup (clOf_keys hc.nodup) hp] at r1
        cases r1
        exact ⟨c',o₂,ov₂,q1,r2,r3,r4⟩
      · obtain ⟨c₂,o₂,ov₂,r1,r2,r3,r4⟩ := hL'.cells y w' hin (hfr g1)
        rw [hcl,lookup_of_nodup (clOf_keys hc.nodup) hp] at r1
        cases r1
        exact ⟨c',o₂,ov₂,q1,r2,r3,.inl rfl⟩
    · exact ⟨c,o,ov,q1,((stand c hcp z).1).trans q2,q3,q4.imp id fun ⟨val,z1,z2⟩ => ⟨val,z1,z2.mono hB hσ⟩⟩
  · by_cases z : a ∈ (clOf e sc.names).map (·.2)
    · obtain ⟨_,k2,k3⟩ := hL'.priv a (inner a ha z)
      exact ⟨hkp a ha,k2,k3⟩
    · exact ⟨hkp a ha,(stand a ha z).2⟩
  · by_cases z : a ∈ (clOf e sc.names).map (·.2)
    · exact hL'.alive a (inner a ha z)
    · obtain ⟨o,ho⟩ := hL.alive a ha; exact ⟨o,((stand a ha z).1).trans ho⟩
end
end
section
section
variable {C : Cx} {kp B : Base} {σ : List Addr} {e : Env} {st : St} {s : Shared}
theorem S.adopt {D : Addr} {o : Obj} {ao : AObj} (hS : S C kp B σ e st s) (F : Free C kp B σ e st.hp D) (hD : s.heap.get? D = some o) (hr : AR C B (σ ++ [D]) s.heap D ao) : S C kp B (σ ++ [D]) e ⟨st.vars,st.hp ++ [ao]⟩ s := by
  have hlen := hS.g.len
  have hσ : σ <+: σ ++ [D] := List.prefix_append _ _
  have old : ∀ (i : Nat) (a : Addr) (ao' : AObj),(σ ++ [D])[i]? = some a → (st.hp ++ [ao])[i]? = some ao' → (σ[i]? = some a ∧ st.hp[i]? = some ao') ∨ (i = σ.length ∧ a = D ∧ ao' = ao) := by
    intro i a ao' h1 h2
    by_cases hi : i < σ.length
    · rw [List.getElem?_append_left hi] at h1
      rw [List.getElem?_append_left (hlen ▸ hi)] at h2
      exact .inl ⟨h1,h2⟩
    · have hi' : i = σ.length := by
        have := (List.getElem?_eq_some_iff.mp h1).1
        simp only [List.length_append,List.length_singleton] at this; (first|lia -abstractProof|omega)
      subst hi'
      rw [List.getElem?_append_right (Nat.le_refl _)] at h1
      rw [hlen,List.getElem?_append_right (Nat.le_refl _)] at h2
      simp only [Nat.sub_self,List.getElem?_cons_zero,Option.some.injEq] at h1 h2
      exact .inr ⟨rfl,h1.symm,h2.symm⟩
  refine ⟨⟨hS.g.ok,hS.g.bh,hS.g.b0,hS.g.kh,by simp [hlen],fun i a ao' h1 h2 h3 => ?_,fun i j a ai aj h1 h2 h3 h4 h5 h6 => ?_,hS.g.gens,hS.g.os,hS.g.tk⟩,?_⟩
  · rcases old i a ao' h1 h2 with ⟨g1,g2⟩ | ⟨rfl,rfl,rfl⟩
    · obtain ⟨k1,k2,k3,k4⟩ := hS.g.own i a ao' g1 g2 h3
      exact ⟨k1,k2,k3,k4.mono (Sub.refl _) hσ⟩
    · exact ⟨F.kp,F.b,⟨o,hD⟩,hr⟩
  · rcases old i a ai h1 h3 with ⟨g1,g2⟩ | ⟨rfl,rfl,rfl⟩
    · rcases old j a aj h2 h4 with ⟨g3,g4⟩ | ⟨rfl,rfl,rfl⟩
      · exact hS.g.inj i j a ai aj g1 g3 g2 g4 h5 h6
      · exact absurd h5 (F.own i ai g1 g2)
    · rcases old j _ aj h2 h4 with ⟨g3,g4⟩ | ⟨rfl,_,_⟩
      · exact absurd h6 (F.own j aj g3 g4)
      · rfl
  · have hL := hS.l
    refine ⟨hL.fn,hL.glob,hL.bi,hL.nodup,?_,hL.kinds,?_,?_,hL.apart,hL.alive⟩
    · obtain ⟨m,hn,r⟩ := hL.ns
      exact ⟨m,hn,fun x v h1 h2 => (r x v h1 h2).imp id fun ⟨val,h3,h4⟩ => ⟨val,h3,h4.mono (Sub.refl _) hσ⟩⟩
    · intro x v h1 h2
      obtain ⟨c,o,ov,h3,h4,h5,h6⟩ := hL.cells x v h1 h2
      exact ⟨c,o,ov,h3,h4,h5,h6.imp id fun ⟨val,h7,h8⟩ => ⟨val,h7,h8.mono (Sub.refl _) hσ⟩⟩
    · intro a ha
      obtain ⟨k1,k2,k3⟩ := hL.priv a ha
      refine ⟨k1,k2,fun i ao' h1 h2 => ?_⟩
      rcases old i a ao' h1 h2 with ⟨g1,g2⟩ | ⟨rfl,rfl,rfl⟩
      · exact k3 i ao' g1 g2
      · exact absurd ha F.priv
theorem RelL.snoc {x : V} {v : Value} : ∀ {xs : List V} {vs : List Value},RelL C B σ xs vs → Rel C B σ x v → RelL C B σ (xs ++ [x]) (vs ++ [v])
  | [],_,h,hx => by simp only [RelL] at h; subst h; exact ⟨_,_,rfl,hx,rfl⟩
  | y :: ys,vs,h,hx => by
    simp only [RelL] at h
    obtain ⟨w,r,rfl,h1,h2⟩ := h
    exact ⟨_,_,rfl,h1,RelL.snoc h2 hx⟩
theorem Fgt.refl : ∀ (l : List (Str × V)),Fgt l l
  | [] => .nil
  | _ :: r => .keep (Fgt.refl r)
theorem put_comm {x y : Addr} {o o' : Obj} (h : x ≠ y) : (kp.put x o).put y o' = (kp.put y o').put x o := by
  funext a
  unfold Base.put
  by_cases h1 : a = y
  · subst h1; rw [if_pos rfl,if_neg (fun q => h q.symm),if_pos rfl]
  · rw [if_neg h1]; split <;> simp [h1]
theorem Free.drop {hp : List AObj} {x y : Addr} (F : Free C kp B σ e hp x) (h : x ≠ y) {o : Obj} : Free C (kp.put y o) B σ e hp x := ⟨by rw [put_ne h]; exact F.kp,F.b,F.own,F.priv⟩
end

noncomputable def testsOf (ifs : List Expr) (env : Env) : Sem Bool := forIn ifs true fun c r => if r = true then do let ok ← isTrue c env (eval c env); pure (ForInStep.yield ok) else pure (ForInStep.yield r)
section
variable {C : Cx} {d : Nat} {e : Env} {st : St}
theorem B_tests0 {Q : Bool → St → Prop} (h : Q true st) : TB C d e (testsOf [] e) st Q := fun A kp B σ s hA hS => wpAny_pure (Post.here hS rfl h)
theorem compLoop_any {prog : Program} {w : World} {A : Around} {s : Shared} {elt target iter : Expr} {ifs : List Expr} {scope : Scope} {pos : Pos} {it acc : Value} {env : Env} {R : Result → Shared → Prop} (I : Nat → Shared → Prop)
    (turn : ∀ n s,I n s → wpAny (model prog w) A (pyNext it) (fun r s₁ => match r with
      | none => R (.ok .next) s₁
      | some v => wpAny (model prog w) A (letOwnedTupleGo target it v) (fun _ s₁' => wpAny (model prog w) A (assign target env v) (fun _ s₂ =>
          wpAny (model prog w) A (testsOf ifs env) (fun ok s₃ =>
            if ok = true then wpAny (model prog w) A (eval elt env) (fun x s₄ =>
              wpAny (model prog w) A (call (.builtin "list.append") [acc,x]) (fun _ s₅ => ∃ m,m < n ∧ I m s₅) (fun _ _ => False) s₄) (fun _ _ => False) s₃
            else ∃ m,m < n ∧ I m s₃) (fun _ _ => False) s₂) (fun _ _ => False) s₁') (fun _ _ => False) s₁) (fun _ _ => False) s)
    (n : Nat) (h : I n s) : codeAny (model prog w) A (.compLoop (.ListComp elt [⟨target,iter,ifs,0⟩] scope pos) 0 it acc env) R s := by
  have F : ∀ {p : Prop},False → p := fun q => q.elim
  refine codeAny_loop rfl I (fun n s hI => ?_) n h
  show wpAny _ A ((compTurn (.ListComp elt [⟨target,iter,ifs,0⟩] scope pos) 0 it acc env).onRaise (fun x => do noteFrame x env; theTreesLotGoes x)) _ _ s
  refine wpAny_noted ?_
  rw [compTurn_list]
  refine wpAny_bind (wpAny_standAt (wpAny_bind (wpAny_mono (turn n s hI) (fun r s₁ h₁ => ?_) fun _ _ q => F q)))
  cases r with
  | none => exact wpAny_pure h₁
  | some v =>
    refine wpAny_bind (wpAny_mono h₁ (fun _ s₁' h₁' => ?_) fun _ _ q => F q)
    refine wpAny_bind (wpAny_mono h₁' (fun _ s₂ h₂ => wpAny_bind (wpAny_mono h₂ (fun ok s₃ h₃ => ?_) fun _ _ q => F q)) fun _ _ q => F q)
    cases ok with
    | false => exact wpAny_pure ⟨rfl,h₃⟩
    | true =>
      exact wpAny_bind (wpAny_bind (wpAny_mono h₃ (fun x s₄ h₄ => wpAny_bind (wpAny_mono h₄ (fun _ s₅ h₅ => wpAny_pure (wpAny_pure ⟨rfl,h₅⟩)) fun _ _ q => F q)) fun _ _ q => F q))

noncomputable def CEnd (vars' : List (Str × V)) (hp : List AObj) (st : St) : Prop := st.hp = hp ∧ Fgt st.vars vars'
noncomputable def CT (C : Cx) (d : Nat) (e' : Env) (target elt : Expr) (ifs : List Expr) (vars' : List (Str × V)) (hp : List AObj) (x : V) (o : Option V) : Prop :=
  Asg C d e' target x ⟨vars',hp⟩ fun st₂ => TB C d e' (testsOf ifs e') st₂ fun ok st₃ =>
    if ok = true then TV C d e' (eval elt e') st₃ (fun y st₄ => o = some y ∧ CEnd vars' hp st₄) else o = none ∧ CEnd vars' hp st₃

inductive CLp (C : Cx) {α : Type} (l : List α) (f : α → Option V) (At : Nat → Obj → Prop) (B : Base) (σ : List Addr) (KP : Base) (D I : Addr) (e' : Env) (vars' : List (Str × V)) (hp : List AObj) (k : Nat) (s' : Shared) : Prop where
  | mk (B' : Base) (σ' : List Addr) (i : Nat) (o' : Obj) (ys : Array Value) (n : Nat) (h1 : k = l.length - i) (h2 : i ≤ l.length) (h3 : Sub B B') (h4 : σ <+: σ') (h5 : At i o') (h6 : RelL C B' σ' ((l.take i).filterMap f) ys.toList)
    (h7 : S C ((KP.put D { cls := .type "list",data := .seq ys n }).put I o') B' σ' e' ⟨vars',hp⟩ s')
theorem comp_core {α : Type} {elt target iter : Expr} {ifs : List Expr} {sc : Scope} {pos : Pos} {A : Around} {kp B : Base} {σ : List Addr} {s : Shared} {v : V} {va : Value} {l : List α} {g : α → V} {f : α → Option V} {R : List AObj → Prop}
    {vars' gl' : List (Str × V)} {QQ : Value → Addr → Result → Shared → Prop}
    (hA : AOk d A) (hS : S C kp B σ e st s) (hr : Rel C B σ v va) (hit : ItV C v st.hp (l.map g) R) (hR : R st.hp) (hz : l.length ≤ 16777216) (hv : CV e st.vars sc.names vars') (hc : compOk sc = true) (hgl : mkGl sc.names globTab = gl')
    (turn : ∀ e' : Env,e'.scope = relabel sc e → GL C e' gl' → ∀ a ∈ l,CT C d e' target elt ifs vars' st.hp (g a) (f a))
    (fin : ∀ B' σ' D C' s' n ys m,Sub B B' → σ <+: σ' → S C kp B' σ' e st s' → Free C kp B' σ' e st.hp D → Free C kp B' σ' e st.hp C' → D ≠ C' → s'.heap.get? D = some { cls := .type "list",data := .seq ys n } → RelL C B' σ' (l.filterMap f) ys.toList → s'.heap.Ns C' m → QQ (.ref D) C' (.ok .next) s') :
    wpAny (model P C.w) A (pyIter va) (fun it s₂ => wpAny (model P C.w) A (newList []) (fun acc s₃ => wpAny (model P C.w) A (newFunctionEnv sc e.globals (clOf e sc.names) [] e.qual none .none (some e)) (fun cenv s₄ =>
      codeAny (model P C.w) A (.compStart (.ListComp elt [⟨target,iter,ifs,0⟩] sc pos) 0 it acc { cenv with scope := relabel sc e }) (QQ acc cenv.locals) s₄) NoE s₃) NoE s₂) NoE s := by
  have hco := compOk_iff hc
  refine hit hA.1 hS.g hr fun I oI At h' hI0 hIo hAt TI keep => ?_
  refine wpAny_newObj_type (wpAny_newFunctionEnv hv.nocell (by intro y hy; simp at hy) (fun h₁ hns₁ hsb₁ => ?_) hco.kind)
  dsimp only at hns₁ hsb₁ ⊢
  generalize hH2 : h'.push { cls := .type "list",dict := none,data := .seq ([] : List Value).toArray } = H2 at hns₁ hsb₁ ⊢
  have hsz2 : H2.objs.size = h'.objs.size + 1 := by rw [← hH2,Heap.size_push]
  generalize hD : h'.objs.size = D at hsz2 ⊢
  generalize hC' : H2.objs.size = C' at hns₁ hsb₁ hsz2 ⊢
  have hDC : D ≠ C' := by rw [hsz2]; exact Nat.ne_of_lt (Nat.lt_succ_self D)
  have noneC : H2.get? C' = none := by rw [← hC']; exact get_none_size _
  have noneD : h'.get? D = none := by rw [← hD]; exact get_none_size _
  have up : ∀ b o,h'.get? b = some o → H2.get? b = some o := fun b o q => by rw [← hH2]; exact Heap.get?_push_of_some _ q
  have upC : ∀ b o,H2.get? b = some o → h₁.get? b = some o := fun b o q => hsb₁.extBut b o (fun z => by rw [z,noneC] at q; cases q) (Heap.get?_push_of_some _ q)
  have keepAll : ∀ b o,s.heap.get? b = some o → h₁.get? b = some o := fun b o q => upC b o (up b o (keep b o q))
  have noneD' : s.heap.get? D = none := by
    cases q : s.heap.get? D with
    | none => rfl
    | some o => rw [keep D o q] at noneD; cases noneD
  have noneC' : s.heap.get? C' = none := by
    cases q : s.heap.get? C' with
    | none => rfl
    | some o => rw [up _ _ (keep C' o q)] at noneC; cases noneC
  have gD : h₁.get? D = some { cls := .type "list",data := .seq #[] } := upC _ _ (by rw [← hH2,← hD]; exact Heap.get?_push_size _ rfl)
  have gI : h₁.get? I = some oI := upC _ _ (up _ _ hIo)
  have hIC : I ≠ C' := fun q => by rw [q] at hIo; rw [up _ _ hIo] at noneC; cases noneC
  have hID : I ≠ D := fun q => by rw [q] at hIo; rw [hIo] at noneD; cases noneD
  have FI := Free.fresh hS hI0
  have FD := Free.fresh hS noneD'
  have FC := Free.fresh hS noneC'
  generalize hs₄ : ({ heap := h₁,gens := s.gens,drawn := s.drawn,toks := s.toks + List.length ([] : List (Str × Value)),os := s.os } : Shared) = s₄
  have hs4h : s₄.heap = h₁ := by rw [← hs₄]
  have hs4g : s₄.gens = s.gens := by rw [← hs₄]
  have hs4o : s₄.os = s.os := by rw [← hs₄]
  have hs4t : s₄.toks = s.toks := by rw [← hs₄]; rfl
  have hS₄ : S C kp B σ e st s₄ := hS.ext (by rw [hs4h]; exact keepAll) (by rw [hs4g]; exact hS.g.gens) hs4o (Nat.le_of_eq hs4t.symm)
  generalize he' : ({ (newEnv sc C' e.globals (clOf e sc.names) e.qual none .none (some e) builtinsNs) with scope := relabel sc e } : Env) = e'
  have e1 : e'.scope = relabel sc e := by rw [← he']
  have e2 : e'.globals = e.globals := by rw [← he']; rfl
  have e3 : e'.builtins = e.builtins := by rw [← he']; rfl
  have e4 : e'.cells = clOf e sc.names := by rw [← he']; rfl
  have e5 : e'.locals = C' := by rw [← he']; rfl
  have hel : (newEnv sc C' e.globals (clOf e sc.names) e.qual none .none (some e) builtinsNs).locals = C' := rfl
  rw [hel]
  clear hsb₁ hH2 hD hC' hel he'
  have hGL : GL C e' gl' := fun y w hy => by
    rw [← hgl] at hy
    obtain ⟨h1,h2⟩ := mkGl_mem hy
    exact ⟨by rw [Env.kindOf,e1,relabel_lookup hco.nodup h1]; rfl,hco.debug y _ h1,hS.g.ok.tab y w h2⟩
  have hS₅ := nest_in hS₄ hv hco e1 e2 e3 e4 (by rw [e5]; exact FC) (by rw [e5,hs4h]; exact hns₁)
  have privs' : ∀ a,a ∉ privs e → a ≠ C' → a ∉ privs e' := fun a h1 h2 q => by
    rcases List.mem_cons.mp q with q | q
    · exact h2 (q.trans e5)
    · rw [e4] at q; exact h1 (List.mem_cons_of_mem _ (clPriv hS.l hv q))
  have FD' : Free C (kpN kp e (clOf e sc.names) s₄.heap) B σ e' st.hp D := ⟨by rw [kpN_out FD.priv]; exact FD.kp,FD.b,FD.own,privs' D FD.priv hDC⟩
  have FI' : Free C (kpN kp e (clOf e sc.names) s₄.heap) B σ e' st.hp I := ⟨by rw [kpN_out FI.priv]; exact FI.kp,FI.b,FI.own,privs' I FI.priv hIC⟩
  have hkD : kpN kp e (clOf e sc.names) s₄.heap D = none := FD'.kp
  have hkI : kpN kp e (clOf e sc.names) s₄.heap I = none := FI'.kp
  have hS₆ := hS₅.keep FD' (by rw [hs4h]; exact gD)
  have hS₇ := hS₆.keep (FI'.drop hID) (by rw [hs4h]; exact gI)
  have loop : codeAny (model P C.w) A (.compLoop (.ListComp elt [⟨target,iter,ifs,0⟩] sc pos) 0 (.ref I) (.ref D) e') (QQ (.ref D) C') s₄ := by
    refine compLoop_any (fun k s' => CLp C l f At B σ (kpN kp e (clOf e sc.names) s₄.heap) D I e' vars' st.hp k s') ?_ l.length
      ⟨B,σ,0,oI,#[],_,rfl,Nat.zero_le _,Sub.refl _,List.prefix_refl _,hAt,by simp [RelL],hS₇⟩
    rintro k s' ⟨B',σ',i,o',ys,n,rfl,hi,hB,hσ,hAt',hys,hS'⟩
    have hkI' : ((kpN kp e (clOf e sc.names) s₄.heap).put D { cls := .type "list",data := .seq ys n }) I = none := by rw [put_ne hID]; exact hkI
    by_cases hlt : i < l.length
    · have hx : (l.map g)[i]? = some (g l[i]) := by rw [List.getElem?_map,List.getElem?_eq_getElem hlt]; rfl
      have hmem : l[i] ∈ l := List.getElem_mem hlt
      refine TI.next hA.1 hS'.g hB hσ hR hS'.g.kept.1 hAt' hx fun v' h₂ o₂ tk hv' htk ho₂ hAt₂ keep₂ => ?_
      have hS₁ : S C (((kpN kp e (clOf e sc.names) s₄.heap).put D { cls := .type "list",data := .seq ys n }).put I o₂) B' σ' e' ⟨vars',st.hp⟩ { s' with heap := h₂,toks := tk } := hS'.rekeep hkI' keep₂ ho₂ hS'.g.gens rfl htk
      refine TI.go (s := { s' with heap := h₂,toks := tk }) ho₂ hAt₂ ?_
      have Ftake : (l.take (i + 1)).filterMap f = (l.take i).filterMap f ++ (f l[i]).toList := by
        rw [List.take_succ_eq_append_getElem hlt,List.filterMap_append]
        cases hf : f l[i] <;> simp [hf]
      refine wpAny_mono (turn e' e1 hGL l[i] hmem A _ B' σ' _ v' hA hS₁ hv') (fun _ s₂ hp₂ => ?_) fun _ _ q => q
      obtain ⟨B₂,σ₂,_,st₂,hB₂,hσ₂,hS₂,_,ht⟩ := hp₂
      refine wpAny_mono (ht A _ B₂ σ₂ s₂ hA hS₂) (fun ok s₃ hp₃ => ?_) fun _ _ q => q
      obtain ⟨B₃,σ₃,ok',st₃,hB₃,hσ₃,hS₃,hok,hq⟩ := hp₃
      have hok : ok = ok' := hok
      subst hok
      cases ok with
      | false =>
        simp only [Bool.false_eq_true,if_false] at hq ⊢
        obtain ⟨hfn,hhp,hfg⟩ := hq
        refine ⟨l.length - (i + 1),by (first|lia -abstractProof|omega),B₃,σ₃,i + 1,o₂,ys,n,rfl,hlt,hB.trans (hB₂.trans hB₃),hσ.trans (hσ₂.trans hσ₃),hAt₂,?_,?_⟩
        · rw [Ftake,hfn,Option.toList_none,List.append_nil]; exact hys.mono (hB₂.trans hB₃) (hσ₂.trans hσ₃)
        · obtain ⟨sv,sh⟩ := st₃
          have hhp : sh = st.hp := hhp
          subst hhp
          exact ⟨hS₃.g,hS₃.l.forget (st := ⟨sv,st.hp⟩) hfg⟩
      | true =>
        simp only [if_true] at hq ⊢
        refine wpAny_mono (hq A _ B₃ σ₃ s₃ hA hS₃) (fun y s₄' hp₄ => ?_) fun _ _ q => q
        obtain ⟨B₄,σ₄,w,st₄,hB₄,hσ₄,hS₄',hyw,hfs,hhp,hfg⟩ := hp₄
        obtain ⟨sv,sh⟩ := st₄
        have hhp : sh = st.hp := hhp
        subst hhp
        have hBB := hB₂.trans (hB₃.trans hB₄)
        have hσσ := hσ₂.trans (hσ₃.trans hσ₄)
        have hS₅' : S C (((kpN kp e (clOf e sc.names) s₄.heap).put I o₂).put D { cls := .type "list",data := .seq ys n }) B₄ σ₄ e' ⟨vars',st.hp⟩ s₄' := by
          rw [← put_comm (fun q => hID q.symm)]
          exact ⟨hS₄'.g,hS₄'.l.forget (st := ⟨sv,st.hp⟩) hfg⟩
        have hszys : ys.size ≤ sizeLine := by
          have q1 := sizeXs hys
          have q2 : ((l.take i).filterMap f).length ≤ (l.take i).length := List.length_filterMap_le _ _
          have q3 : (l.take i).length ≤ l.length := List.length_take_le' _ _
          rw [sizeLine_eq]; (first|lia -abstractProof|omega)
        refine wpAny_list_append_plain (hsz := hszys) ⟨n,hS₅'.g.kept.1⟩ fun h₅ hl₅ hs₅ => ?_
        obtain ⟨n',hn'⟩ := hl₅
        refine ⟨l.length - (i + 1),by (first|lia -abstractProof|omega),B₄,σ₄,i + 1,o₂,ys.push y,n',rfl,hlt,hB.trans hBB,hσ.trans hσσ,hAt₂,?_,?_⟩
        · rw [Ftake,hfs,Option.toList_some,Array.toList_push]
          exact RelL.snoc (hys.mono hBB hσσ) hyw
        · rw [put_comm (fun q => hID q.symm)]
          exact hS₅'.rekeep (by rw [put_ne (fun q => hID q.symm)]; exact hkD) (fun b o hb q => hs₅.extBut b o hb q) hn' hS₅'.g.gens rfl (Nat.le_refl _)
    · have hil : i = l.length := by (first|lia -abstractProof|omega)
      subst hil
      refine TI.stop hA.1 hS'.g hB hσ hR hS'.g.kept.1 (by rw [List.length_map]; exact hAt') fun h₂ tk htk keep₂ => ?_
      have hS₁ := hS'.drop (s' := { s' with heap := h₂,toks := tk }) hkI' keep₂ hS'.g.gens rfl htk
      have gD' := hS₁.g.kept.1
      have hS₂ := hS₁.unkeep hkD
      have hFD := hS₁.kfree hkD
      obtain ⟨m',hns',_⟩ := hS₂.l.ns
      have hC'priv := hS₂.l.priv C' (by rw [← e5]; exact List.mem_cons_self)
      have hout := nest_out hS₄ hB hσ hv hco e1 e4 (by rw [e5]; exact FC.priv) (fun _ _ => rfl) hS₂ (Fgt.refl _)
      rw [List.take_length] at hys
      refine fin B' σ' D C' _ n ys m' hB hσ hout ⟨FD.kp,hFD.b,hFD.own,FD.priv⟩ ⟨FC.kp,hC'priv.2.1,hC'priv.2.2,FC.priv⟩ hDC gD' hys (by rw [← e5]; exact hns')
  refine codeAny_compStart_list loop (TI.self (by rw [hs4h]; exact gI) hAt loop)
theorem own_at {D : Addr} {σ : List Addr} {hp : List AObj} (h : σ.length = hp.length) : (σ ++ [D])[hp.length]? = some D := by rw [← h]; simp
noncomputable def CompGo (C : Cx) (d : Nat) (e : Env) (target elt : Expr) (ifs : List Expr) (sc : Scope) (v : V) (st₁ : St) (Q : V → St → Prop) : Prop :=
  ∃ (α : Type) (l : List α) (g : α → V) (f : α → Option V) (R : List AObj → Prop) (vars' gl' : List (Str × V)),ItV C v st₁.hp (l.map g) R ∧ R st₁.hp ∧ l.length ≤ 16777216 ∧ CV e st₁.vars sc.names vars' ∧ mkGl sc.names globTab = gl' ∧
      (∀ e' : Env,e'.scope = relabel sc e → GL C e' gl' → ∀ a ∈ l,CT C d e' target elt ifs vars' st₁.hp (g a) (f a)) ∧ Q (.own st₁.hp.length) ⟨st₁.vars,st₁.hp ++ [.list (l.filterMap f)]⟩
theorem comp_clos {sc : Scope} {vars₀ : List (Str × V)} {kp B : Base} {σ : List Addr} {s : Shared} (hS : S C kp B σ e st s) (hv : CV e st.vars sc.names vars₀) : closureFor sc e = pure (clOf e sc.names) :=
  closureFor_eq fun x hx => by obtain ⟨c,_,_,_,g1,_⟩ := caught hS.l hv hx; exact ⟨c,g1⟩
theorem comp_names {sc : Scope} (hn : (sc.names.map (·.1)).Nodup) : ∀ x ∈ sc.names,x.2 = NameKind.local → sc.names.lookup x.1 = some .local := fun x hx hl => by
  have := lookup_of_nodup (x := x.1) (y := x.2) hn hx
  rw [hl] at this; exact this
theorem T_ListComp {elt target iter : Expr} {ifs : List Expr} {sc : Scope} {pos : Pos} {Q : V → St → Prop} {vars₀ : List (Str × V)} (hv₀ : CV e st.vars sc.names vars₀)
    (h : TV C d e (eval iter e) st fun v st₁ => CompGo C d e target elt ifs sc v st₁ Q)
    (hc : compOk sc = true) (hs : ∀ x,foldedSetIterable iter e x = pure x) : TV C d e (eval (.ListComp elt [⟨target,iter,ifs,0⟩] sc pos) e) st Q := by
  intro A kp B σ s hA hS
  rw [eval_ListComp]
  have hco := compOk_iff hc
  refine wpAny_comprehension_free (use := none) rfl hs (comp_clos hS hv₀) hco.kind (comp_names hco.nodup) (wpAny_mono (h A kp B σ s hA hS) (fun va s₁ hp₁ => ?_) fun _ _ q => q)
  obtain ⟨B₁,σ₁,v,st₁,hB₁,hσ₁,hS₁,hr,α,l,g,f,R,vars',gl',hit,hR,hz,hv,hgl,turn,hq⟩ := hp₁
  refine comp_core (QQ := fun acc C' => compPost (model P C.w) A NoE none (Post C kp B σ e (Rel C) Q) acc C') hA hS₁ hr hit hR hz hv hc hgl turn ?_
  intro B' σ' D C' s' n ys m hB hσ hS' FD FC hDC gD hys hns
  refine ⟨m,hns,fun h' hs' => ?_⟩
  have hS₂ := hS'.but (s' := { s' with heap := h' }) FC (fun b o hb q => hs'.extBut b o hb q) hS'.g.gens rfl (Nat.le_refl _)
  have gD₂ := hs'.extBut D _ hDC gD
  have hS₃ := hS₂.adopt (ao := .list (l.filterMap f)) FD gD₂ ⟨ys,n,gD₂,hys.mono (Sub.refl _) (List.prefix_append _ _)⟩
  exact ⟨B',σ' ++ [D],.own st₁.hp.length,_,hB₁.trans hB,(hσ₁.trans hσ).trans (List.prefix_append _ _),hS₃,⟨D,rfl,own_at hS'.g.len⟩,hq⟩
theorem T_AssignC {elt target iter : Expr} {ifs : List Expr} {sc : Scope} {pos spos py : Pos} {y : Str} {Q : AF → St → Prop} {vars₀ : List (Str × V)} (hv₀ : CV e st.vars sc.names vars₀)
    (h : TV C d e (eval iter e) st fun v st₁ => CompGo C d e target elt ifs sc v st₁ fun w st₂ => Asg C d e (.Name y py) w st₂ (Q .next))
    (hsw : swapsWith (.ListComp elt [⟨target,iter,ifs,0⟩] sc pos) (some (.Name y py)) spos.line e = pure true)
    (hc : compOk sc = true) (hs : ∀ x,foldedSetIterable iter e x = pure x) : TF C d e (exec (.Assign [.Name y py] (.ListComp elt [⟨target,iter,ifs,0⟩] sc pos) spos) e) st Q := by
  intro A kp B σ s hA hS
  rw [exec_Assign_Name_used _ _ _ _ hsw]
  refine wpAny_bind (wpAny_standAt (wpAny_bind ?_))
  show wpAny _ A (do let _ ← comprehension (.ListComp elt [⟨target,iter,ifs,0⟩] sc pos) sc e _ (newList []) false (eval iter e) (some (assign (.Name y py) e))) _ _ s
  have hco := compOk_iff hc
  refine wpAny_bind (wpAny_mono (wpAny_comprehension_free (use := some (assign (.Name y py) e)) (Q := fun _ s' => Post C kp B σ e (RelF C) Q .next s') rfl hs (comp_clos hS hv₀) hco.kind (comp_names hco.nodup)
    (wpAny_mono (h A kp B σ s hA hS) (fun va s₁ hp₁ => ?_) fun _ _ q => q)) (fun _ s' hq => wpAny_pure (wpAny_pure hq)) fun _ _ q => q)
  obtain ⟨B₁,σ₁,v,st₁,hB₁,hσ₁,hS₁,hr,α,l,g,f,R,vars',gl',hit,hR,hz,hv,hgl,turn,hq⟩ := hp₁
  refine comp_core (QQ := fun acc C' => compPost (model P C.w) A NoE (some (assign (.Name y py) e)) (fun _ s' => Post C kp B σ e (RelF C) Q .next s') acc C') hA hS₁ hr hit hR hz hv hc hgl turn ?_
  intro B' σ' D C' s' n ys m hB hσ hS' FD FC hDC gD hys hns
  have hS₃ := hS'.adopt (ao := .list (l.filterMap f)) FD gD ⟨ys,n,gD,hys.mono (Sub.refl _) (List.prefix_append _ _)⟩
  obtain ⟨oC,es,ep,gC,hdat,hkeys⟩ := hns
  have FC₃ : Free C kp B' (σ' ++ [D]) e (st₁.hp ++ [AObj.list (l.filterMap f)]) C' := ⟨FC.kp,FC.b,fun i ao h1 h2 h3 => by
    by_cases hi : i < σ'.length
    · rw [List.getElem?_append_left hi] at h1
      rw [List.getElem?_append_left (hS'.g.len ▸ hi)] at h2
      exact FC.own i ao h1 h2 h3
    · have hi' : i = σ'.length := by
        have := (List.getElem?_eq_some_iff.mp h1).1
        simp only [List.length_append,List.length_singleton] at this; (first|lia -abstractProof|omega)
      subst hi'
      simp at h1
      exact hDC h1,FC.priv⟩
  have hS₄ := hS₃.keep FC₃ gC
  refine wpAny_mono (hq A _ B' (σ' ++ [D]) s' (.ref D) hA hS₄ ⟨D,rfl,own_at hS'.g.len⟩) (fun _ s₅ hp₅ => ?_) fun _ _ q => q
  obtain ⟨B₅,σ₅,_,st₅,hB₅,hσ₅,hS₅,_,hq₅⟩ := hp₅
  refine ⟨m,⟨oC,es,ep,hS₅.g.kept.1,hdat,hkeys⟩,fun h' hs' => ?_⟩
  have hS₆ := hS₅.drop (s' := { s₅ with heap := h' }) FC.kp (fun b o hb q => hs'.extBut b o hb q) hS₅.g.gens rfl (Nat.le_refl _)
  exact ⟨B₅,σ₅,.next,st₅,(hB₁.trans hB).trans hB₅,((hσ₁.trans hσ).trans (List.prefix_append _ _)).trans hσ₅,hS₆,rfl,hq₅⟩
theorem S_AssignC {elt target iter : Expr} {ifs : List Expr} {sc : Scope} {pos spos py : Pos} {y : Str} {r : List Stmt} {Q : AF → St → Prop} {vars₀ : List (Str × V)} (hv₀ : CV e st.vars sc.names vars₀)
    (h : TV C d e (eval iter e) st fun v st₁ => CompGo C d e target elt ifs sc v st₁ fun w st₂ => Asg C d e (.Name y py) w st₂ fun st₃ => TF C d e (execs r e) st₃ Q)
    (hsw : swapsWith (.ListComp elt [⟨target,iter,ifs,0⟩] sc pos) (some (.Name y py)) spos.line e = pure true)
    (hc : compOk sc = true) (hs : ∀ x,foldedSetIterable iter e x = pure x) : TF C d e (execs (.Assign [.Name y py] (.ListComp elt [⟨target,iter,ifs,0⟩] sc pos) spos :: r) e) st Q :=
  S_cons (T_AssignC hv₀ h hsw hc hs)
theorem CEnd_i {vars vars' : List (Str × V)} {hp : List AObj} (F : Fgt vars vars' := by with_reducible repeat constructor) : CEnd vars' hp ⟨vars,hp⟩ := ⟨rfl,F⟩
end
end
section
noncomputable def lookD (es : List (List Nat × V)) (k : List Nat) : Option V := (es.find? fun p => p.1 == k).map (·.2)
section
variable {C : Cx} {d : Nat} {e : Env} {st : St}
theorem isStr_iff {x y : Str} {t : Tok} : Value.isStrOf x (.str y t) = (y.cps.toList == x.cps.toList) := by
  unfold Value.isStrOf
  rw [Bool.eq_iff_iff]
  simp only [beq_iff_eq]
  constructor
  · intro h; first | (subst h; rfl) | (rw [h])
  · intro h
    cases x; cases y
    simp only [Str.mk.injEq] at h ⊢
    first | exact Array.toList_inj.mp h.symm | exact Array.toList_inj.mp h
theorem RelD.mapOf {B : Base} {σ : List Addr} {es : List (List Nat × V)} {items : Array DictEntry} {n : Nat} {a : Addr} {h : Heap} (hr : RelD C B σ es items.toList) (ha : h.get? a = some { cls := .type "dict",data := .dict items n }) :
    h.MapOf (strKind P C.w) a (findBy (strKind P C.w).is items) := by
  refine ⟨_,items,n,ha,⟨rfl,rfl,rfl⟩,rfl,fun e he => ?_,fun k => rfl⟩
  have he : e ∈ items.toList := Array.mem_toList_iff.mpr he
  revert he
  generalize items.toList = l at hr
  induction es generalizing l with
  | nil => simp only [RelD] at hr; subst hr; intro he; cases he
  | cons p r ih =>
    obtain ⟨k,x⟩ := p
    simp only [RelD] at hr
    obtain ⟨e',r',rfl,⟨s,t,h1,h2,h3⟩,h4,h5⟩ := hr
    intro he
    rcases List.mem_cons.mp he with rfl | he
    · refine ⟨s,?_,h3⟩
      show Value.isStrOf s e.key = true
      rw [h1,isStr_iff]; simp
    · exact ih r' h5 he
theorem RelD.find {B : Base} {σ : List Addr} {es : List (List Nat × V)} {items : List DictEntry} (hr : RelD C B σ es items) (x : Str) :
    (∃ v val,lookD es x.cps.toList = some v ∧ (items.find? fun e => Value.isStrOf x e.key).map (·.val) = some val ∧ Rel C B σ v val) ∨ (lookD es x.cps.toList = none ∧ (items.find? fun e => Value.isStrOf x e.key).map (·.val) = none) := by
  induction es generalizing items with
  | nil => simp only [RelD] at hr; subst hr; exact .inr ⟨rfl,rfl⟩
  | cons p r ih =>
    obtain ⟨k,y⟩ := p
    simp only [RelD] at hr
    obtain ⟨e',r',rfl,⟨s,t,h1,h2,h3⟩,h4,h5⟩ := hr
    unfold lookD
    rw [List.find?_cons,List.find?_cons]
    dsimp only
    rw [h1,isStr_iff,h2]
    cases q : (k == x.cps.toList) with
    | true => exact .inl ⟨y,e'.val,rfl,rfl,h4⟩
    | false => exact ih h5
theorem findBy_list {items : Array DictEntry} {x : Str} : findBy (strKind P C.w).is items x = (items.toList.find? fun e => Value.isStrOf x e.key).map (·.val) := by
  unfold findBy
  rw [← Array.find?_toList]; rfl
end
end
section
noncomputable def EltOk (C : Cx) (sc : Scope) (x : Str) (elt : Expr) : Prop :=
  ∀ (A : Around) (E : Value → Shared → Prop) (s : Shared) (env : Env) (m : Str → Option Value) (c : Nat) (t : Tok),C.Ok → A.handled = none → env.scope = sc → env.globals = mainGlobals → env.builtins = builtinsNs → s.heap.Ns env.locals m → m x = some (.str ⟨#[c]⟩ t) → Sub C.b0 s.heap.get? →
    wpAny (model P C.w) A (eval elt env) (fun y s' => (∃ z u,y = .str z u ∧ z.length ≤ 4) ∧ PySem.Keeps s s') E s
structure GenOk (sc : Scope) (x : Str) : Prop where
  kind : sc.kind = .function
  co : sc.isCoroutine = false
  names : ∀ y ∈ sc.names,y.2 ≠ .cell ∧ y.2 ≠ .free
  dot : sc.names.lookup (".0" : Str) = some NameKind.local
  var : sc.names.lookup x = some NameKind.local
theorem clOf_nil {e : Env} : ∀ {n : List (Str × NameKind)},(∀ y ∈ n,y.2 ≠ .free) → clOf e n = []
  | [],_ => rfl
  | (x,k) :: r,h => by
    unfold clOf
    have hk : ¬ (k == .free) = true := fun q => h (x,k) (.head _) (by simpa using q)
    rw [if_neg hk]
    exact clOf_nil fun y hy => h y (.tail _ hy)
theorem passing_le (pz : Nat → Bool) (n i : Nat) : (passing pz n i).length ≤ n := by
  unfold passing
  refine Nat.le_trans (List.length_filter_le _ _) ?_
  simp
theorem keeps_refl (s : Shared) : PySem.Keeps s s := ⟨s.heap,s.toks,rfl,fun _ _ e => e⟩
theorem sum_le {α : Type} (f : α → Nat) (k : Nat) : ∀ (l : List α),(∀ a ∈ l,f a ≤ k) → (l.map f).sum ≤ k * l.length
  | [],_ => by simp
  | a :: l,h => by
    have h1 := h a (.head _)
    have h2 := sum_le f k l fun b hb => h b (.tail _ hb)
    simp only [List.map_cons,List.sum_cons,List.length_cons,Nat.mul_add,Nat.mul_one]
    (first|lia -abstractProof|omega)
theorem genexpr_tab {M : Model} {A : Around} {E : Value → Shared → Prop} {s : Shared} {env : Env} {c P : Addr} {ps : Array Value} {pos : Pos} {qualname : Str} {scope : Scope} {Q : Value → Shared → Prop} (hc : env.code = .ref c) (hok : s.heap.IsCode c P ps) (htab : s.heap.TableAt c P ps)
    (hQ : ∀ code h' tk ps',Heap.ExtBut P s.heap h' → h'.IsCode c P ps' → h'.TableAt c P ps' → Q code { s with heap := h',toks := tk }) :
    wpAny M A (genexprCode env pos qualname scope) Q E s := by
  cases hnf : codeAmong pos ps.toList with
  | some cv => exact wpAny_genexprCode_hit hc hok hnf (hQ cv s.heap s.toks ps (Heap.ExtBut.refl _ _) hok htab)
  | none => exact wpAny_genexprCodeX hc hok htab hnf fun c' h' tk h1 _ _ h2 _ h3 _ => hQ _ h' tk _ h1 h2 h3
theorem pyIter_strF {prog : Program} {w : World} {A : Around} {E : Value → Shared → Prop} {s : Shared} {x : Str} {t : Tok} {Q : Value → Shared → Prop}
    (hQ : ∀ (o : Obj) (St : Nat → Heap → Prop),o.isFreed = false → (∀ A' : Around,A'.handled = none → Walks prog w A' s.heap.objs.size [s.heap.objs.size] [s.heap.objs.size] x.cps.size (SignAt x) St) → St 0 (s.heap.push o) →
      Q (.ref s.heap.objs.size) { s with heap := s.heap.push o }) : wpAny (model prog w) A (pyIter (.str x t)) Q E s := by
  cases ha : x.cps.all (· < 128)
  · exact wpAny_pyIter_wide ha (hQ _ _ rfl (fun A' hA => Walks.strWide hA _ x t) ⟨_,Heap.get?_push_size _ rfl,rfl,rfl⟩)
  · exact wpAny_pyIter_ascii ha (hQ _ _ rfl (fun A' hA => Walks.strAscii hA _ x t) ⟨_,Heap.get?_push_size _ rfl,rfl,rfl⟩)
section
variable {C : Cx} {d : Nat} {e : Env} {st : St}
theorem M_joinGen {o elt iter : Expr} {x : Str} {px apos gpos pos : Pos} {sc : Scope} {Q : V → St → Prop} (hge : GenOk sc x) (hel : EltOk C sc x elt)
    (h : TV C d e (eval o e) st fun ov st₁ => ov = .str [] ∧ TV C d e (eval iter e) st₁ fun v st₂ => ∃ (l : List Nat) (k : Nat) (c : Addr),v = .str l ∧ l.length ≤ 100000 ∧ st₂.hp[k]? = some (.tab c) ∧ e.code = .ref c ∧ ∀ m,m.length ≤ 4 * l.length → Q (.str m) st₂)
    (hbase : attributeBase o (oS "join") e (eval o e) = eval o e)
    (hfew : ((backTo pos (starEach [Expr.GeneratorExp elt [⟨.Name x px,iter,[],0⟩] sc gpos] e)).all (fun x => !x.1) && (backToKw pos (keywordEach [] e)).all (fun x => x.1.isSome) && decide ([Expr.GeneratorExp elt [⟨.Name x px,iter,[],0⟩] sc gpos].length + ([] : List Keyword).length + (if ([] : List Keyword).isEmpty then 0 else 1) < 30)) = true)
    (hline : (apos.endLine == pos.line) = true)
    (hx : backTo pos (starEach [Expr.GeneratorExp elt [⟨.Name x px,iter,[],0⟩] sc gpos] e) = [(false,eval (Expr.GeneratorExp elt [⟨.Name x px,iter,[],0⟩] sc gpos) e)])
    (hs : ∀ x,genFold iter e x = pure x) :
    TV C d e (eval (.Call (.Attribute o (oS "join") apos) [.GeneratorExp elt [⟨.Name x px,iter,[],0⟩] sc gpos] [] pos) e) st Q := by
  intro A kp B σ s hA hS
  refine wpAny_Call_method hbase hfew hline PySem.F.plainAttrs_str PySem.F.slot_str_join PySem.F.type_str_join (wpAny_mono (h A kp B σ s hA hS) (fun ov s₁ hp => ?_) fun _ _ x => x)
  obtain ⟨B₁,σ₁,o',st₁,hB₁,hσ₁,hS₁,hr,rfl,hit⟩ := hp
  obtain ⟨sep,tsep,rfl,hsep⟩ := hr
  refine ⟨typeIs_str _ _ _,(fun a q => by cases q),?_⟩
  rw [hx]
  refine Calls.callWith_builtin rfl (Calls.evalArgs_plain (Calls.spliced_cons (wpAny_with_toks (Nat.le_refl s₁.toks) ?_)))
  have hgl : e.globals = mainGlobals := hS.l.glob
  refine wpAny_GeneratorExp_walksQ hA.1 hge.co (cl := []) ?_ (fun y hy => (hge.names y hy).1) hge.dot hge.var hge.kind (Nat.lt_of_lt_of_le (by have := hA.2.1; (first|lia -abstractProof|omega) : A.depth < 991) (by decide)) ?_ hs
  · have := closureFor_eq (e := e) (sc := sc) fun y hy => absurd rfl (hge.names _ hy).2
    rw [clOf_nil fun y hy => (hge.names y hy).2] at this; exact this
  refine wpAny_mono (hit A kp B₁ σ₁ s₁ hA hS₁) (fun xv s₂ hp₂ => ?_) fun _ _ q => q.elim
  obtain ⟨B₂,σ₂,v,st₂,hB₂,hσ₂,hS₂,hr₂,l,k,c,rfl,hl,hk,hcode,hq⟩ := hp₂
  obtain ⟨y,ty,rfl,hy⟩ := hr₂
  refine pyIter_strF fun oI St₀ hoI W hSt => ?_
  have hS₃ := hS₂.push oI s₂.toks s₂.drawn
  have hb₃ : Sub C.b0 (s₂.heap.push oI).get? := hS₃.g.b0.trans hS₃.g.bh
  refine ⟨hS₃.g.ok.lim _ hb₃,?_⟩
  obtain ⟨tb,htb⟩ : ∃ tb,σ₂[k]? = some tb := by
    have : k < σ₂.length := by rw [hS₂.g.len]; exact (List.getElem?_eq_some_iff.mp hk).1
    exact ⟨σ₂[k],List.getElem?_eq_getElem this⟩
  obtain ⟨hkt,hbt,⟨ot,hot⟩,⟨oc,hoc⟩,ps,hcd,htab⟩ := hS₃.g.own k tb _ htb hk trivial
  have hot' : ∃ o,s₂.heap.get? tb = some o := (hS₂.g.own k tb _ htb hk trivial).2.2.1
  have htI : tb ≠ s₂.heap.objs.size := fun q => by obtain ⟨o,z⟩ := hot'; rw [q,get_none_size] at z; cases z
  refine wpAny_with_toks (Nat.le_refl s₂.toks) (genexpr_tab (s := { s₂ with heap := s₂.heap.push oI }) hcode hcd htab fun code h' tk ps' hext hcd' htab' htk => ?_)
  dsimp only at hext htk
  have hS₄ : S C kp B₂ σ₂ e ⟨st₂.vars,st₂.hp.set k (.tab c)⟩ ⟨h',s₂.gens,s₂.drawn,tk,s₂.os⟩ :=
    S.change (s := ⟨s₂.heap.push oI,s₂.gens,s₂.drawn,s₂.toks,s₂.os⟩) (ao := .tab c) (ao' := .tab c) hS₃ htb hk trivial (fun b o hb q => hext b o hb q) (by obtain ⟨_,_,_,_,_,_,_,_,_,op,_,_,_,_,_,_,_,g,_⟩ := hcd'; exact ⟨op,g⟩) ⟨⟨oc,hoc⟩,ps',hcd',htab'⟩ tk s₂.drawn htk
  have hset : st₂.hp.set k (.tab c) = st₂.hp := by
    apply List.ext_getElem?
    intro i
    by_cases hi : k = i
    · subst hi; rw [List.getElem?_set_self ((List.getElem?_eq_some_iff.mp hk).1)]; exact hk.symm
    · rw [List.getElem?_set_ne hi]
  rw [hset] at hS₄
  have hb₄ : Sub C.b0 h'.get? := hS₄.g.b0.trans hS₄.g.bh
  obtain ⟨bm,ob,g1,g2,g3,g4,g5,g6⟩ := hS₄.g.ok.bm
  refine wpAny_builtinsFor (by rw [hgl]; exact hS₄.g.ok.g _ hb₄) g1 g2 (hb₄ _ _ g3) g4 g5 g6 ?_
  have hI' : ∀ o,(s₂.heap.push oI).get? s₂.heap.objs.size = some o → h'.get? s₂.heap.objs.size = some o := fun o q => hext _ o (fun z => htI z.symm) q
  have hlim := hS₄.g.ok.lim _ hb₄
  have hsize : s₂.heap.objs.size < h'.objs.size := by exact Heap.lt_size (hI' oI (Heap.get?_push_size _ hoI))
  have hn : y.cps.size = l.length := by rw [← hy]; simp
  refine ⟨s₂.heap.objs.size,[s₂.heap.objs.size],[s₂.heap.objs.size],y.cps.size,SignAt y,St₀,(fun _ => true),(fun _ w => ∃ z u,w = .str z u ∧ z.length ≤ 4),rfl,W,(W A hA.1).frame _ _ _ hSt (fun b hb o q => by simp only [List.mem_singleton] at hb; subst hb; exact hI' o q),(fun b hb => by simp only [List.mem_singleton] at hb; subst hb; exact hsize),hlim,?_,fun href hhref => ⟨?_,?_⟩,?_⟩
  · intro hm
    simp only [List.mem_singleton] at hm
    obtain ⟨mc,⟨o,es,ep,z,_⟩,_⟩ := hS₂.g.ok.lim _ (hS₂.g.b0.trans hS₂.g.bh)
    rw [hm,get_none_size] at z; cases z
  · intro A' E' i v s' m' hA' hP hns hm hfr
    exact wpAny_tests_nil ⟨rfl,keeps_refl s'⟩
  · intro A' E' i v s' m' hA' hP _ hns hm hfr
    obtain ⟨cc,u,hcc,rfl⟩ := hP
    refine hel A' E' s' _ m' cc u hS₄.g.ok hA' rfl hgl rfl hns hm fun a o ha => ?_
    have h1 := hS₂.g.bh _ _ (hS₂.g.b0 a o ha)
    have hne : a ≠ s₂.heap.objs.size := fun q => by rw [q,get_none_size] at h1; cases h1
    exact hfr a (List.mem_range.mpr (Heap.lt_size (hb₄ a o ha))) (by simpa using hne) o (hhref a o (hb₄ a o ha))
  · intro a h₅ tk₅ gs hgb hag hsz₅ hk₅ W₅ hat htk₅
    refine Calls.spliced_nil ?_
    dsimp only at htk₅
    refine wpAny_with_toks (n := s₁.toks) htk₅ (PySem.SC.joinGen W₅.in4_2 (fun i s' st => st.1.typeIs) hat ?_ (List.mem_cons_self) (fun j v hv => by obtain ⟨i,_,z,u,rfl,_⟩ := hv; exact ⟨z,u,rfl⟩) (fun s' lt hm hacc => ?_) ?_)
    · intro b hb
      show b < h₅.objs.size
      rw [hsz₅]
      rcases List.mem_cons.mp hb with rfl | hb
      · exact Nat.lt_succ_self _
      · rcases List.mem_cons.mp hb with rfl | hb
        · exact Nat.lt_succ_of_lt hag
        · exact Nat.lt_succ_of_lt (Nat.lt_trans (List.mem_range.mp hb) hag)
    · have hlen : lt.length ≤ l.length := by
        have e1 := hacc.1
        have e2 := passing_le (fun _ => true) y.cps.size 0
        have e3 : (strValues lt).toArray.size = lt.length := by simp [strValues]
        (first|lia -abstractProof|omega)
      have hsmall : ∀ p ∈ lt,p.1.length ≤ 4 := fun p hp => by
        obtain ⟨j,hj,rfl⟩ := List.mem_iff_getElem.mp hp
        obtain ⟨i,_,z,u,e1,e2⟩ := hacc.2 j (.str lt[j].1 lt[j].2) (by simp [strValues,List.getElem?_eq_getElem hj])
        injection e1 with e1 _; rw [e1]; exact e2
      have hsum : ((lt.map (·.1)).map (fun x : Str => x.length)).sum ≤ 4 * lt.length := by
        have := sum_le (fun p : Str × Tok => p.1.length) 4 lt hsmall
        rw [List.map_map]; exact this
      refine ⟨joinOk_of_weight (by rw [List.length_map]; (first|lia -abstractProof|omega)) (by
        have : sep.cps.size = 0 := by have := congrArg List.length hsep; simpa using this
        show sep.cps.size ≤ 16
        (first|lia -abstractProof|omega)),fun t' tk' htk' => ?_⟩
      dsimp only at htk'
      have hS₅ : S C kp B₂ σ₂ e st₂ ⟨s'.heap,s'.gens,s'.drawn,tk',s'.os⟩ := by
        have hS₄' : S C kp B₂ σ₂ e st₂ ⟨h',s₂.gens,s₂.drawn,C.tk,s₂.os⟩ := ⟨⟨hS₄.g.ok,hS₄.g.bh,hS₄.g.b0,hS₄.g.kh,hS₄.g.len,hS₄.g.own,hS₄.g.inj,hS₄.g.gens,hS₄.g.os,Nat.le_refl _⟩,⟨hS₄.l.fn,hS₄.l.glob,hS₄.l.bi,hS₄.l.nodup,hS₄.l.ns,hS₄.l.kinds,hS₄.l.cells,hS₄.l.priv,hS₄.l.apart,hS₄.l.alive⟩⟩
        refine hS₄'.but (x := s₂.heap.objs.size) ?_ (fun b o hb q => ?_) ?_ ?_ ?_
        · exact Free.fresh hS₂ (get_none_size _)
        · refine hm.heap b o (fun hmem => ?_) (hk₅ b o q)
          rcases List.mem_cons.mp hmem with z | z
          · subst z
            have : h'.get? h'.objs.size = some o := q
            rw [get_none_size] at this; cases this
          · exact hb (by simpa using z)
        · exact (hS₂.g.gens.push hgb).moved hm.gens
        · exact hm.os
        · have := hS₁.g.tk; exact Nat.le_trans this htk'
      refine ⟨B₂,σ₂,.str (Txt.join sep (lt.map (·.1))).cps.toList,st₂,(hB₁.trans hB₂),(hσ₁.trans hσ₂),hS₅,⟨_,_,rfl,rfl⟩,hq _ ?_⟩
      have e1 := StrLaws.join_length_le sep (lt.map (·.1))
      have e2 : sep.length = 0 := by have := congrArg List.length hsep; simpa [Str.length] using this
      rw [e2,Nat.mul_zero,Nat.add_zero] at e1
      have e3 : (Txt.join sep (lt.map (·.1))).cps.toList.length = (Str.join sep (lt.map (·.1))).length := by
        have : Txt.join sep (lt.map (·.1)) = Str.join sep (lt.map (·.1)) := StrLaws.glued_eq_join sep _
        rw [this]; exact Array.length_toList
      rw [e3]
      (first|lia -abstractProof|omega)
    · have e2 := passing_le (fun _ => true) y.cps.size 0
      rw [sizeLine_eq]; (first|lia -abstractProof|omega)
end
end
section
noncomputable def isLoc : NameKind → Bool
  | .local => true
  | _ => false
noncomputable def isGlo : NameKind → Bool
  | .globalImplicit => true
  | _ => false
noncomputable def plainKind : NameKind → Bool
  | .cell | .free => false
  | _ => true
noncomputable def genOkB (sc : Scope) (x : Str) : Bool := (match sc.kind with | .function => true | _ => false) && !sc.isCoroutine && nodupS (sc.names.map (·.1)) && sc.names.all (fun p => plainKind p.2) && sc.names.any (fun p => eqS p.1 (".0" : Str) && isLoc p.2) && sc.names.any (fun p => eqS p.1 x && isLoc p.2)
theorem lookup_any {l : List (Str × NameKind)} {x : Str} {f : NameKind → Bool} {k : NameKind} (hf : ∀ k',f k' = true → k' = k) (hn : (l.map (·.1)).Nodup) (h : (l.any fun p => eqS p.1 x && f p.2) = true) : l.lookup x = some k := by
  obtain ⟨⟨y,k'⟩,hp,hq⟩ := List.any_eq_true.mp h
  simp only [Bool.and_eq_true] at hq
  have e1 : y = x := eqS_iff.mp hq.1
  have e2 := hf k' hq.2
  subst e1; subst e2
  exact lookup_of_nodup hn hp
theorem isLoc_eq : ∀ k,isLoc k = true → k = .local := by intro k; cases k <;> simp [isLoc]
theorem isGlo_eq : ∀ k,isGlo k = true → k = .globalImplicit := by intro k; cases k <;> simp [isGlo]
theorem genOk_of {sc : Scope} {x : Str} (h : genOkB sc x = true) : GenOk sc x := by
  simp only [genOkB,Bool.and_eq_true,Bool.not_eq_true',List.all_eq_true] at h
  obtain ⟨⟨⟨⟨⟨h1,h2⟩,h3⟩,h4⟩,h5⟩,h6⟩ := h
  have hn := nodupS_iff h3
  refine ⟨?_,h2,fun y hy => ?_,lookup_any isLoc_eq hn h5,lookup_any isLoc_eq hn h6⟩
  · revert h1; cases sc.kind <;> simp
  · have := h4 y hy
    revert this; cases y.2 <;> simp [plainKind]
theorem neDebug {x : Str} (h : eqS x ("__debug__" : Str) = false) : (x == ("__debug__" : Str)) = false := by
  cases q : x == ("__debug__" : Str) with
  | false => rfl
  | true => rw [eqS_iff.mpr (beq_iff_eq.mp q)] at h; cases h
section
variable {C : Cx}
theorem keeps_toks (s : Shared) (n : Nat) : PySem.Keeps s { s with toks := n } := ⟨s.heap,n,rfl,fun _ _ e => e⟩
theorem elt_get {sc : Scope} {x g : Str} {es : List (List Nat × V)} {p1 p2 p3 p4 p5 : Pos} (hk : sc.kind = .function) (hl : sc.names.lookup x = some .local) (hd : (x == ("__debug__" : Str)) = false) (hg : sc.names.lookup g = some .globalImplicit) (hgd : (g == ("__debug__" : Str)) = false)
    (hes : (g,V.dct es) ∈ globTab) (hall : ∀ k,∀ v ∈ lookD es k,∃ l,v = V.str l ∧ l.length ≤ 4) (hne : p3.endLine = p4.line)
    (hfew : ∀ env : Env,((backTo p4 (starEach [Expr.Name x p1,Expr.Name x p2] env)).all (fun x => !x.1) && (backToKw p4 (keywordEach [] env)).all (fun x => x.1.isSome) && decide ([Expr.Name x p1,Expr.Name x p2].length + ([] : List Keyword).length + (if ([] : List Keyword).isEmpty then 0 else 1) < 30)) = true)
    (hx : ∀ env : Env,backTo p4 (starEach [Expr.Name x p1,Expr.Name x p2] env) = [(false,eval (Expr.Name x p1) env),(false,eval (Expr.Name x p2) env)])
    (hbase : ∀ env : Env,attributeBase (Expr.Name g p5) (oS "get") env (eval (Expr.Name g p5) env) = eval (Expr.Name g p5) env) :
    EltOk C sc x (.Call (.Attribute (.Name g p5) (oS "get") p3) [.Name x p1,.Name x p2] [] p4) := by
  intro A E s env m c t ok hA hsc hgl hb hns hm hs
  obtain ⟨val,hv,hr⟩ := ok.tab g _ hes
  obtain ⟨a,items,n,rfl,h0,h1,h2⟩ := hr C.b0 [] (Sub.refl _)
  have hmap := RelD.mapOf h2 (hs _ _ h1)
  have hkf : env.scope.kind = .function := by rw [hsc]; exact hk
  have ldx : ∀ (p : Pos) (Q : Value → Shared → Prop) (E : Value → Shared → Prop),Q (.str ⟨#[c]⟩ t) s → wpAny (model P C.w) A (eval (.Name x p) env) Q E s := fun p Q E q => wpAny_Name (wpAny_loadName_local hkf (by rw [Env.kindOf,hsc]; exact hl) hns hm q) hd
  have fin : wpAny (model P C.w) A (callWith p4 (.builtin "dict.get") [.ref a] [(false,eval (.Name x p1) env),(false,eval (.Name x p2) env)] []) (fun y s' => (∃ z u,y = .str z u ∧ z.length ≤ 4) ∧ PySem.Keeps s s') E s := by
    refine wpAny_dict_get2 (knd := strKind P C.w) h0 (ldx _ _ _ (ldx _ _ _ ⟨⟨#[c]⟩,_,strKind_is P C.w _ t,hmap,?_,keeps_toks s _⟩))
    rw [findBy_list]
    rcases RelD.find h2 ⟨#[c]⟩ with ⟨v',w,g1,g2,g3⟩ | ⟨g1,g2⟩
    · rw [g2]
      obtain ⟨l,rfl,hl4⟩ := hall _ v' g1
      obtain ⟨z,u,rfl,hz⟩ := g3
      exact ⟨z,u,rfl,by rw [← hz] at hl4; simpa [Str.length] using hl4⟩
    · rw [g2]; exact ⟨_,_,rfl,by show (1 : Nat) ≤ 4; decide⟩
  refine wpAny_Call_method (hbase env) (hfew env) (by rw [hne]; simp) PySem.F.plainAttrs_dict PySem.F.slot_dict_get PySem.F.type_dict_get ?_
  have key : (hmap.typeIs : Shared.TypeIs s (.ref a) "dict") = hmap.typeIs := rfl
  have done : Shared.TypeIs s (.ref a) "dict" ∧ (∀ b,Value.ref a = .ref b → ∃ ob,s.heap.get? b = some ob ∧ ob.dict = none) ∧ wpAny (model P C.w) A (callWith p4 (.builtin "dict.get") [.ref a] (backTo p4 (starEach [Expr.Name x p1,Expr.Name x p2] env)) []) (fun y s' => (∃ z u,y = .str z u ∧ z.length ≤ 4) ∧ PySem.Keeps s s') E s :=
    ⟨hmap.typeIs,fun b q => by cases q; exact ⟨_,hs _ _ h1,rfl⟩,by rw [hx]; exact fin⟩
  rcases hv with hv | ⟨hv1,hv2⟩
  · exact Name_function_global hkf (by rw [Env.kindOf,hsc]; exact hg) (loadGlobal_global (by rw [hgl]; exact ok.g _ hs) hv done) hgd
  · exact Name_function_global hkf (by rw [Env.kindOf,hsc]; exact hg) (loadGlobal_builtin (by rw [hgl]; exact ok.g _ hs) hv1 (by rw [hb]; exact ok.b _ hs) hv2 done) hgd
end
end
section
noncomputable def find2Go (a b : Nat) (l : List Nat) : Nat → Nat → Option Nat
  | 0,_ => none
  | n + 1,i => if i + 1 < l.length ∧ ch l i = a ∧ ch l (i + 1) = b then some i else find2Go a b l n (i + 1)
noncomputable def find2 (a b : Nat) (l : List Nat) (i : Nat) : Option Nat := find2Go a b l (l.length - i) i
section
variable {C : Cx} {d : Nat} {e : Env} {st : St}
theorem T_Joined3 {a b : String} {ka kb : Nat} {pa pb pf pos : Pos} {value : Expr} {Q : V → St → Prop} (ha : (oS a).length ≤ 10 := by with_unfolding_all (first | decide | rfl)) (hb : (oS b).length ≤ 10 := by with_unfolding_all (first | decide | rfl))
    (h : TV C d e (eval value e) st fun v st₁ => ∃ l,v = .str l ∧ l.length ≤ 10000000 ∧ ∀ m,m.length ≤ l.length + 20 → Q (.str m) st₁) :
    TV C d e (eval (.JoinedStr [.Constant (.str (oS a)) ka pa,.FormattedValue value (-1) none pf,.Constant (.str (oS b)) kb pb] pos) e) st Q := by
  intro A kp B σ s hA hS
  refine wpAny_JoinedStr ?_
  show wpAny _ A (eval _ e) _ _ s
  refine wpAny_Constant_str ⟨_,_,rfl,?_,?_⟩
  · have : (Str.empty ++ oS a).length = (oS a).length := by rw [strLen_append]; simp [Str.empty,Str.length]
    rw [this,sizeLine_eq]; (first|lia -abstractProof|omega)
  show wpAny _ A (eval _ e) _ _ _
  refine wpAny_FormattedValue_plain (wpAny_mono (h A kp B σ _ hA (hS.toks _ _)) (fun v s₁ hp => ?_) fun _ _ q => q)
  obtain ⟨B₁,σ₁,a',st₁,g1,g2,g3,g4,l,rfl,hl,hq⟩ := hp
  obtain ⟨x,t,rfl,hx⟩ := g4
  have hxl := str_len hx
  refine wpAny_with_toks (Nat.le_refl s₁.toks) (SB.field_str (hsz := by rw [sizeLine_eq]; (first|lia -abstractProof|omega)) fun t' k hk => ?_)
  have e0 : (Str.empty ++ oS a).length = (oS a).length := by rw [strLen_append]; simp [Str.empty,Str.length]
  have e1 : (Str.empty ++ oS a ++ x).length = (oS a).length + x.length := by rw [strLen_append,e0]
  have e2 : (Str.empty ++ oS a ++ x ++ oS b).length = (oS a).length + x.length + (oS b).length := by rw [strLen_append,e1]
  refine ⟨x,t',rfl,by rw [e1,sizeLine_eq]; (first|lia -abstractProof|omega),?_⟩
  show wpAny _ A (eval _ e) _ _ _
  refine wpAny_Constant_str ⟨_,_,rfl,by rw [e2,sizeLine_eq]; (first|lia -abstractProof|omega),?_⟩
  refine ⟨by rw [e2,sizeLine_eq]; (first|lia -abstractProof|omega),?_⟩
  dsimp only at hk
  have hS' := g3.toks (k + 1 + 1) s₁.drawn (Nat.le_trans hk (by (first|lia -abstractProof|omega)))
  refine ⟨B₁,σ₁,.str (Str.empty ++ oS a ++ x ++ oS b).cps.toList,st₁,g1,g2,hS',⟨_,_,rfl,rfl⟩,hq _ ?_⟩
  have e3 : (Str.empty ++ oS a ++ x ++ oS b).cps.toList.length = (Str.empty ++ oS a ++ x ++ oS b).length := Array.length_toList
  rw [e3,e2]; (first|lia -abstractProof|omega)
end
end
section
noncomputable def LstAt (hp : List AObj) (v : V) (xs : List V) : Prop := v = .lst xs ∨ ∃ k,v = .own k ∧ hp[k]? = some (.list xs)
noncomputable def toD : V → PyData
  | .undef => .none
  | .none => .none
  | .bool b => .bool b
  | .int i => .int i
  | .str l => .str ⟨l.toArray⟩
  | .tup xs => .tuple (toDs xs)
  | .lst xs => .list (toDs xs)
  | _ => .none
where toDs : List V → List PyData
  | [] => []
  | x :: xs => toD x :: toDs xs
noncomputable def isD : V → Bool
  | .none => true
  | .bool b => true
  | .int i => true
  | .str l => l.all (· < 0x110000)
  | .tup xs => isDs xs
  | .lst xs => isDs xs
  | _ => false
where isDs : List V → Bool
  | [] => true
  | x :: xs => isD x && isDs xs
section
variable {C : Cx} {d : Nat} {e : Env} {st : St} {kp B : Base} {σ : List Addr} {hp : List AObj} {s : Shared}
theorem LstAt.lst {xs : List V} : LstAt hp (.lst xs) xs := .inl rfl
theorem LstAt.own {k : Nat} {xs : List V} (h : hp[k]? = some (.list xs)) : LstAt hp (.own k) xs := .inr ⟨k,rfl,h⟩
theorem LstAt.is {v : V} {xs : List V} {va : Value} (h : LstAt hp v xs) (hG : G C kp B σ hp s) (hr : Rel C B σ v va) : ∃ a items n,va = .ref a ∧ IsL s.heap a items n ∧ RelL C B σ xs items.toList := by
  rcases h with rfl | ⟨k,rfl,hk⟩
  · obtain ⟨a,items,n,rfl,h1,h2⟩ := hr
    exact ⟨a,items,n,rfl,hG.bh _ _ h1,h2⟩
  · obtain ⟨a,rfl,ha⟩ := hr
    obtain ⟨_,_,_,items,n,g1,g2⟩ := hG.own k a _ ha hk trivial
    exact ⟨a,items,n,rfl,g1,g2⟩
theorem RelL.app : ∀ {xs ys : List V} {vs ws : List Value},RelL C B σ xs vs → RelL C B σ ys ws → RelL C B σ (xs ++ ys) (vs ++ ws)
  | [],ys,vs,ws,h,h' => by simp only [RelL] at h; subst h; exact h'
  | x :: xs,ys,vs,ws,h,h' => by
    simp only [RelL] at h
    obtain ⟨v,r,rfl,h1,h2⟩ := h
    exact ⟨v,r ++ ws,rfl,h1,RelL.app h2 h'⟩
theorem RelL.sub {lo n : Nat} : ∀ {xs : List V} {vs : List Value},RelL C B σ xs vs → RelL C B σ ((xs.drop lo).take n) ((vs.drop lo).take n) := by
  have tk : ∀ (n : Nat) {xs : List V} {vs : List Value},RelL C B σ xs vs → RelL C B σ (xs.take n) (vs.take n) := by
    intro n xs
    induction xs generalizing n with
    | nil => intro vs h; simp only [RelL] at h; subst h; simp [RelL]
    | cons x r ih =>
      intro vs h
      simp only [RelL] at h
      obtain ⟨v,r',rfl,h1,h2⟩ := h
      cases n with
      | zero => exact rfl
      | succ n => exact ⟨v,_,rfl,h1,ih n h2⟩
  have dr : ∀ (n : Nat) {xs : List V} {vs : List Value},RelL C B σ xs vs → RelL C B σ (xs.drop n) (vs.drop n) := by
    intro n
    induction n with
    | zero => intro xs vs h; exact h
    | succ n ih =>
      intro xs vs h
      cases xs with
      | nil => simp only [RelL] at h; subst h; exact rfl
      | cons x r =>
        simp only [RelL] at h
        obtain ⟨v,r',rfl,h1,h2⟩ := h
        exact ih h2
  intro xs vs h
  exact tk n (dr lo h)
mutual
theorem Rel.reads {h : Heap} (hb : Sub B h.get?) : ∀ {x : V} {v : Value},Rel C B σ x v → isD x = true → ∃ as,Reads h v (toD x) as
  | .undef,_,hr,q => by simp [isD] at q
  | .none,v,hr,q => by have hr : v = .none := hr; subst hr; exact ⟨[],.none⟩
  | .bool b,v,hr,q => by have hr : v = .bool b := hr; subst hr; exact ⟨[],.bool b⟩
  | .int i,v,hr,q => by obtain ⟨t,rfl⟩ := hr; exact ⟨[],.int i t⟩
  | .str l,v,hr,q => by
    obtain ⟨x,t,rfl,hx⟩ := hr
    subst hx
    exact ⟨[],.str x t⟩
  | .tup xs,v,hr,q => by
    simp only [Rel] at hr
    obtain ⟨a,items,n,rfl,h1,h2⟩ := hr
    simp only [isD] at q
    obtain ⟨as,h3⟩ := RelL.reads hb h2 q
    exact ⟨as,.tuple (hb _ _ h1) rfl rfl h3⟩
  | .lst xs,v,hr,q => by
    simp only [Rel] at hr
    obtain ⟨a,items,n,rfl,h1,h2⟩ := hr
    simp only [isD] at q
    obtain ⟨as,h3⟩ := RelL.reads hb h2 q
    exact ⟨a :: as,.list (hb _ _ h1) rfl rfl h3⟩
  | .dct _,_,_,q => by simp [isD] at q
  | .inst _ _,_,_,q => by simp [isD] at q
  | .own _,_,_,q => by simp [isD] at q
  | .fn _,_,_,q => by simp [isD] at q
  | .cls _,_,_,q => by simp [isD] at q
  | .raw _,_,_,q => by simp [isD] at q
  | .rng _ _ _,_,_,q => by simp [isD] at q
theorem RelL.reads {h : Heap} (hb : Sub B h.get?) : ∀ {xs : List V} {vs : List Value},RelL C B σ xs vs → isD.isDs xs = true → ∃ as,ReadsAll h vs (toD.toDs xs) as
  | [],vs,hr,q => by simp only [RelL] at hr; subst hr; exact ⟨[],.nil⟩
  | x :: xs,vs,hr,q => by
    simp only [RelL] at hr
    obtain ⟨v,r,rfl,h1,h2⟩ := hr
    simp only [isD.isDs,Bool.and_eq_true] at q
    obtain ⟨as,g1⟩ := Rel.reads hb h1 q.1
    obtain ⟨bs,g2⟩ := RelL.reads hb h2 q.2
    exact ⟨as ++ bs,.cons g1 g2⟩
end
mutual
theorem isD_lay : ∀ {x : V},isD x = true → (toD x).canLay0 = true
  | .undef,q => by simp [isD] at q
  | .none,q => by simp [toD,PyData.canLay0]
  | .bool b,q => by simp [toD,PyData.canLay0]
  | .int i,q => by simp [toD,PyData.canLay0]
  | .str l,q => by
    simp only [isD] at q
    simp only [toD,PyData.canLay0]
    unfold PySem.PyData.strOk
    rw [← q]; simp
  | .tup xs,q => by
    simp only [isD] at q
    simp only [toD,PyData.canLay0]
    exact isDs_lay q
  | .lst xs,q => by
    simp only [isD] at q
    simp only [toD,PyData.canLay0]
    exact isDs_lay q
  | .dct _,q => by simp [isD] at q
  | .inst _ _,q => by simp [isD] at q
  | .own _,q => by simp [isD] at q
  | .fn _,q => by simp [isD] at q
  | .cls _,q => by simp [isD] at q
  | .raw _,q => by simp [isD] at q
  | .rng _ _ _,q => by simp [isD] at q
theorem isDs_lay : ∀ {xs : List V},isD.isDs xs = true → PyData.canLayAll0 (toD.toDs xs) = true
  | [],q => rfl
  | x :: xs,q => by
    simp only [isD.isDs,Bool.and_eq_true] at q
    simp only [toD.toDs,PyData.canLayAll0,isD_lay q.1,isDs_lay q.2,Bool.and_self]
end
theorem Ap_len {v : V} {xs : List V} {Q : V → St → Prop} (hl : LstAt st.hp v xs) (hz : xs.length ≤ 16777216) (h : Q (.int (xs.length : Nat)) st) : Ap C d e (.raw (.builtin "len")) [v] st Q := by
  intro A kp B σ s fv vals hA hS hf hv
  have hf : fv = .builtin "len" := hf
  obtain ⟨va,rfl,hr⟩ := RelL1 hv
  subst hf
  obtain ⟨a,items,n,rfl,g1,g2⟩ := hl.is hS.g hr
  have e := sizeXs g2
  exact call_len_list g1.isList (by (first|lia -abstractProof|omega)) (Post.here (hS.toks _ _) (show Rel C B σ (.int (xs.length : Nat)) _ from ⟨_,by rw [e]⟩) h)
theorem Item_at {v : V} {xs : List V} {i : Nat} {x : V} {Q : V → St → Prop} (hl : LstAt st.hp v xs) (hc : xs[i]? = some x) (hz : xs.length ≤ 16777216) (h : Q x st) : Item C d e v (.int (i : Nat)) st Q := by
  rcases hl with rfl | ⟨k,rfl,hk⟩
  · exact Item_lst (by (first|lia -abstractProof|omega)) (by simpa using hc) hz h
  · exact Item_own hk (by (first|lia -abstractProof|omega)) (by simpa using hc) hz h
theorem Truth_lst {v : V} {xs : List V} {Q : Bool → St → Prop} (hl : LstAt st.hp v xs) (hz : xs.length ≤ 16777216) (h : Q (!xs.isEmpty) st) : Truth C d e v st Q := by
  intro A kp B σ s va hA hS hr
  obtain ⟨a,items,n,rfl,g1,g2⟩ := hl.is hS.g hr
  have e := sizeXs g2
  refine wpAny_truthy_list g1.isList (by (first|lia -abstractProof|omega)) (Post.here (hS.toks _ _) (show RelE B σ (!xs.isEmpty) (!items.isEmpty) from ?_) h)
  unfold RelE
  congr 1
  unfold Array.isEmpty
  rw [e]
  cases xs <;> rfl
theorem Ap_range1 {b : Int} {Q : V → St → Prop} (h : Q (.rng 0 b 1) st) : Ap C d e (.raw (.type "range")) [.int b] st Q := by
  intro A kp B σ s fv vals hA hS hf hv
  have hf : fv = .type "range" := hf
  obtain ⟨_,rfl,⟨t,rfl⟩⟩ := RelL1 hv
  subst hf
  refine call_range_1 ?_
  obtain ⟨q1,q2⟩ := hS.alloc (o := { cls := .type "range",data := .fields #[.int 0 s.toks,.int b t,.int 1 (s.toks + 1)] }) rfl (s.toks + 1 + 1) s.drawn
  exact ⟨_,σ,.rng 0 b 1,st,q1,List.prefix_refl _,q2,⟨_,s.toks,t,s.toks + 1,rfl,Base.put_self⟩,h⟩
theorem Cmp_inS {v : V} {xs : List V} {ys : List (List Nat)} {l : List Nat} {Q : Bool → St → Prop} (hl : LstAt st.hp v xs) (hs : strsOf xs = some ys) (h : Q (ys.contains l) st) : Cmp C d e .In (.str l) v st Q := Cmp_of h (by
  rintro A kp B σ s va vb R hA hS ⟨x,t,rfl,hx⟩ hr q
  obtain ⟨a,items,n,rfl,g1,g2⟩ := hl.is hS.g hr
  obtain ⟨zs,h3,h4⟩ := strsOf_are hs g2
  exact in_list_strs (vs := items.toList) (ys := zs) (by simpa using g1.isList) h3 (by rw [any_strs hx,h4]; exact q))
theorem Bin_addL {v w : V} {xs ys : List V} {Q : V → St → Prop} (hv : LstAt st.hp v xs) (hw : LstAt st.hp w ys) (hz : xs.length + ys.length ≤ 16777216) (h : Q (.own st.hp.length) ⟨st.vars,st.hp ++ [.list (xs ++ ys)]⟩) : Bin C d e (binaryOp .Add) v w st Q := by
  intro A kp B σ s va vb hA hS hr hr'
  obtain ⟨a,items,n,rfl,g1,g2⟩ := hv.is hS.g hr
  obtain ⟨b,items',n',rfl,l1,l2⟩ := hw.is hS.g hr'
  have e1 := sizeXs g2
  have e2 := sizeXs l2
  refine P.add_list g1 l1 ?_ (by rw [sizeLine_eq]; (first|lia -abstractProof|omega))
  have q := hS.own (o := { cls := .type "list",data := .seq (items ++ items') }) (ao := .list (xs ++ ys)) rfl (fun h' hx => ⟨items ++ items',0,hx,by
    rw [Array.toList_append]
    exact RelL.app (RelL.mono (Sub.refl _) (List.prefix_append _ _) g2) (RelL.mono (Sub.refl _) (List.prefix_append _ _) l2)⟩) s.toks s.drawn
  refine ⟨B,_,.own st.hp.length,_,Sub.refl _,List.prefix_append _ _,q,⟨s.heap.objs.size,rfl,?_⟩,h⟩
  rw [← hS.g.len,List.getElem?_append_right (Nat.le_refl _)]; simp
theorem T_SliceLst {value : Expr} {lower upper : Option Expr} {p pos : Pos} {Q : V → St → Prop}
    (h : TV C d e (eval value e) st fun o st₁ => TP C d e lower st₁ fun lo st₂ => TP C d e upper st₂ fun hi st₃ => ∃ xs,LstAt st₃.hp o xs ∧ xs.length ≤ 16777216 ∧ Q (.own st₃.hp.length) ⟨st₃.vars,st₃.hp ++ [.list (slc xs lo hi)]⟩)
    (ht : ∀ o r,letTemporaryGo value o r = pure () := by with_unfolding_all intro _ _; rfl) : TV C d e (eval (.Subscript value (.Slice lower upper none p) pos) e) st Q := by
  intro A kp B σ s hA hS
  refine wpAny_Subscript_list_slice (wpAny_mono (h A kp B σ s hA hS) (fun o s₁ hp => ?_) fun _ _ x => x.elim) ht
  obtain ⟨B₁,σ₁,a,st₁,g1,g2,g3,g4,g5⟩ := hp
  refine wpAny_mono (g5 A kp B₁ σ₁ s₁ hA g3) (fun vl s₂ hp₂ => ?_) fun _ _ x => x.elim
  obtain ⟨B₂,σ₂,lo,st₂,k1,k2,k3,k4,k5⟩ := hp₂
  refine wpAny_mono (k5 A kp B₂ σ₂ s₂ hA k3) (fun vu s₃ hp₃ => ?_) fun _ _ x => x.elim
  obtain ⟨B₃,σ₃,hi,st₃,l1,l2,l3,l4,xs,hx,hz,hq⟩ := hp₃
  obtain ⟨ad,items,n,rfl,i1,i2⟩ := hx.is l3.g ((g4.mono k1 k2).mono l1 l2)
  have es := sizeXs i2
  have part : ∀ (k : Option Int) (v : Value),(match k with | none => v = .none | some i => ∃ t,v = .int i t) → IsPart v k := by
    intro k v hk
    cases k with
    | none => have hk : v = .none := hk; subst hk; exact .none
    | some i => obtain ⟨t,rfl⟩ := hk; exact .int i t
  refine ⟨ad,items,lo,hi,rfl,i1.isList,by rw [sizeLine_eq]; (first|lia -abstractProof|omega),part lo vl k4,part hi vu l4,?_⟩
  have S1 := l3.push { cls := .type "slice",data := .fields #[vl,vu,.none] } s₃.toks s₃.drawn
  have q := S1.own (o := { cls := .type "list",data := .seq (slicePick items lo hi none) }) (ao := .list (slc xs lo hi)) rfl (fun h' hx => ⟨slicePick items lo hi none,0,hx,by
    rw [slicePick_eq]
    unfold slc
    have : items.toList.length = xs.length := by simpa using es
    rw [this]
    exact RelL.sub (RelL.mono (Sub.refl _) (List.prefix_append _ _) i2)⟩) s₃.toks s₃.drawn
  refine ⟨B₃,_,.own st₃.hp.length,_,g1.trans (k1.trans l1),g2.trans (k2.trans (l2.trans (List.prefix_append _ _))),q,⟨_,rfl,?_⟩,hq⟩
  rw [← l3.g.len,List.getElem?_append_right (Nat.le_refl _)]; simp [Heap.size_push]
end
end
section
section
variable {C : Cx} {d : Nat} {e : Env} {st : St} {kp B : Base} {σ : List Addr} {hp : List AObj} {s : Shared}
end
end
section
noncomputable def at_ {α : Type} [Inhabited α] (l : List α) (i : Nat) : α := l.getD i default
theorem belowL_map {α : Type} {f : α → V} {n : Nat} (h : ∀ a,below n (f a) = true) : ∀ (l : List α),belowL n (l.map f) = true
  | [] => rfl
  | a :: l => by simp only [List.map_cons,belowL,h a,belowL_map h l,Bool.and_self]
theorem get_at {α : Type} [Inhabited α] {l : List α} {f : α → V} {i : Nat} (h : i < l.length) : (l.map f)[i]? = some (f (at_ l i)) := by
  unfold at_
  rw [List.getElem?_map,List.getElem?_eq_getElem h,List.getD_eq_getElem?_getD,List.getElem?_eq_getElem h]; rfl
theorem at_eq {α : Type} [Inhabited α] {l : List α} {i : Nat} {x : α} (h : l[i]? = some x) : at_ l i = x := by
  unfold at_; rw [List.getD_eq_getElem?_getD,h]; rfl
theorem at_get {α : Type} [Inhabited α] {l : List α} {i : Nat} (h : i < l.length) : l[i]? = some (at_ l i) := by
  rw [List.getElem?_eq_getElem h,at_eq (List.getElem?_eq_getElem h)]
theorem at_mem {α : Type} [Inhabited α] {l : List α} {i : Nat} (h : i < l.length) : at_ l i ∈ l := List.mem_of_getElem? (at_get h)
section
variable {C : Cx} {d : Nat} {e : Env} {st : St}
theorem U_iat {k i : Nat} {Q : V → St → Prop} (h : Item C d e (.own k) (.int (i : Int)) st Q) : Item C d e (.own k) (.int (i : Int)) st Q := h
theorem U_att (m : String) {o : Expr} {pos : Pos} {Q : V → St → Prop} (h : TV C d e (eval (.Attribute o (oS m) pos) e) st Q) : TV C d e (eval (.Attribute o (oS m) pos) e) st Q := h
theorem U_ex4 {α β γ δ : Sort _} {p : α → β → γ → δ → Prop} (h : ∃ a b c d,p a b c d) : ∃ a b c d,p a b c d := h
theorem U_addo {k : Nat} {w : V} {Q : V → St → Prop} (h : Bin C d e (binaryOp .Add) (.own k) w st Q) : Bin C d e (binaryOp .Add) (.own k) w st Q := h
theorem Bin_addLL {vars : List (Str × V)} {hp : List AObj} {v w : V} {xs ys : List V} {Q : V → St → Prop} (hv : LstAt hp v xs) (hw : LstAt hp w ys) (hz : xs.length + ys.length ≤ 16777216) (h : Q (.own hp.length) ⟨vars,hp ++ [.list (xs ++ ys)]⟩) : Bin C d e (binaryOp .Add) v w ⟨vars,hp⟩ Q := Bin_addL hv hw hz h
end
theorem Ap_lenM {C : Cx} {d : Nat} {e : Env} {st : St} {α : Type} {v : V} {l : List α} {f : α → V} {Q : V → St → Prop} (hl : LstAt st.hp v (l.map f)) (hz : l.length ≤ 16777216) (h : Q (.int (l.length : Nat)) st) : Ap C d e (.raw (.builtin "len")) [v] st Q :=
  Ap_len hl (by rw [List.length_map]; exact hz) (by rw [List.length_map]; exact h)
theorem mid_at {α : Type} {hp r : List α} {x : α} : (hp ++ x :: r)[hp.length]? = some x := by simp
theorem low_at {α : Type} {hp r : List α} {x : α} {i : Nat} (h : hp[i]? = some x) : (hp ++ r)[i]? = some x := by
  rw [List.getElem?_append_left (List.getElem?_eq_some_iff.mp h).1]; exact h
theorem swap_sc {elt : Expr} {gens : List Comprehension} {sc' sc : Scope} {pos py : Pos} {t : Str} {line : Nat} {e : Env} {b : Bool} (he : e.scope = sc)
    (h : ((if sc.kind.isAnnotationScope then ScopeKind.function else sc.kind) == .function && sc.names.lookup t == some .local && py.line == pos.line && !(sc'.names.any fun (n,k) => n == t && (k == .local || k == .cell))) = b) :
    swapsWith (.ListComp elt gens sc' pos) (some (.Name t py)) line e = pure b := by subst he; subst h; rfl
theorem rng_up {C : Cx} {hp : List AObj} {a b : Nat} (hb : b ≤ 1000000) (ha : a ≤ 1000000) : ItV C (.rng (a : Int) (b : Int) 1) hp (rngL (a : Int) 1 (b - a)) (fun _ => True) :=
  itv_rng (small_one (by (first|lia -abstractProof|omega)) (by (first|lia -abstractProof|omega)) (by (first|lia -abstractProof|omega)) (by (first|lia -abstractProof|omega))) (by rw [rangeSize_one]; split <;> (first|lia -abstractProof|omega))
theorem rng_up' {C : Cx} {hp : List AObj} {a b : Nat} (hb : b ≤ 1000000) (ha : a ≤ 1000000) : ItV C (.rng (a : Int) (b : Int) 1) hp ((List.range (b - a)).map fun i => V.int ((a + i : Nat) : Int)) (fun _ => True) := by
  have e : rngL (a : Int) 1 (b - a) = (List.range (b - a)).map fun i => V.int ((a + i : Nat) : Int) := by
    unfold rngL
    exact List.map_congr_left fun i _ => by congr 1; (first|lia -abstractProof|omega)
  rw [← e]; exact @rng_up C hp a b hb ha
theorem fm_map {α β : Type} (f : α → β) : ∀ (l : List α),(l.filterMap fun a => some (f a)) = l.map f
  | [] => rfl
  | a :: l => by rw [List.filterMap_cons,List.map_cons,fm_map f l]
end
section
abbrev Cx.at (C : Cx) (k : Nat) : Cx := { C with tk := k }
section
variable {C : Cx} {B kp : Base} {σ : List Addr} {k : Nat}
theorem IsFn.at {i : Nat} {f : Addr} : IsFn C i f → IsFn (C.at k) i f
  | ⟨a,b,c,d,e,g,h,i,j,k,l,m,n,o,h1,h2,h3,h4,h5,h6⟩ => ⟨a,b,c,d,e,g,h,i,j,k,l,m,n,o,h1,h2,h3,h4,h5,h6⟩
mutual
theorem Rel.at : ∀ {x : V} {v : Value},Rel C B σ x v → Rel (C.at k) B σ x v
  | .undef,_,h => h
  | .none,_,h => h
  | .bool _,_,h => h
  | .int _,_,h => h
  | .str _,_,h => h
  | .tup xs,v,h => by
    simp only [Rel] at h ⊢
    obtain ⟨a,items,n,h1,h2,h5⟩ := h
    exact ⟨a,items,n,h1,h2,RelL.at h5⟩
  | .lst xs,v,h => by
    simp only [Rel] at h ⊢
    obtain ⟨a,items,n,h1,h2,h5⟩ := h
    exact ⟨a,items,n,h1,h2,RelL.at h5⟩
  | .dct es,v,h => by
    simp only [Rel] at h ⊢
    obtain ⟨a,items,n,h1,h0,h2,h5⟩ := h
    exact ⟨a,items,n,h1,h0,h2,RelD.at h5⟩
  | .inst c fs,v,h => by
    simp only [Rel] at h ⊢
    obtain ⟨a,o,ca,dx,od,h1,h2,h3,h4,h5,h6,h7,h8⟩ := h
    exact ⟨a,o,ca,dx,od,h1,h2,h3,h4,h5,h6,h7,RelS.at h8⟩
  | .own i,v,h => h
  | .fn _,_,⟨f,h,g⟩ => ⟨f,h,g.at⟩
  | .cls _,_,h => h
  | .raw _,_,h => h
  | .rng _ _ _,v,h => h
theorem RelL.at : ∀ {xs : List V} {vs : List Value},RelL C B σ xs vs → RelL (C.at k) B σ xs vs
  | [],_,h => h
  | x :: xs,vs,h => by
    simp only [RelL] at h ⊢
    obtain ⟨v,r,h1,h2,h3⟩ := h
    exact ⟨v,r,h1,Rel.at h2,RelL.at h3⟩
theorem RelS.at : ∀ {xs : List V} {vs : List (Option Value)},RelS C B σ xs vs → RelS (C.at k) B σ xs vs
  | [],_,h => h
  | x :: xs,vs,h => by
    simp only [RelS] at h ⊢
    obtain ⟨h1,h3⟩ := h
    exact ⟨h1.imp id fun ⟨v,h4,h2⟩ => ⟨v,h4,Rel.at h2⟩,RelS.at h3⟩
theorem RelD.at : ∀ {xs : List (List Nat × V)} {vs : List DictEntry},RelD C B σ xs vs → RelD (C.at k) B σ xs vs
  | [],_,h => h
  | (n,x) :: xs,vs,h => by
    simp only [RelD] at h ⊢
    obtain ⟨e,r,h1,h4,h2,h3⟩ := h
    exact ⟨e,r,h1,h4,Rel.at h2,RelD.at h3⟩
end
theorem AR.at {h : Heap} {a : Addr} {ao : AObj} (hr : AR C B σ h a ao) : AR (C.at k) B σ h a ao := by
  cases ao with
  | gone => trivial
  | list xs => obtain ⟨items,n,h1,h2⟩ := hr; exact ⟨items,n,h1,h2.at⟩
  | tab c => exact hr
  | raw o => exact hr
  | inst c fs => obtain ⟨o,ca,dx,od,h1,h2,h3,h4,h5,h6,h7⟩ := hr; exact ⟨o,ca,dx,od,h1,h2,h3,h4,h5,h6,h7.at⟩
theorem ClsOk.at {i : Nat} {c : Addr} (h : ClsOk C i c) : ClsOk (C.at k) i c := ⟨h.makes,(let ⟨f,a,b,q⟩ := h.init; ⟨f,a,b,q.at⟩),h.over,h.setat,h.get,h.isc,h.slot,(let ⟨a,b,f,g,q⟩ := h.initv; ⟨a,b,f,g,q.at⟩),h.typ⟩
theorem GlobIs.at {x : Str} {v : V} (h : GlobIs C x v) : GlobIs (C.at k) x v := by
  obtain ⟨val,h1,h2⟩ := h
  exact ⟨val,h1,fun B σ hB => (h2 B σ hB).at⟩
theorem Cx.Ok.at (h : C.Ok) : (C.at k).Ok := ⟨fun i c q => (h.mkd i c q).at,h.cls,fun x v q => (h.tab x v q).at,h.g,h.b,h.lim,h.K,h.sm,h.bm⟩
theorem GL.at {e : Env} {gl : List (Str × V)} (h : GL C e gl) : GL (C.at k) e gl := fun x v q => ⟨(h x v q).1,(h x v q).2.1,(h x v q).2.2.at⟩
theorem G.at {hp : List AObj} {s : Shared} (h : G C kp B σ hp s) (hk : k ≤ s.toks) : G (C.at k) kp B σ hp s := ⟨h.ok.at,h.bh,h.b0,h.kh,h.len,fun i a ao h1 h2 h3 => by
  obtain ⟨q1,q2,q3,q4⟩ := h.own i a ao h1 h2 h3
  exact ⟨q1,q2,q3,q4.at⟩,h.inj,h.gens,h.os,hk⟩
theorem L.at {e : Env} {st : St} {s : Shared} (h : L C kp B σ e st s) : L (C.at k) kp B σ e st s := ⟨h.fn,h.glob,h.bi,h.nodup,by
  obtain ⟨m,h1,h2⟩ := h.ns
  exact ⟨m,h1,fun x v q q' => (h2 x v q q').imp id fun ⟨w,r1,r2⟩ => ⟨w,r1,r2.at⟩⟩,h.kinds,fun x v q q' => by
  obtain ⟨c,o,ov,h1,h2,h3,h4⟩ := h.cells x v q q'
  exact ⟨c,o,ov,h1,h2,h3,h4.imp id fun ⟨w,r1,r2⟩ => ⟨w,r1,r2.at⟩⟩,h.priv,h.apart,h.alive⟩
theorem S.at {e : Env} {st : St} {s : Shared} (h : S C kp B σ e st s) (hk : k ≤ s.toks) : S (C.at k) kp B σ e st s := ⟨h.g.at hk,h.l.at⟩
noncomputable def T2 (C : Cx) (k : Nat) (d : Nat) (e : Env) {α β : Type} (rel : Cx → Base → List Addr → β → α → Prop) (t : Sem α) (st : St) (Q : β → St → Prop) : Prop :=
  ∀ A kp B σ s,AOk d A → S C kp B σ e st s → wpAny (model P C.w) A t (Post (C.at k) kp B σ e (rel (C.at k)) Q) (fun _ _ => False) s
variable {d : Nat} {e : Env} {st : St}
theorem RelF.at {f : AF} {x : Flow} (h : RelF C B σ f x) : RelF (C.at k) B σ f x := by
  cases f with
  | next => exact h
  | brk => exact h
  | cont => exact h
  | ret v => obtain ⟨y,h1,h2⟩ := h; exact ⟨y,h1,h2.at⟩
theorem T2.down {t : Sem Flow} {Q : AF → St → Prop} (hk : C.tk ≤ k) (h : T2 C k d e RelF t st Q) : TF C d e t st Q := by
  intro A kp B σ s hA hS
  refine wpAny_mono (h A kp B σ s hA hS) (fun v s' hp => ?_) fun _ _ x => x
  obtain ⟨B',σ',b,st',h1,h2,h3,h4,h5⟩ := hp
  have h3' : S ((C.at k).at C.tk) kp B' σ' e st' s' := h3.at (Nat.le_trans hk h3.g.tk)
  have h4' : RelF ((C.at k).at C.tk) B' σ' b v := h4.at
  exact ⟨B',σ',b,st',h1,h2,h3',h4',h5⟩
theorem T2.mono {α β : Type} {rel : Cx → Base → List Addr → β → α → Prop} {t : Sem α} {Q Q' : β → St → Prop} (h : T2 C k d e rel t st Q) (hQ : ∀ b st',Q b st' → Q' b st') : T2 C k d e rel t st Q' :=
  fun A kp B σ s hA hS => wpAny_mono (h A kp B σ s hA hS) (fun v s' ⟨B',σ',b,st',h1,h2,h3,h4,h5⟩ => ⟨B',σ',b,st',h1,h2,h3,h4,hQ _ _ h5⟩) fun _ _ => id
theorem T2_int {i : Int} {n : Nat} {pos : Pos} {Q : V → St → Prop} (h : Q (.int i) st) : T2 C 1 d e Rel (eval (.Constant (.int i) n pos) e) st Q :=
  fun A kp B σ s hA hS => wpAny_Constant_int (Post.here ((hS.toks (s.toks + 1) s.drawn (Nat.le_succ _)).at (Nat.le_add_left _ _)) (show Rel (C.at 1) B σ (.int i) (.int i s.toks) from ⟨_,rfl⟩) h)
theorem T2_cons {x : Stmt} {r : List Stmt} {Q : AF → St → Prop} (h : T2 C k d e RelF (exec x e) st (fun f st₁ => match f with | .next => TF (C.at k) d e (execs r e) st₁ Q | f => Q f st₁)) : T2 C k d e RelF (execs (x :: r) e) st Q := by
  intro A kp B σ s hA hS
  refine wpAny_execs_cons (wpAny_mono (h A kp B σ s hA hS) (fun f s₁ hp => ?_) fun _ _ x => x)
  obtain ⟨B₁,σ₁,b,st₁,h1,h2,h3,h4,h5⟩ := hp
  cases b with
  | next =>
    have h4 : f = .next := h4
    subst h4
    exact wpAny_mono (h5 A kp B₁ σ₁ s₁ hA h3) (fun _ _ p => p.weaken h1 h2) fun _ _ x => x
  | brk => have h4 : f = .brk := h4; subst h4; exact ⟨B₁,σ₁,.brk,st₁,h1,h2,h3,rfl,h5⟩
  | cont => have h4 : f = .cont := h4; subst h4; exact ⟨B₁,σ₁,.cont,st₁,h1,h2,h3,rfl,h5⟩
  | ret v => obtain ⟨x,rfl,hx⟩ := h4; exact ⟨B₁,σ₁,.ret v,st₁,h1,h2,h3,⟨x,rfl,hx⟩,h5⟩
theorem T2_Assign1 {t value : Expr} {pos : Pos} {Q : AF → St → Prop} (h : T2 C k d e Rel (eval value e) st fun v st₁ => Asg (C.at k) d e t v st₁ (Q .next))
    (h1 : (assignEach [t] e).map (·.2) = [assign t e] := by with_unfolding_all rfl) (h2 : swapsWithSole [t] value pos.line e = pure false := by with_unfolding_all rfl) (h3 : swappedStores [t] value e = pure none := by with_unfolding_all rfl) : T2 C k d e RelF (exec (.Assign [t] value pos) e) st Q := by
  intro A kp B σ s hA hS
  refine wpAny_Assign_stores (wpAny_mono (h A kp B σ s hA hS) (fun v s₁ hp => ?_) fun _ _ x => x) h2 h3
  obtain ⟨B₁,σ₁,b,st₁,g1,g2,g3,g4,g5⟩ := hp
  rw [h1]
  refine wpAny_mono (g5 A kp B₁ σ₁ s₁ v hA g3 g4) (fun _ s₂ hp₂ => ?_) fun _ _ x => x
  obtain ⟨B₂,σ₂,_,st₂,k1,k2,k3,_,k5⟩ := hp₂
  exact ⟨B₂,σ₂,.next,st₂,g1.trans k1,g2.trans k2,k3,rfl,k5⟩
theorem S2_Assign {t value : Expr} {r : List Stmt} {pos : Pos} {Q : AF → St → Prop} (hk : C.tk ≤ k) (h : T2 C k d e Rel (eval value e) st fun v st₁ => Asg (C.at k) d e t v st₁ fun st₂ => TF (C.at k) d e (execs r e) st₂ Q)
    (h1 : (assignEach [t] e).map (·.2) = [assign t e] := by with_unfolding_all rfl) (h2 : swapsWithSole [t] value pos.line e = pure false := by with_unfolding_all rfl) (h3 : swappedStores [t] value e = pure none := by with_unfolding_all rfl) : TF C d e (execs (.Assign [t] value pos :: r) e) st Q :=
  (T2_cons (T2_Assign1 h h1 h2 h3)).down hk
theorem T2_IfExp {test body orelse : Expr} {pos : Pos} {Q : V → St → Prop}
    (h : TB C d e (isTrue test e (eval test e)) st fun b st₁ => if b = true then T2 C k d e Rel (eval body e) st₁ Q else T2 C k d e Rel (eval orelse e) st₁ Q) : T2 C k d e Rel (eval (.IfExp test body orelse pos) e) st Q := by
  intro A kp B σ s hA hS
  refine wpAny_IfExp (wpAny_mono (h A kp B σ s hA hS) (fun b s₁ hp => ?_) fun _ _ x => x)
  obtain ⟨B₁,σ₁,b',st₁,h1,h2,h3,h4,h5⟩ := hp
  have h4 : b = b' := h4
  subst h4
  cases b
  · simp only [Bool.false_eq_true,if_false] at h5 ⊢
    exact wpAny_mono (h5 A kp B₁ σ₁ s₁ hA h3) (fun _ _ p => p.weaken h1 h2) fun _ _ x => x
  · simp only [if_true] at h5 ⊢
    exact wpAny_mono (h5 A kp B₁ σ₁ s₁ hA h3) (fun _ _ p => p.weaken h1 h2) fun _ _ x => x
noncomputable def T2P (C : Cx) (k : Nat) (d : Nat) (e : Env) (p : Option Expr) (st : St) (Q : Option Int → St → Prop) : Prop :=
  T2 C k d e (fun _ B σ (k : Option Int) (v : Value) => match k with | none => v = .none | some i => ∃ t,v = .int i t) (evalPart p e) st Q
theorem P2_some {x : Expr} {Q : Option Int → St → Prop} (h : T2 C k d e Rel (eval x e) st fun v st₁ => ∃ i,v = .int i ∧ Q (some i) st₁) : T2P C k d e (some x) st Q := by
  intro A kp B σ s hA hS
  refine wpAny_evalPart_some (wpAny_mono (h A kp B σ s hA hS) (fun v s₁ hp => ?_) fun _ _ x => x)
  obtain ⟨B₁,σ₁,a,st₁,g1,g2,g3,g4,i,rfl,g5⟩ := hp
  exact ⟨B₁,σ₁,some i,st₁,g1,g2,g3,g4,g5⟩
theorem T2_SliceLst {value : Expr} {lower upper : Option Expr} {p pos : Pos} {Q : V → St → Prop}
    (h : TV C d e (eval value e) st fun o st₁ => TP C d e lower st₁ fun lo st₂ => T2P C k d e upper st₂ fun hi st₃ => ∃ xs,LstAt st₃.hp o xs ∧ xs.length ≤ 16777216 ∧ Q (.own st₃.hp.length) ⟨st₃.vars,st₃.hp ++ [.list (slc xs lo hi)]⟩)
    (ht : ∀ o r,letTemporaryGo value o r = pure () := by with_unfolding_all intro _ _; rfl) : T2 C k d e Rel (eval (.Subscript value (.Slice lower upper none p) pos) e) st Q := by
  intro A kp B σ s hA hS
  refine wpAny_Subscript_list_slice (wpAny_mono (h A kp B σ s hA hS) (fun o s₁ hp => ?_) fun _ _ x => x.elim) ht
  obtain ⟨B₁,σ₁,a,st₁,g1,g2,g3,g4,g5⟩ := hp
  refine wpAny_mono (g5 A kp B₁ σ₁ s₁ hA g3) (fun vl s₂ hp₂ => ?_) fun _ _ x => x.elim
  obtain ⟨B₂,σ₂,lo,st₂,k1,k2,k3,k4,k5⟩ := hp₂
  refine wpAny_mono (k5 A kp B₂ σ₂ s₂ hA k3) (fun vu s₃ hp₃ => ?_) fun _ _ x => x.elim
  obtain ⟨B₃,σ₃,hi,st₃,l1,l2,l3,l4,xs,hx,hz,hq⟩ := hp₃
  obtain ⟨ad,items,n,rfl,i1,i2⟩ := hx.is l3.g ((g4.mono k1 k2).mono l1 l2).at
  have es := sizeXs i2
  have part : ∀ (k : Option Int) (v : Value),(match k with | none => v = .none | some i => ∃ t,v = .int i t) → IsPart v k := by
    intro k v hk
    cases k with
    | none => have hk : v = .none := hk; subst hk; exact .none
    | some i => obtain ⟨t,rfl⟩ := hk; exact .int i t
  refine ⟨ad,items,lo,hi,rfl,i1.isList,by rw [sizeLine_eq]; (first|lia -abstractProof|omega),part lo vl k4,part hi vu l4,?_⟩
  have S1 := l3.push { cls := .type "slice",data := .fields #[vl,vu,.none] } s₃.toks s₃.drawn
  have q := S1.own (o := { cls := .type "list",data := .seq (slicePick items lo hi none) }) (ao := .list (slc xs lo hi)) rfl (fun h' hx => ⟨slicePick items lo hi none,0,hx,by
    rw [slicePick_eq]
    unfold slc
    have : items.toList.length = xs.length := by simpa using es
    rw [this]
    exact RelL.sub (RelL.mono (Sub.refl _) (List.prefix_append _ _) i2)⟩) s₃.toks s₃.drawn
  refine ⟨B₃,_,.own st₃.hp.length,_,g1.trans (k1.trans l1),g2.trans (k2.trans (l2.trans (List.prefix_append _ _))),q,⟨_,rfl,?_⟩,hq⟩
  rw [← l3.g.len,List.getElem?_append_right (Nat.le_refl _)]; simp [Heap.size_push]
theorem T2_List1 {x : Expr} {pos : Pos} {Q : V → St → Prop} (h : T2 C k d e Rel (eval x e) st fun v st₁ => Q (.own st₁.hp.length) ⟨st₁.vars,st₁.hp ++ [.list [v]]⟩)
    (hx : backTo pos (starEach [x] e) = (false,eval x e) :: backTo pos (starEach [] e) := by with_unfolding_all rfl) : T2 C k d e Rel (eval (.List [x] pos) e) st Q := by
  intro A kp B σ s hA hS
  refine wpAny_List ?_
  show wpAny _ A (spliced (backTo pos (starEach [x] e))) _ _ s
  rw [hx]
  refine Calls.spliced_cons (wpAny_mono (h A kp B σ s hA hS) (fun v s₁ hp => ?_) fun _ _ x => x)
  obtain ⟨B₁,σ₁,a,st₁,g1,g2,g3,g4,g6⟩ := hp
  refine wpAny_pure ⟨by rw [sizeLine_eq,List.length_singleton]; (first|lia -abstractProof|omega),?_⟩
  have q := g3.own (o := { cls := .type "list",data := .seq #[v] }) (ao := .list [a]) rfl (fun h' hx => ⟨#[v],0,hx,⟨v,[],rfl,Rel.mono (Sub.refl _) (List.prefix_append _ _) g4,rfl⟩⟩) s₁.toks s₁.drawn
  refine ⟨B₁,_,.own st₁.hp.length,_,g1,g2.trans (List.prefix_append _ _),q,⟨s₁.heap.objs.size,rfl,?_⟩,g6⟩
  rw [← g3.g.len,List.getElem?_append_right (Nat.le_refl _)]; simp
end
end
section
section
variable {C : Cx} {d : Nat} {e : Env} {st : St}
theorem Bin_fdiv {i j : Int} {Q : V → St → Prop} (hj : 0 < j) (hs : j < 1073741824) (h : Q (.int (i.fdiv j)) st) : Bin C d e (binaryOp .FloorDiv) (.int i) (.int j) st Q := by
  rintro A kp B σ s va vb hA hS ⟨t,rfl⟩ ⟨u,rfl⟩
  exact PyProof.Rows.floordiv_int (by (first|lia -abstractProof|omega)) (Post.here (hS.toks _ _) (show Rel C B σ (.int (i.fdiv j)) (.int (i.fdiv j) s.toks) from ⟨_,rfl⟩) h) (.inl (PyProof.noPylong_small (by (first|lia -abstractProof|omega))))
theorem Bin_mulc {i j : Int} {Q : V → St → Prop} (hm : IntMulOk i j) (h : Q (.int (i * j)) st) : Bin C d e (binaryOp .Mult) (.int i) (.int j) st Q := by
  rintro A kp B σ s va vb hA hS ⟨t,rfl⟩ ⟨u,rfl⟩
  exact PyProof.Rows.mul_int (Post.here (hS.toks _ _) (show Rel C B σ (.int (i * j)) (.int (i * j) s.toks) from ⟨_,rfl⟩) h) hm
theorem Bin_pow {i : Int} {n : Nat} {Q : V → St → Prop} (hn : n ≤ 1000000) (ha : i.natAbs < 2 ^ 64) (h : Q (.int (i ^ n)) st) : Bin C d e (binaryOp .Pow) (.int i) (.int (n : Int)) st Q := by
  rintro A kp B σ s va vb hA hS ⟨t,rfl⟩ ⟨u,rfl⟩
  exact PyProof.Rows.pow_int_small (by (first|lia -abstractProof|omega)) (by (first|lia -abstractProof|omega)) ha (Post.here (hS.toks _ _) (show Rel C B σ (.int (i ^ n)) (.int (i ^ ((n : Int).toNat)) s.toks) from ⟨_,by rw [Int.toNat_natCast]⟩) h)
theorem strs_D : ∀ {l : List (List Nat)},(∀ x ∈ l,∀ c ∈ x,c < 1114112) → isD.isDs (l.map V.str) = true
  | [],_ => rfl
  | x :: l,h => by
    have h1 : isD (.str x) = true := by
      show x.all (· < 0x110000) = true
      exact List.all_eq_true.mpr fun c hc => decide_eq_true (h x (List.mem_cons_self ..) c hc)
    rw [List.map_cons,isD.isDs,h1,strs_D fun y hy => h y (List.mem_cons_of_mem _ hy)]; rfl
theorem strs_dep : ∀ (l : List (List Nat)),PyData.depthAll (toD.toDs (l.map V.str)) ≤ 1
  | [] => Nat.zero_le _
  | x :: l => by
    have h := strs_dep l
    rw [List.map_cons,toD.toDs,PyData.depthAll]
    have : (toD (.str x)).depth ≤ 1 := by simp [toD,PyData.depth]
    (first|lia -abstractProof|omega)
theorem strs_eqv : ∀ (l m : List (List Nat)),PyData.eqvAll (toD.toDs (l.map V.str)) (toD.toDs (m.map V.str)) = decide (l = m)
  | [],[] => rfl
  | [],y :: m => rfl
  | x :: l,[] => rfl
  | x :: l,y :: m => by
    rw [List.map_cons,List.map_cons,toD.toDs,toD.toDs,PyData.eqvAll,strs_eqv l m]
    have : PyData.eqv (toD (.str x)) (toD (.str y)) = decide (x = y) := by
      show ((⟨x.toArray⟩ : Str) == ⟨y.toArray⟩) = _
      rw [Bool.eq_iff_iff]; simp
    rw [this,Bool.eq_iff_iff]; simp
theorem LstAt.reads {B : Base} {kp : Base} {σ : List Addr} {s : Shared} {hp : List AObj} {v : V} {xs : List V} {va : Value} (hl : LstAt hp v xs) (hG : G C kp B σ hp s) (hr : Rel C B σ v va) (hd : isD.isDs xs = true) : ∃ as,Reads s.heap va (.list (toD.toDs xs)) as := by
  obtain ⟨a,items,n,rfl,h1,h2⟩ := hl.is hG hr
  obtain ⟨as,g⟩ := RelL.reads hG.bh h2 hd
  obtain ⟨o,g1,g2,n',g3⟩ := h1.isList
  exact ⟨_,.list g1 g2 g3 g⟩
theorem Cmp_eqOL {v w : V} {l m : List (List Nat)} {Q : Bool → St → Prop} (hv : LstAt st.hp v (l.map V.str)) (hw : LstAt st.hp w (m.map V.str)) (dl : ∀ x ∈ l,∀ c ∈ x,c < 1114112) (dm : ∀ x ∈ m,∀ c ∈ x,c < 1114112) (h : Q (decide (l = m)) st) : Cmp C d e .Eq v w st Q := Cmp_of h (by
  intro A kp B σ s va vb R hA hS hr hr' q
  obtain ⟨as,r1⟩ := hv.reads hS.g hr (strs_D dl)
  obtain ⟨bs,r2⟩ := hw.reads hS.g hr' (strs_D dm)
  have dep : ∀ l : List (List Nat),(PyData.list (toD.toDs (l.map V.str))).depth ≤ 64 := fun l => by
    have := strs_dep l
    rw [PyData.depth]; (first|lia -abstractProof|omega)
  refine eq_dataH r1 r2 ?_ ?_ (by have := hA.2.2; show A.units + 64 < 9900; (first|lia -abstractProof|omega)) (by rw [PyData.eqv,strs_eqv]; exact q)
  · unfold PySem.SeqAt.shaped
    rw [PyData.canLay0,isDs_lay (strs_D dl),Bool.true_and]; exact decide_eq_true (dep l)
  · unfold PySem.SeqAt.shaped
    rw [PyData.canLay0,isDs_lay (strs_D dm),Bool.true_and]; exact decide_eq_true (dep m))
end
end
section
set_option maxRecDepth 20000
noncomputable def ends : List (List Nat) := [[10],[13,10],[13],[12]]
noncomputable def blanks : List (List Nat) := [[32],[9],[10],[13,10],[13],[12]]
noncomputable def hexLo : List Nat := [48,49,50,51,52,53,54,55,56,57,97,98,99,100,101,102]
noncomputable def hexUp : List Nat := [48,49,50,51,52,53,54,55,56,57,65,66,67,68,69,70]
noncomputable def plainT : List (List Nat) := [[97],[39],[201],[32],[9],[47,42],[42,47],[117,114,108,40],[125],[41],[60,33,45,45],[0],[1],[70],[49],[45,45]]
noncomputable def escT : List Nat := [122,34,39,92,40,41,32,9,0,201,45,103,47,1,85,42]
noncomputable def nsg (x : List Nat) : Nat := if x = [13,10] ∨ x = [13] ∨ x = [12] then 10 else if x = [0] then 65533 else x.headD 0
noncomputable def nch (c : Nat) : Nat := if c = 0 then 65533 else c
noncomputable def endOf (w : Int) : List Nat := at_ ends (w.fmod 4).toNat
noncomputable def lineEnd (w : Int) (rest : List (List Nat)) : List Nat := if endOf w = [13] ∧ rest.take 1 = [[10]] then [13,10] else endOf w
noncomputable def figs (w : Int) : Nat := 1 + (w.fmod 6).toNat
noncomputable def code0 (w : Int) : Nat := ((w * 70001).fmod ((16 ^ figs w : Nat) : Int)).toNat
noncomputable def codeOf (w : Int) : Nat := if 55296 ≤ code0 w ∧ code0 w ≤ 57343 then code0 w - 55296 else code0 w
noncomputable def valOf7 (w : Int) : Nat := if codeOf w = 0 ∨ 1114111 < codeOf w then 65533 else codeOf w
noncomputable def hexOf7 (w : Int) : List Nat := if w.fmod 2 = 0 then hexLo else hexUp
noncomputable def blank1 (w : Int) : List Nat := at_ (blanks ++ [[]]) ((w.fdiv 2).fmod 7).toNat
noncomputable def near (f : Nat) (x : List Nat) : Bool := blanks.contains x || (decide (f < 6) && (decide (x.headD 0 ∈ hexLo) || decide (x.headD 0 ∈ hexUp)))
noncomputable def blank2 (w : Int) (rest : List (List Nat)) : List Nat := if blank1 w = [] ∧ rest ≠ [] ∧ near (figs w) (rest.headD []) = true then [32] else blank1 w
noncomputable def blank3 (w : Int) (rest : List (List Nat)) : List Nat := if blank2 w rest = [13] ∧ rest.headD [] = [10] then [13,10] else blank2 w rest
noncomputable def hexGo (hx : List Nat) : Nat → Nat → List (List Nat) → List (List Nat)
  | 0,_,s => s
  | n + 1,c,s => hexGo hx n (c / 16) ([at_ hx (c % 16)] :: s)
noncomputable def hexSigns (w : Int) (rest : List (List Nat)) : List (List Nat) := [92] :: hexGo (hexOf7 w) (figs w) (codeOf w) (if blank3 w rest = [] then [] else [blank3 w rest])
structure Put where
  rest : List (List Nat)
  told : List (Nat × Nat × List Nat)
  value : List Nat
  quote : Nat
  fault : Nat
noncomputable def entry (fault left : Nat) (value : List Nat) : List (Nat × Nat × List Nat) := if fault = 1 then [(1,left,[])] else if fault = 2 then [(0,left,value),(2,left,[])] else [(0,left,value)]
noncomputable def put7 (x : Put) (n : Int) : Put :=
  let w := n.fdiv 5
  if n.fmod 5 = 0 then
    let p := at_ plainT (w.fmod 16).toNat
    let p := if p = [x.quote] then [34] else p
    { x with rest := (p.map fun c => [c]) ++ x.rest,value := (if p = [0] then [65533] else p) ++ x.value }
  else if n.fmod 5 = 1 then
    let c := at_ escT (w.fmod 16).toNat
    { x with rest := [92] :: [c] :: x.rest,value := nch c :: x.value }
  else if n.fmod 5 = 2 then { x with rest := hexSigns w x.rest ++ x.rest,value := valOf7 w :: x.value }
  else if n.fmod 5 = 3 then { x with rest := [92] :: lineEnd w x.rest :: x.rest }
  else
    let rest := [x.quote] :: x.rest
    let told := entry x.fault rest.length x.value ++ x.told
    let q := if w.fmod 2 = 0 then 34 else 39
    if (w.fdiv 2).fmod 2 = 0 then { rest := [q] :: rest,told := told,value := [],quote := q,fault := 0 }
    else { rest := endOf (w.fdiv 4) :: rest,told := (3,rest.length + 1,[10]) :: told,value := [],quote := q,fault := 1 }
noncomputable def sgnOk (x : List Nat) : Prop := x = [13,10] ∨ ∃ c,x = [c]
noncomputable def Fine (r : List (List Nat)) : Prop := ∀ x ∈ r,sgnOk x ∧ ∀ c ∈ x,c < 1114112
end
section
section
section
variable {C : Cx}
noncomputable def hexEnd (css : List Nat) (pos : Nat) : Nat := run isHex css 6 pos
theorem hexEnd_call {css : List Nat} {pos : Nat} {hp : List AObj} (hz : css.length ≤ 1000) : Calls C 2 (.fn 29) [.str css,.int pos] hp fun v hp' => v = .int (hexEnd css pos) ∧ hp' = hp := by
  refine call_intro (xs := [oS "css",oS "pos"]) (vars0 := [(oS "css",V.str css),(oS "pos",V.int pos),(oS "end",V.undef)]) (gl0 := []) (d := 1) rfl ?_ (by rfl) (by rfl) (by rfl) ?_
  · (first | (intro dV doc pm cdv ct an vals hl _ h1 s h2; obtain ⟨T,hT⟩ := h1 rfl; subst hT; obtain ⟨o,n,ho,hs⟩ := h2 T rfl rfl; match vals,hl with | [a],_ => exact ⟨[.bool false],.of_defaults rfl ho hs rfl rfl,.inr ⟨rfl,rfl⟩⟩) | (intro dV doc pm cdv ct an vals hl _ h1 s h2; obtain ⟨T,hT⟩ := h1 rfl; subst hT; obtain ⟨o,n,ho,hs⟩ := h2 T rfl rfl; match vals,hl with | [a,b],_ => exact ⟨[],.of_defaults rfl ho hs rfl rfl,.inl ⟨rfl,rfl⟩⟩) | (intro dV doc pm cdv ct an vals hl h0 _ s _; have hq := h0 rfl; subst hq; obtain ⟨a,b,rfl⟩ := len2 hl; exact ⟨[],.of_eq (by kernel_rfl),.inl ⟨rfl,rfl⟩⟩))
  intro e he hg
  repeat' (first | (with_reducible refine U_as1 ?_; with_reducible refine S_Assign ?_) | (with_reducible refine U_name ?_; with_reducible refine N_x ?_) | (with_reducible refine U_asg ?_; with_reducible refine A_x ?_))
  refine S_W (fun n st => ∃ k : Nat,n + k = pos + 6 ∧ run isHex css n k = hexEnd css pos ∧ st = ⟨[(oS "css",V.str css),(oS "pos",V.int pos),(oS "end",V.int (k : Int))],hp⟩) 6 ⟨pos,by (first|lia -abstractProof|omega),rfl,rfl⟩ ?_
  rintro n st ⟨k,hk,hr,rfl⟩
  repeat' (first | (with_reducible refine U_aug ?_; with_reducible refine S_Aug ?_) | with_reducible refine S_Return ?_ | with_reducible refine T_nil ?_ | (with_reducible refine U_name ?_; with_reducible refine N_x ?_) | with_reducible refine T_nat ?_ | (with_reducible refine U_str ?_; with_reducible refine T_lit ?_) | with_reducible refine T_BinOp ?_ | (with_reducible refine U_sl2 ?_; with_reducible refine T_SliceNat ?_) | (with_reducible refine U_sub ?_; with_reducible refine T_Sub ?_) | (with_reducible refine U_bc1 ?_; with_reducible refine B_Compare ?_) | with_reducible refine B_and ?_ | with_reducible refine B_andNil ?_ | with_reducible refine ite_tt ?_ | with_reducible refine ite_ff ?_ | with_reducible refine ite_hexin (fun _ => ?_) (fun _ => ?_) | with_reducible refine ite_dec (fun _ => ?_) (fun _ => ?_) | with_reducible refine ite_cutne (fun _ => ?_) (fun _ => ?_) | with_reducible refine Cmp_ltn ?_ | with_reducible refine Cmp_in1 ?_ | with_reducible refine Cmp_nes ?_ | with_reducible refine Bin_addn ?_ | with_reducible refine Bin_iaddn ?_ | with_reducible refine K_next ?_ | (with_reducible refine U_sto ?_; with_reducible refine Sto_x ?_) | (with_reducible refine U_ex1 ?_; with_reducible refine ⟨_,rfl,?_⟩) | (with_reducible refine U_ex2 ?_; with_reducible refine ⟨_,_,rfl,rfl,?_,?_⟩; (first | assumption | (first|lia -abstractProof|omega) | (simp only [List.flatten_append,List.flatten_cons,List.flatten_nil,List.append_nil,List.length_append,List.length_cons,List.length_nil,cut_length,List.length_take,List.length_drop,List.length_map]; (first|lia -abstractProof|omega)) | (simp; (first|lia -abstractProof|omega)))) | (with_reducible refine U_ich ?_; with_reducible refine Item_ch ?_))
  · rename_i h1 h2 h3
    obtain ⟨n,rfl⟩ : ∃ m,n = m + 1 := ⟨n - 1,by (first|lia -abstractProof|omega)⟩
    rw [run,if_pos ⟨h2,h3⟩] at hr
    exact WK_next n (by (first|lia -abstractProof|omega)) ⟨k + 1,by (first|lia -abstractProof|omega),hr,rfl⟩
  · rename_i h1 h2 h3
    obtain ⟨n,rfl⟩ : ∃ m,n = m + 1 := ⟨n - 1,by (first|lia -abstractProof|omega)⟩
    rw [run,if_neg (fun q => h3 q.2)] at hr
    exact ⟨by rw [← hr]; rfl,rfl⟩
  · rename_i h1 h2
    obtain ⟨n,rfl⟩ : ∃ m,n = m + 1 := ⟨n - 1,by (first|lia -abstractProof|omega)⟩
    rw [run,if_neg (fun q => h2 q.1)] at hr
    exact ⟨by rw [← hr]; rfl,rfl⟩
  · rename_i h1
    obtain rfl : n = 0 := by (first|lia -abstractProof|omega)
    rw [run] at hr
    exact ⟨by rw [← hr]; rfl,rfl⟩
noncomputable def isNS (c : Nat) : Bool := (97 ≤ c && c ≤ 122) || (65 ≤ c && c ≤ 90) || c == 95 || 127 < c
noncomputable def nsS : List Nat := [97,98,99,100,101,102,103,104,105,106,107,108,109,110,111,112,113,114,115,116,117,118,119,120,121,122,65,66,67,68,69,70,71,72,73,74,75,76,77,78,79,80,81,82,83,84,85,86,87,88,89,90,95]
theorem ns_mem (c : Nat) : decide (c ∈ nsS) = ((97 ≤ c && c ≤ 122) || (65 ≤ c && c ≤ 90) || c == 95) :=
  mem_iff_b (p := fun c => (97 ≤ c && c ≤ 122) || (65 ≤ c && c ≤ 90) || c == 95) (n := 128) (by decide +kernel) (fun c h => by simp only [Bool.or_eq_true,Bool.and_eq_true,decide_eq_true_eq,beq_iff_eq] at h; (first|lia -abstractProof|omega)) (by decide +kernel) c
theorem ns_mem2 {c : Nat} (h : c ∈ nsS) : isNS c = true := by
  have := ns_mem c
  rw [decide_eq_true h] at this
  unfold isNS; rw [← this]; rfl
theorem ns_mem3 {c : Nat} (h : c ∉ nsS) : isNS c = decide (127 < c) := by
  have := ns_mem c
  rw [decide_eq_false h] at this
  unfold isNS; rw [← this]; rfl
theorem isNameStart_call {css : List Nat} {pos : Nat} {hp : List AObj} (hz : css.length ≤ 1000) (hp0 : pos < css.length) : Calls C 2 (.fn 31) [.str css,.int pos] hp fun v hp' => v = .bool (isNS (ch css pos)) ∧ hp' = hp := by
  refine call_intro (xs := [oS "css",oS "pos"]) (vars0 := [(oS "css",V.str css),(oS "pos",V.int pos),(oS "c",V.undef)]) (gl0 := [(oS "ord",((.raw (.builtin "ord")) : V))]) (d := 1) rfl ?_ (by rfl) (by rfl) (by rfl) ?_
  · (first | (intro dV doc pm cdv ct an vals hl _ h1 s h2; obtain ⟨T,hT⟩ := h1 rfl; subst hT; obtain ⟨o,n,ho,hs⟩ := h2 T rfl rfl; match vals,hl with | [a],_ => exact ⟨[.bool false],.of_defaults rfl ho hs rfl rfl,.inr ⟨rfl,rfl⟩⟩) | (intro dV doc pm cdv ct an vals hl _ h1 s h2; obtain ⟨T,hT⟩ := h1 rfl; subst hT; obtain ⟨o,n,ho,hs⟩ := h2 T rfl rfl; match vals,hl with | [a,b],_ => exact ⟨[],.of_defaults rfl ho hs rfl rfl,.inl ⟨rfl,rfl⟩⟩) | (intro dV doc pm cdv ct an vals hl h0 _ s _; have hq := h0 rfl; subst hq; obtain ⟨a,b,rfl⟩ := len2 hl; exact ⟨[],.of_eq (by kernel_rfl),.inl ⟨rfl,rfl⟩⟩))
  intro e he hg
  repeat' (first | (with_reducible refine U_as1 ?_; with_reducible refine S_Assign ?_) | with_reducible refine S_Return ?_ | (with_reducible refine U_name ?_; with_reducible refine N_x ?_) | with_reducible refine T_nat ?_ | (with_reducible refine U_str ?_; with_reducible refine T_lit ?_) | (with_reducible refine U_call ?_; with_reducible refine Q_call (by assumption) ?_) | (with_reducible refine U_cmp ?_; with_reducible refine T_Compare ?_) | with_reducible refine T_Or ?_ | (with_reducible refine U_sub ?_; with_reducible refine T_Sub ?_) | with_reducible refine ite_dec (fun _ => ?_) (fun _ => ?_) | (with_reducible refine U_acons ?_; with_reducible refine A_cons ?_) | with_reducible refine A_nil ?_ | with_reducible refine Cmp_gtn ?_ | with_reducible refine Cmp_in1 ?_ | with_reducible refine Ap_ord ?_ | (with_reducible refine U_asg ?_; with_reducible refine A_x ?_) | (with_reducible refine U_ich ?_; with_reducible refine Item_ch ?_) | with_reducible refine Truth_bool ?_)
  · rename_i h; exact ⟨by rw [ns_mem2 h,decide_eq_true h]; rfl,rfl⟩
  · rename_i h; exact ⟨by rw [ns_mem3 h]; rfl,rfl⟩
noncomputable def escAt (l : List Nat) (i : Nat) : Bool := startsAt l [92] i && !startsAt l [92,10] i
noncomputable def identStart (l : List Nat) (i : Nat) : Bool :=
  isNS (ch l i) || (ch l i == 45 && ((decide (i + 1 < l.length) && (isNS (ch l (i + 1)) || ch l (i + 1) == 45)) || escAt l (i + 1))) || (ch l i == 92 && !startsAt l [92,10] i)
theorem identStart_call {css : List Nat} {pos : Nat} {hp : List AObj} (hz : css.length ≤ 1000) (hp0 : pos < css.length) : Calls C 3 (.fn 32) [.str css,.int pos] hp fun v hp' => v = .bool (identStart css pos) ∧ hp' = hp := by
  refine call_intro (xs := [oS "css",oS "pos"]) (vars0 := [(oS "css",V.str css),(oS "pos",V.int pos)]) (gl0 := [(oS "_is_name_start",((.fn 31) : V)),(oS "len",((.raw (.builtin "len")) : V))]) (d := 2) rfl ?_ (by rfl) (by rfl) (by rfl) ?_
  · (first | (intro dV doc pm cdv ct an vals hl _ h1 s h2; obtain ⟨T,hT⟩ := h1 rfl; subst hT; obtain ⟨o,n,ho,hs⟩ := h2 T rfl rfl; match vals,hl with | [a],_ => exact ⟨[.bool false],.of_defaults rfl ho hs rfl rfl,.inr ⟨rfl,rfl⟩⟩) | (intro dV doc pm cdv ct an vals hl _ h1 s h2; obtain ⟨T,hT⟩ := h1 rfl; subst hT; obtain ⟨o,n,ho,hs⟩ := h2 T rfl rfl; match vals,hl with | [a,b],_ => exact ⟨[],.of_defaults rfl ho hs rfl rfl,.inl ⟨rfl,rfl⟩⟩) | (intro dV doc pm cdv ct an vals hl h0 _ s _; have hq := h0 rfl; subst hq; obtain ⟨a,b,rfl⟩ := len2 hl; exact ⟨[],.of_eq (by kernel_rfl),.inl ⟨rfl,rfl⟩⟩))
  intro e he hg
  repeat' (first | with_reducible refine S_IfE ?_ | with_reducible refine S_If ?_ | (with_reducible refine U_aug ?_; with_reducible refine S_Aug ?_) | with_reducible refine S_Return ?_ | with_reducible refine T_nil ?_ | (with_reducible refine U_name ?_; with_reducible refine N_x ?_) | with_reducible refine T_nat ?_ | (with_reducible refine U_str ?_; with_reducible refine T_lit ?_) | (with_reducible refine U_call ?_; with_reducible refine Q_call (by assumption) ?_) | with_reducible refine T_bool ?_ | with_reducible refine T_UnaryOp ?_ | (with_reducible refine U_cmp ?_; with_reducible refine T_Compare ?_) | with_reducible refine T_Or ?_ | with_reducible refine T_And ?_ | (with_reducible refine U_sub ?_; with_reducible refine T_Sub ?_) | (with_reducible refine U_meth "startswith" ?_; with_reducible refine M_startswith ?_) | (with_reducible refine U_bc1 ?_; with_reducible refine B_Compare ?_) | with_reducible refine B_val ?_ | with_reducible refine ite_dec (fun _ => ?_) (fun _ => ?_) | with_reducible refine ite_beq (fun _ => ?_) (fun _ => ?_) | with_reducible refine ite_starts1 (fun _ _ => ?_) (fun _ => ?_) | with_reducible refine ite_in (fun _ => ?_) (fun _ => ?_) | (with_reducible refine U_acons ?_; with_reducible refine A_cons ?_) | with_reducible refine A_nil ?_ | with_reducible refine Cmp_ltn ?_ | with_reducible refine Cmp_eq1 ?_ | with_reducible refine Bin_iaddn ?_ | (with_reducible refine Ap_len_str ?_ ?_; (first | assumption | (first|lia -abstractProof|omega) | (simp only [List.flatten_append,List.flatten_cons,List.flatten_nil,List.append_nil,List.length_append,List.length_cons,List.length_nil,cut_length,List.length_take,List.length_drop,List.length_map]; (first|lia -abstractProof|omega)) | (simp; (first|lia -abstractProof|omega)))) | (with_reducible refine U_raw "str.startswith" ?_; with_reducible refine Ap_startswith (by decide) ?_) | with_reducible refine K_next ?_ | with_reducible refine K_ret ?_ | (with_reducible refine U_sto ?_; with_reducible refine Sto_x ?_) | (with_reducible refine U_ex1 ?_; with_reducible refine ⟨_,rfl,?_⟩) | (with_reducible refine U_ich ?_; with_reducible refine Item_ch ?_) | with_reducible refine Un_not ?_ | with_reducible refine Truth_bool ?_ | (with_reducible refine U_fn 31 ?_; with_reducible refine Ap_is (Calls.lift (isNameStart_call (by (first | assumption | (first|lia -abstractProof|omega) | (simp only [List.flatten_append,List.flatten_cons,List.flatten_nil,List.append_nil,List.length_append,List.length_cons,List.length_nil,cut_length,List.length_take,List.length_drop,List.length_map]; (first|lia -abstractProof|omega)) | (simp; (first|lia -abstractProof|omega)))) (by (first | assumption | (first|lia -abstractProof|omega) | (simp only [List.flatten_append,List.flatten_cons,List.flatten_nil,List.append_nil,List.length_append,List.length_cons,List.length_nil,cut_length,List.length_take,List.length_drop,List.length_map]; (first|lia -abstractProof|omega)) | (simp; (first|lia -abstractProof|omega))))) (by (first|lia -abstractProof|omega))) ?_))
  all_goals refine ⟨?_,rfl⟩
  all_goals simp only [AF.val,V.bool.injEq,identStart,escAt]
  all_goals have n45 : isNS 45 = false := by decide
  all_goals have n92 : isNS 92 = false := by decide
  all_goals by_cases q1 : pos + 1 < css.length
  all_goals by_cases q2 : ch css (pos + 1) = 92
  all_goals first | (exfalso; (first|lia -abstractProof|omega)) | ((simp only [AF.val, *,starts_one,beqd,true_and,and_true,and_false,false_and,if_true,if_false,and_self,not_true_eq_false,not_false_eq_true,ne_eq,Bool.and_true,Bool.true_and,Bool.and_false,Bool.false_and,Bool.or_true,Bool.true_or,Bool.or_false,Bool.false_or,Bool.not_true,Bool.not_false,decide_true,decide_false,Bool.false_eq_true,reduceIte,Bool.and_self,Bool.or_self]); done) | (simp [*,starts_one,beqd]; done) | (simp_all [starts_one,beqd]; done)
noncomputable def escape (l : List Nat) (i : Nat) : List Nat × Nat :=
  let e := hexEnd l i
  if i < e then (if 0 < hexVal (cut l i e) ∧ hexVal (cut l i e) ≤ 1114111 then [hexVal (cut l i e)] else [65533],if e < l.length ∧ isWs (ch l e) = true then e + 1 else e)
  else if i < l.length then ([ch l i],i + 1) else ([65533],i)
theorem cut_mem {l : List Nat} {a b c : Nat} (h : c ∈ cut l a b) : ∃ i,a ≤ i ∧ i < b ∧ i < l.length ∧ ch l i = c := by
  unfold cut at h
  obtain ⟨j,hj⟩ := List.getElem?_of_mem h
  have hlt : j < b - a := by
    have := (List.getElem?_eq_some_iff.mp hj).1
    simp at this; (first|lia -abstractProof|omega)
  rw [List.getElem?_take_of_lt hlt,List.getElem?_drop] at hj
  have h2 := (List.getElem?_eq_some_iff.mp hj).1
  refine ⟨a + j,by (first|lia -abstractProof|omega),by (first|lia -abstractProof|omega),h2,?_⟩
  rw [ch_get h2] at hj; cases hj; rfl
theorem run_all (p : Nat → Bool) (l : List Nat) : ∀ (n i j : Nat),i ≤ j → j < run p l n i → p (ch l j) = true
  | 0,i,j,h1,h2 => by rw [run] at h2; (first|lia -abstractProof|omega)
  | n + 1,i,j,h1,h2 => by
    rw [run] at h2
    split at h2
    · rename_i q
      by_cases e : j = i
      · subst e; exact q.2
      · exact run_all p l n (i + 1) j (by (first|lia -abstractProof|omega)) h2
    · (first|lia -abstractProof|omega)
theorem run_cut (p : Nat → Bool) (l : List Nat) (n i : Nat) : (cut l i (run p l n i)).all p = true := by
  refine List.all_eq_true.mpr fun c hc => ?_
  obtain ⟨j,h1,h2,_,rfl⟩ := cut_mem hc
  exact run_all p l n i j h1 h2
theorem run_max (p : Nat → Bool) (l : List Nat) : ∀ (n i : Nat),run p l n i ≤ i + n
  | 0,i => Nat.le_refl _
  | n + 1,i => by
    rw [run]
    split
    · have := run_max p l n (i + 1); (first|lia -abstractProof|omega)
    · (first|lia -abstractProof|omega)
theorem hexEnd_le (l : List Nat) (i : Nat) : i ≤ hexEnd l i := run_le _ _ _ _
theorem hexEnd_max (l : List Nat) (i : Nat) : hexEnd l i ≤ i + 6 := run_max _ _ _ _
theorem hexEnd_len {l : List Nat} {i : Nat} (h : i ≤ l.length) : hexEnd l i ≤ l.length := run_len _ _ _ _ h
theorem cut_ne {l : List Nat} {a b : Nat} (h : a < b) (hb : b ≤ l.length) : cut l a b ≠ [] := fun q => by
  have := cut_length l a b
  rw [q] at this
  simp only [List.length_nil] at this
  (first|lia -abstractProof|omega)
theorem escape_call {css : List Nat} {pos : Nat} {hp : List AObj} (hz : css.length ≤ 1000) (hp0 : pos ≤ css.length) : Calls C 3 (.fn 35) [.str css,.int pos] hp fun v hp' => v = .tup [.str (escape css pos).1,.int (escape css pos).2] ∧ hp' = hp := by
  refine call_intro (xs := [oS "css",oS "pos"]) (vars0 := [(oS "css",V.str css),(oS "pos",V.int pos),(oS "end",V.undef),(oS "codepoint",V.undef)]) (gl0 := [(oS "_hex_end",((.fn 29) : V)),(oS "int",((.raw (.type "int")) : V)),(oS "chr",((.raw (.builtin "chr")) : V)),(oS "len",((.raw (.builtin "len")) : V))]) (d := 2) rfl ?_ (by rfl) (by rfl) (by rfl) ?_
  · (first | (intro dV doc pm cdv ct an vals hl _ h1 s h2; obtain ⟨T,hT⟩ := h1 rfl; subst hT; obtain ⟨o,n,ho,hs⟩ := h2 T rfl rfl; match vals,hl with | [a],_ => exact ⟨[.bool false],.of_defaults rfl ho hs rfl rfl,.inr ⟨rfl,rfl⟩⟩) | (intro dV doc pm cdv ct an vals hl _ h1 s h2; obtain ⟨T,hT⟩ := h1 rfl; subst hT; obtain ⟨o,n,ho,hs⟩ := h2 T rfl rfl; match vals,hl with | [a,b],_ => exact ⟨[],.of_defaults rfl ho hs rfl rfl,.inl ⟨rfl,rfl⟩⟩) | (intro dV doc pm cdv ct an vals hl h0 _ s _; have hq := h0 rfl; subst hq; obtain ⟨a,b,rfl⟩ := len2 hl; exact ⟨[],.of_eq (by kernel_rfl),.inl ⟨rfl,rfl⟩⟩))
  intro e he hg
  have b1 := hexEnd_le css pos
  have b2 := hexEnd_max css pos
  have b3 := hexEnd_len hp0
  repeat' (first | (with_reducible refine U_as1 ?_; with_reducible refine S_Assign ?_) | with_reducible refine S_IfE ?_ | with_reducible refine S_Return ?_ | (with_reducible refine U_name ?_; with_reducible refine N_x ?_) | with_reducible refine T_nat ?_ | (with_reducible refine U_str ?_; with_reducible refine T_lit ?_) | with_reducible refine T_BinOp ?_ | (with_reducible refine U_call ?_; with_reducible refine Q_call (by assumption) ?_) | (with_reducible refine U_sl2 ?_; with_reducible refine T_SliceNat ?_) | (with_reducible refine U_sub ?_; with_reducible refine T_Sub ?_) | with_reducible refine T_Tuple ?_ | (with_reducible refine U_bc1 ?_; with_reducible refine B_Compare ?_) | with_reducible refine ite_dec (fun _ => ?_) (fun _ => ?_) | (with_reducible refine U_acons ?_; with_reducible refine A_cons ?_) | with_reducible refine A_nil ?_ | with_reducible refine Cmp_ltn ?_ | with_reducible refine Cmp_gtn ?_ | with_reducible refine Bin_addn ?_ | (with_reducible refine Ap_len_str ?_ ?_; (first | assumption | (first|lia -abstractProof|omega) | (simp only [List.flatten_append,List.flatten_cons,List.flatten_nil,List.append_nil,List.length_append,List.length_cons,List.length_nil,cut_length,List.length_take,List.length_drop,List.length_map]; (first|lia -abstractProof|omega)) | (simp; (first|lia -abstractProof|omega)))) | (with_reducible refine U_asg ?_; with_reducible refine A_x ?_) | (with_reducible refine U_ex1 ?_; with_reducible refine ⟨_,rfl,?_⟩) | (with_reducible refine U_ex2 ?_; with_reducible refine ⟨_,_,rfl,rfl,?_,?_⟩; (first | assumption | (first|lia -abstractProof|omega) | (simp only [List.flatten_append,List.flatten_cons,List.flatten_nil,List.append_nil,List.length_append,List.length_cons,List.length_nil,cut_length,List.length_take,List.length_drop,List.length_map]; (first|lia -abstractProof|omega)) | (simp; (first|lia -abstractProof|omega)))) | (with_reducible refine U_ich ?_; with_reducible refine Item_ch ?_) | with_reducible refine size_and (by simp only [List.length_cons,List.length_nil]; (first|lia -abstractProof|omega)) ?_ | (with_reducible refine U_fn 29 ?_; with_reducible refine Ap_is (Calls.lift (hexEnd_call (by (first | assumption | (first|lia -abstractProof|omega) | (simp only [List.flatten_append,List.flatten_cons,List.flatten_nil,List.append_nil,List.length_append,List.length_cons,List.length_nil,cut_length,List.length_take,List.length_drop,List.length_map]; (first|lia -abstractProof|omega)) | (simp; (first|lia -abstractProof|omega))))) (by (first|lia -abstractProof|omega))) ?_))
  · rename_i h
    refine Ap_int16 (run_cut _ _ _ _) (cut_ne h b3) (by rw [cut_length]; (first|lia -abstractProof|omega)) ?_
    repeat' (first | with_reducible refine S_Return ?_ | (with_reducible refine U_name ?_; with_reducible refine N_x ?_) | with_reducible refine T_nat ?_ | (with_reducible refine U_str ?_; with_reducible refine T_lit ?_) | with_reducible refine T_BinOp ?_ | (with_reducible refine U_call ?_; with_reducible refine Q_call (by assumption) ?_) | with_reducible refine T_IfExp ?_ | (with_reducible refine U_sl2 ?_; with_reducible refine T_SliceNat ?_) | with_reducible refine T_Tuple ?_ | (with_reducible refine U_bc1 ?_; with_reducible refine B_Compare ?_) | (with_reducible refine U_bc2 ?_; with_reducible refine B_Compare2 ?_) | with_reducible refine ite_ff ?_ | with_reducible refine ite_wsin (fun _ _ => ?_) (fun _ => ?_) | with_reducible refine ite_dec (fun _ => ?_) (fun _ => ?_) | (with_reducible refine U_acons ?_; with_reducible refine A_cons ?_) | with_reducible refine A_nil ?_ | with_reducible refine Cmp_ltn ?_ | with_reducible refine Cmp_len ?_ | (with_reducible refine U_cin ?_; with_reducible refine Cmp_inT ?_) | with_reducible refine Bin_addn ?_ | with_reducible refine Ap_chrn (by (first | assumption | (first|lia -abstractProof|omega) | (simp only [List.flatten_append,List.flatten_cons,List.flatten_nil,List.append_nil,List.length_append,List.length_cons,List.length_nil,cut_length,List.length_take,List.length_drop,List.length_map]; (first|lia -abstractProof|omega)) | (simp; (first|lia -abstractProof|omega)))) ?_ | (with_reducible refine U_asg ?_; with_reducible refine A_x ?_) | (with_reducible refine U_ex1 ?_; with_reducible refine ⟨_,rfl,?_⟩) | (with_reducible refine U_ex2 ?_; with_reducible refine ⟨_,_,rfl,rfl,?_,?_⟩; (first | assumption | (first|lia -abstractProof|omega) | (simp only [List.flatten_append,List.flatten_cons,List.flatten_nil,List.append_nil,List.length_append,List.length_cons,List.length_nil,cut_length,List.length_take,List.length_drop,List.length_map]; (first|lia -abstractProof|omega)) | (simp; (first|lia -abstractProof|omega)))) | with_reducible refine size_and (by simp only [List.length_cons,List.length_nil]; (first|lia -abstractProof|omega)) ?_)
    all_goals refine ⟨?_,rfl⟩
    all_goals unfold escape
    all_goals (simp only [AF.val, *,starts_one,beqd,true_and,and_true,and_false,false_and,if_true,if_false,and_self,not_true_eq_false,not_false_eq_true,ne_eq,Bool.and_true,Bool.true_and,Bool.and_false,Bool.false_and,Bool.or_true,Bool.true_or,Bool.or_false,Bool.false_or,Bool.not_true,Bool.not_false,decide_true,decide_false,Bool.false_eq_true,reduceIte,Bool.and_self,Bool.or_self])
  all_goals refine ⟨?_,rfl⟩
  all_goals unfold escape
  all_goals (simp only [AF.val, *,starts_one,beqd,true_and,and_true,and_false,false_and,if_true,if_false,and_self,not_true_eq_false,not_false_eq_true,ne_eq,Bool.and_true,Bool.true_and,Bool.and_false,Bool.false_and,Bool.or_true,Bool.true_or,Bool.or_false,Bool.false_or,Bool.not_true,Bool.not_false,decide_true,decide_false,Bool.false_eq_true,reduceIte,Bool.and_self,Bool.or_self])
end
end
section
set_option maxRecDepth 20000
section
variable {C : Cx}
theorem escape_le (l : List Nat) (i : Nat) : i ≤ (escape l i).2 := by
  unfold escape
  dsimp only
  split
  · dsimp only; split <;> (first|lia -abstractProof|omega)
  · split <;> dsimp only <;> (first|lia -abstractProof|omega)
theorem escape_len {l : List Nat} {i : Nat} (h : i ≤ l.length) : (escape l i).2 ≤ l.length := by
  have := hexEnd_len h
  unfold escape
  dsimp only
  split
  · dsimp only; split <;> (first|lia -abstractProof|omega)
  · split <;> dsimp only <;> (first|lia -abstractProof|omega)
theorem escape_one (l : List Nat) (i : Nat) : ∃ c,(escape l i).1 = [c] := by
  unfold escape
  dsimp only
  split
  · dsimp only; split <;> exact ⟨_,rfl⟩
  · split <;> exact ⟨_,rfl⟩
noncomputable def isNC (c : Nat) : Bool := isNS c || c == 45 || isDig c
noncomputable def escOk (l : List Nat) (i : Nat) : Bool := ch l i == 92 && !startsAt l [92,10] i
noncomputable def nameGo (l : List Nat) : Nat → Nat → List Nat × Nat
  | 0,i => ([],i)
  | n + 1,i =>
    if i < l.length ∧ isNC (ch l i) = true then (ch l i :: (nameGo l n (i + 1)).1,(nameGo l n (i + 1)).2)
    else if i < l.length ∧ escOk l i = true then ((escape l (i + 1)).1 ++ (nameGo l n (escape l (i + 1)).2).1,(nameGo l n (escape l (i + 1)).2).2)
    else ([],i)
noncomputable def name (l : List Nat) (i : Nat) : List Nat × Nat := nameGo l (l.length - i) i
theorem cut_snoc {l : List Nat} {a b : Nat} (h : a ≤ b) (hb : b < l.length) : cut l a b ++ [ch l b] = cut l a (b + 1) := by
  unfold cut
  have e : (l.drop a)[b - a]? = some (ch l b) := by rw [List.getElem?_drop,show a + (b - a) = b by (first|lia -abstractProof|omega)]; exact ch_get hb
  rw [show b + 1 - a = (b - a) + 1 by (first|lia -abstractProof|omega),List.take_add_one,e]; rfl
theorem cut_self {α : Type} (l : List α) (a : Nat) : cut l a a = [] := by unfold cut; rw [Nat.sub_self,List.take_zero]
end
end
section
set_option maxRecDepth 20000
set_option maxHeartbeats 4000000
section
variable {C : Cx}
noncomputable def quoGo (l : List Nat) (q : Nat) : Nat → Nat → Option (List Nat) × Nat × Bool
  | 0,i => (some [],i,true)
  | n + 1,i =>
    if i < l.length then
      if ch l i = q then (some [],i + 1,false)
      else if ch l i = 92 then
        if i + 1 < l.length then
          if ch l (i + 1) = 10 then quoGo l q n (i + 2)
          else ((quoGo l q n (escape l (i + 1)).2).1.map fun v => (escape l (i + 1)).1 ++ v,(quoGo l q n (escape l (i + 1)).2).2)
        else quoGo l q n (i + 1)
      else if ch l i = 10 then (none,i,false)
      else ((quoGo l q n (i + 1)).1.map fun v => ch l i :: v,(quoGo l q n (i + 1)).2)
    else (some [],i,true)
noncomputable def quo (l : List Nat) (q i : Nat) : Option (List Nat) × Nat × Bool := quoGo l q (l.length - i) i
theorem quoGo_eq (l : List Nat) (q : Nat) : ∀ (n m i : Nat),l.length - i ≤ n → l.length - i ≤ m → quoGo l q n i = quoGo l q m i
  | 0,0,i,_,_ => rfl
  | 0,m + 1,i,h,_ => by rw [quoGo,quoGo,if_neg (by (first|lia -abstractProof|omega))]
  | n + 1,0,i,_,h => by rw [quoGo,quoGo,if_neg (by (first|lia -abstractProof|omega))]
  | n + 1,m + 1,i,h1,h2 => by
    have e := escape_le l (i + 1)
    rw [quoGo,quoGo,quoGo_eq l q n m (i + 1) (by (first|lia -abstractProof|omega)) (by (first|lia -abstractProof|omega)),quoGo_eq l q n m (i + 2) (by (first|lia -abstractProof|omega)) (by (first|lia -abstractProof|omega)),quoGo_eq l q n m (escape l (i + 1)).2 (by (first|lia -abstractProof|omega)) (by (first|lia -abstractProof|omega))]
theorem quo_step {l : List Nat} {q i : Nat} (h : i < l.length) : quo l q i = if ch l i = q then (some [],i + 1,false)
      else if ch l i = 92 then
        if i + 1 < l.length then
          if ch l (i + 1) = 10 then quo l q (i + 2)
          else ((quo l q (escape l (i + 1)).2).1.map fun v => (escape l (i + 1)).1 ++ v,(quo l q (escape l (i + 1)).2).2)
        else quo l q (i + 1)
      else if ch l i = 10 then (none,i,false)
      else ((quo l q (i + 1)).1.map fun v => ch l i :: v,(quo l q (i + 1)).2) := by
  have e := escape_le l (i + 1)
  unfold quo
  rw [show l.length - i = (l.length - (i + 1)) + 1 by (first|lia -abstractProof|omega),quoGo,if_pos h,quoGo_eq l q _ (l.length - (i + 2)) (i + 2) (by (first|lia -abstractProof|omega)) (by (first|lia -abstractProof|omega)),quoGo_eq l q _ (l.length - (escape l (i + 1)).2) (escape l (i + 1)).2 (by (first|lia -abstractProof|omega)) (by (first|lia -abstractProof|omega))]
theorem quo_end {l : List Nat} {q i : Nat} (h : ¬ i < l.length) : quo l q i = (some [],i,true) := by
  unfold quo; rw [show l.length - i = 0 by (first|lia -abstractProof|omega)]; rfl
noncomputable def optV (o : Option (List Nat)) : V := match o with | some l => .str l | none => .none
noncomputable def eofStr : V := .tup [.str [101,111,102,45,105,110,45,115,116,114,105,110,103],.str [69,79,70,32,105,110,32,115,116,114,105,110,103]]
noncomputable def badStr : V := .tup [.str [98,97,100,45,115,116,114,105,110,103],.str [66,97,100,32,115,116,114,105,110,103,32,116,111,107,101,110]]
noncomputable def quoV (r : Option (List Nat) × Nat × Bool) : V := match r.1 with
  | some v => .tup [.str v,.int (r.2.1 : Int),if r.2.2 = true then eofStr else .none]
  | none => .tup [.none,.int (r.2.1 : Int),badStr]
theorem quo_call {css : List Nat} {pos : Nat} {hp : List AObj} (hz : css.length ≤ 1000) (hp0 : pos < css.length) (hq : ch css pos = 34 ∨ ch css pos = 39) : Calls C 4 (.fn 34) [.str css,.int pos] hp fun v hp' => hp' = hp ∧ v = quoV (quo css (ch css pos) (pos + 1)) := by
  refine Calls.mono (Q := fun v hp' => v = quoV (quo css (ch css pos) (pos + 1)) ∧ hp' = hp) (Calls.trim ?_) (fun v hp' h => ⟨h.2,h.1⟩)
  refine call_intro (xs := [oS "css",oS "pos"]) (vars0 := [(oS "css",V.str css),(oS "pos",V.int pos),(oS "error",V.undef),(oS "quote",V.undef),(oS "chunks",V.undef),(oS "length",V.undef),(oS "start_pos",V.undef),(oS "c",V.undef)]) (gl0 := [(oS "len",((.raw (.builtin "len")) : V)),(oS "_consume_escape",((.fn 35) : V))]) (d := 3) rfl ?_ (by rfl) (by rfl) (by rfl) ?_
  · (first | (intro dV doc pm cdv ct an vals hl _ h1 s h2; obtain ⟨T,hT⟩ := h1 rfl; subst hT; obtain ⟨o,n,ho,hs⟩ := h2 T rfl rfl; match vals,hl with | [a],_ => exact ⟨[.bool false],.of_defaults rfl ho hs rfl rfl,.inr ⟨rfl,rfl⟩⟩) | (intro dV doc pm cdv ct an vals hl _ h1 s h2; obtain ⟨T,hT⟩ := h1 rfl; subst hT; obtain ⟨o,n,ho,hs⟩ := h2 T rfl rfl; match vals,hl with | [a,b],_ => exact ⟨[],.of_defaults rfl ho hs rfl rfl,.inl ⟨rfl,rfl⟩⟩) | (intro dV doc pm cdv ct an vals hl h0 _ s _; have hq := h0 rfl; subst hq; obtain ⟨a,b,rfl⟩ := len2 hl; exact ⟨[],.of_eq (by kernel_rfl),.inl ⟨rfl,rfl⟩⟩))
  intro e he hg
  repeat' (first | (with_reducible refine U_as1 ?_; with_reducible refine S_Assign ?_) | with_reducible refine S_Assert ?_ | (with_reducible refine U_name ?_; with_reducible refine N_x ?_) | (with_reducible refine U_str ?_; with_reducible refine T_lit ?_) | with_reducible refine T_none ?_ | (with_reducible refine U_sub ?_; with_reducible refine T_Sub ?_) | with_reducible refine T_Tuple ?_ | (with_reducible refine U_bc1 ?_; with_reducible refine B_Compare ?_) | (with_reducible refine U_acons ?_; with_reducible refine A_cons ?_) | with_reducible refine A_nil ?_ | (with_reducible refine U_cin ?_; with_reducible refine Cmp_inT ?_) | (with_reducible refine U_asg ?_; with_reducible refine A_x ?_) | (with_reducible refine U_ich ?_; with_reducible refine Item_ch ?_) | with_reducible refine size_and (by simp only [List.length_cons,List.length_nil]; (first|lia -abstractProof|omega)) ?_)
  refine ⟨by rcases hq with h | h <;> rw [h] <;> rfl,?_⟩
  repeat' (first | (with_reducible refine U_as1 ?_; with_reducible refine S_Assign ?_) | (with_reducible refine U_aug ?_; with_reducible refine S_Aug ?_) | (with_reducible refine U_name ?_; with_reducible refine N_x ?_) | with_reducible refine T_nat ?_ | (with_reducible refine U_call ?_; with_reducible refine Q_call (by assumption) ?_) | with_reducible refine T_ListN ?_ | (with_reducible refine U_acons ?_; with_reducible refine A_cons ?_) | with_reducible refine A_nil ?_ | with_reducible refine Bin_iaddn ?_ | (with_reducible refine Ap_len_str ?_ ?_; (first | assumption | (first|lia -abstractProof|omega) | (simp only [List.flatten_append,List.flatten_cons,List.flatten_nil,List.append_nil,List.length_append,List.length_cons,List.length_nil,cut_length,List.length_take,List.length_drop,List.length_map]; (first|lia -abstractProof|omega)) | (simp; (first|lia -abstractProof|omega)))) | (with_reducible refine U_asg ?_; with_reducible refine A_x ?_) | (with_reducible refine U_new ?_; with_reducible refine NewL_i ?_) | (with_reducible refine U_sto ?_; with_reducible refine Sto_x ?_))
  refine S_W (fun n st => ∃ (i s : Nat) (cs : List (List Nat)) (cv : V),n = css.length - i ∧ s ≤ i ∧ i ≤ css.length ∧ cs.flatten.length ≤ s ∧ cs.length ≤ 2 * s ∧
    quo css (ch css pos) (pos + 1) = ((quo css (ch css pos) i).1.map fun v => cs.flatten ++ cut css s i ++ v,(quo css (ch css pos) i).2) ∧
    st = ⟨[(oS "css",V.str css),(oS "pos",V.int (i : Int)),(oS "error",V.none),(oS "quote",V.str [ch css pos]),(oS "chunks",V.own hp.length),(oS "length",V.int (css.length : Int)),(oS "start_pos",V.int (s : Int)),(oS "c",cv)],hp ++ [.list (cs.map V.str)]⟩) (css.length - (pos + 1)) ⟨pos + 1,pos + 1,[],.undef,rfl,Nat.le_refl _,hp0,Nat.zero_le _,Nat.zero_le _,by rw [cut_self]; simp,rfl⟩ ?_
  rintro n st ⟨i,s,cs,cv,hn,h1,h2,h3,h4,h5,rfl⟩
  repeat' (first | (with_reducible refine U_as1 ?_; with_reducible refine S_Assign ?_) | (with_reducible refine U_exp ?_; with_reducible refine S_Expr ?_) | with_reducible refine S_IfE ?_ | with_reducible refine S_If ?_ | (with_reducible refine U_aug ?_; with_reducible refine S_Aug ?_) | with_reducible refine S_Return ?_ | with_reducible refine T_nil ?_ | with_reducible refine S_Break ?_ | (with_reducible refine U_name ?_; with_reducible refine N_x ?_) | with_reducible refine T_nat ?_ | (with_reducible refine U_str ?_; with_reducible refine T_lit ?_) | (with_reducible refine U_call ?_; with_reducible refine Q_call (by assumption) ?_) | with_reducible refine T_none ?_ | (with_reducible refine U_sl2 ?_; with_reducible refine T_SliceNat ?_) | (with_reducible refine U_sub ?_; with_reducible refine T_Sub ?_) | with_reducible refine T_Tuple ?_ | (with_reducible refine U_meth "join" ?_; with_reducible refine M_join ?_) | (with_reducible refine U_meth "append" ?_; with_reducible refine M_append ?_) | (with_reducible refine U_bc1 ?_; with_reducible refine B_Compare ?_) | with_reducible refine ite_dec (fun _ => ?_) (fun _ => ?_) | with_reducible refine ite_beq (fun _ => ?_) (fun _ => ?_) | (with_reducible refine U_acons ?_; with_reducible refine A_cons ?_) | with_reducible refine A_nil ?_ | with_reducible refine Cmp_ltn ?_ | with_reducible refine Cmp_eq1 ?_ | with_reducible refine Bin_iaddn ?_ | (with_reducible refine U_raw "list.append" ?_; with_reducible refine Ap_appendS ?_ (by (first | assumption | (first|lia -abstractProof|omega) | (simp only [List.flatten_append,List.flatten_cons,List.flatten_nil,List.append_nil,List.length_append,List.length_cons,List.length_nil,cut_length,List.length_take,List.length_drop,List.length_map]; (first|lia -abstractProof|omega)) | (simp; (first|lia -abstractProof|omega))))) | (with_reducible refine U_raw "str.join" ?_; with_reducible refine Ap_joinS ?_ (by (first | assumption | (first|lia -abstractProof|omega) | (simp only [List.flatten_append,List.flatten_cons,List.flatten_nil,List.append_nil,List.length_append,List.length_cons,List.length_nil,cut_length,List.length_take,List.length_drop,List.length_map]; (first|lia -abstractProof|omega)) | (simp; (first|lia -abstractProof|omega))))) | with_reducible refine K_next ?_ | with_reducible refine WK_brk ?_ | with_reducible refine WK_ret ?_ | (with_reducible refine U_asg ?_; with_reducible refine A_x ?_) | (with_reducible refine U_sto ?_; with_reducible refine Sto_x ?_) | (with_reducible refine U_ex2 ?_; with_reducible refine ⟨_,_,rfl,last_at,?_⟩) | (with_reducible refine U_ex1 ?_; with_reducible refine ⟨_,rfl,?_⟩) | (with_reducible refine U_ex2 ?_; with_reducible refine ⟨_,_,rfl,rfl,?_,?_⟩; (first | assumption | (first|lia -abstractProof|omega) | (simp only [List.flatten_append,List.flatten_cons,List.flatten_nil,List.append_nil,List.length_append,List.length_cons,List.length_nil,cut_length,List.length_take,List.length_drop,List.length_map]; (first|lia -abstractProof|omega)) | (simp; (first|lia -abstractProof|omega)))) | (with_reducible refine U_ich ?_; with_reducible refine Item_ch ?_) | with_reducible refine size_and (by simp only [List.length_cons,List.length_nil]; (first|lia -abstractProof|omega)) ?_ | (with_reducible refine U_atup ?_; with_reducible refine Asg_Tuple ?_) | with_reducible refine AsgL_cons ?_ | with_reducible refine AsgL_nil ?_ | (with_reducible refine U_fn 35 ?_; with_reducible refine Ap_is (Calls.lift (escape_call (by (first | assumption | (first|lia -abstractProof|omega) | (simp only [List.flatten_append,List.flatten_cons,List.flatten_nil,List.append_nil,List.length_append,List.length_cons,List.length_nil,cut_length,List.length_take,List.length_drop,List.length_map]; (first|lia -abstractProof|omega)) | (simp; (first|lia -abstractProof|omega)))) (by (first | assumption | (first|lia -abstractProof|omega) | (simp only [List.flatten_append,List.flatten_cons,List.flatten_nil,List.append_nil,List.length_append,List.length_cons,List.length_nil,cut_length,List.length_take,List.length_drop,List.length_map]; (first|lia -abstractProof|omega)) | (simp; (first|lia -abstractProof|omega))))) (by (first|lia -abstractProof|omega))) ?_))
  · rename_i q1 q2
    rw [quo_step q1,if_pos q2] at h5
    refine ⟨by rfl,?_,rfl⟩
    rw [h5]; simp [AF.val,quoV]
  · rename_i q1 q2 q3 q4 q5
    rw [quo_step q1,if_neg q2,if_pos q3,if_pos q4,if_pos q5] at h5
    exact WK_next (css.length - (i + 2)) (by (first|lia -abstractProof|omega)) ⟨i + 2,i + 2,cs ++ [cut css s i],_,rfl,Nat.le_refl _,by (first|lia -abstractProof|omega),by (first | assumption | (first|lia -abstractProof|omega) | (simp only [List.flatten_append,List.flatten_cons,List.flatten_nil,List.append_nil,List.length_append,List.length_cons,List.length_nil,cut_length,List.length_take,List.length_drop,List.length_map]; (first|lia -abstractProof|omega)) | (simp; (first|lia -abstractProof|omega))),by (first | assumption | (first|lia -abstractProof|omega) | (simp only [List.flatten_append,List.flatten_cons,List.flatten_nil,List.append_nil,List.length_append,List.length_cons,List.length_nil,cut_length,List.length_take,List.length_drop,List.length_map]; (first|lia -abstractProof|omega)) | (simp; (first|lia -abstractProof|omega))),by rw [h5,cut_self]; simp,rfl⟩
  · rename_i q1 q2 q3 q4 q5
    rw [quo_step q1,if_neg q2,if_pos q3,if_pos q4,if_neg q5] at h5
    have e1 := escape_le css (i + 1)
    have e2 := escape_len (l := css) (i := i + 1) (by (first|lia -abstractProof|omega))
    obtain ⟨ec,e3⟩ := escape_one css (i + 1)
    refine WK_next (css.length - (escape css (i + 1)).2) (by (first|lia -abstractProof|omega)) ⟨(escape css (i + 1)).2,(escape css (i + 1)).2,cs ++ [cut css s i] ++ [(escape css (i + 1)).1],_,rfl,Nat.le_refl _,e2,?_,?_,?_,rfl⟩
    · rw [e3]; (first | assumption | (first|lia -abstractProof|omega) | (simp only [List.flatten_append,List.flatten_cons,List.flatten_nil,List.append_nil,List.length_append,List.length_cons,List.length_nil,cut_length,List.length_take,List.length_drop,List.length_map]; (first|lia -abstractProof|omega)) | (simp; (first|lia -abstractProof|omega)))
    · (first | assumption | (first|lia -abstractProof|omega) | (simp only [List.flatten_append,List.flatten_cons,List.flatten_nil,List.append_nil,List.length_append,List.length_cons,List.length_nil,cut_length,List.length_take,List.length_drop,List.length_map]; (first|lia -abstractProof|omega)) | (simp; (first|lia -abstractProof|omega)))
    · rw [h5,cut_self]; simp [Option.map_map,Function.comp_def]
  · rename_i q1 q2 q3 q4
    rw [quo_step q1,if_neg q2,if_pos q3,if_neg q4] at h5
    exact WK_next (css.length - (i + 1)) (by (first|lia -abstractProof|omega)) ⟨i + 1,i + 1,cs ++ [cut css s i],_,rfl,Nat.le_refl _,by (first|lia -abstractProof|omega),by (first | assumption | (first|lia -abstractProof|omega) | (simp only [List.flatten_append,List.flatten_cons,List.flatten_nil,List.append_nil,List.length_append,List.length_cons,List.length_nil,cut_length,List.length_take,List.length_drop,List.length_map]; (first|lia -abstractProof|omega)) | (simp; (first|lia -abstractProof|omega))),by (first | assumption | (first|lia -abstractProof|omega) | (simp only [List.flatten_append,List.flatten_cons,List.flatten_nil,List.append_nil,List.length_append,List.length_cons,List.length_nil,cut_length,List.length_take,List.length_drop,List.length_map]; (first|lia -abstractProof|omega)) | (simp; (first|lia -abstractProof|omega))),by rw [h5,cut_self]; simp,rfl⟩
  · rename_i q1 q2 q3 q4
    rw [quo_step q1,if_neg q2,if_neg q3,if_pos q4] at h5
    refine ⟨by rfl,?_,rfl⟩
    rw [h5]; rfl
  · rename_i q1 q2 q3 q4
    rw [quo_step q1,if_neg q2,if_neg q3,if_neg q4] at h5
    exact WK_next (css.length - (i + 1)) (by (first|lia -abstractProof|omega)) ⟨i + 1,s,cs,_,rfl,by (first|lia -abstractProof|omega),by (first|lia -abstractProof|omega),h3,h4,by rw [h5,← cut_snoc h1 q1]; simp [Option.map_map,Function.comp_def],rfl⟩
  · rename_i q1
    rw [quo_end q1] at h5
    refine ⟨by rfl,?_,rfl⟩
    rw [h5]
    simp [AF.val,quoV,eofStr]
    try (first|lia -abstractProof|omega)
end
end
section
set_option maxRecDepth 20000
set_option maxHeartbeats 4000000
section
variable {C : Cx}
end
end
section
set_option maxRecDepth 20000
set_option maxHeartbeats 4000000
section
variable {C : Cx}
noncomputable def remnGo (l : List Nat) : Nat → Nat → Nat
  | 0,i => i
  | n + 1,i => if i < l.length then (if startsAt l [92,41] i = true then remnGo l n (i + 2) else if ch l i = 41 then i + 1 else remnGo l n (i + 1)) else i
noncomputable def remn (l : List Nat) (i : Nat) : Nat := remnGo l (l.length - i) i
noncomputable def badUrlS : List Nat := [34,39,40,0,1,2,3,4,5,6,7,8,11,14,15,16,17,18,19,20,21,22,23,24,25,26,27,28,29,30,31,127]
noncomputable def urlTail (l : List Nat) (i : Nat) : Option (List Nat) × Nat × Nat :=
  let j := skip isWs l i
  if j < l.length then (if ch l j = 41 then (some [],j + 1,0) else (none,remn l j,2)) else (some [],j,1)
noncomputable def pre (v : List Nat) (r : Option (List Nat) × Nat × Nat) : Option (List Nat) × Nat × Nat := (r.1.map fun w => v ++ w,r.2)
noncomputable def urlGo (l : List Nat) : Nat → Nat → Option (List Nat) × Nat × Nat
  | 0,i => (some [],i,1)
  | n + 1,i =>
    if i < l.length then
      if ch l i = 41 then (some [],i + 1,0)
      else if isWs (ch l i) = true then urlTail l (i + 1)
      else if escOk l i = true then pre (escape l (i + 1)).1 (urlGo l n (escape l (i + 1)).2)
      else if ch l i ∈ badUrlS then (none,remn l (i + 1),2)
      else pre [ch l i] (urlGo l n (i + 1))
    else (some [],i,1)
noncomputable def urlIn (l : List Nat) (i : Nat) : Option (List Nat) × Nat × Nat := urlGo l (l.length - i) i
noncomputable def url (l : List Nat) (i : Nat) : Option (List Nat) × Nat × Nat := urlIn l (skip isWs l i)
end
end
section
set_option maxRecDepth 20000
set_option maxHeartbeats 4000000
section
variable {C : Cx}
theorem ser_call {css : List Nat} {hp : List AObj} {k : Nat} (hz : css.length ≤ 100000) (hk : hp[k]? = some (.tab (C.tc 5))) : Calls C 1 (.fn 5) [.str css] hp fun v hp' => hp' = hp ∧ ∃ m,v = .str m ∧ m.length ≤ 4 * css.length := by
  refine call_introC (xs := [oS "value"]) (vars0 := [(oS "value",V.str css)]) (gl0 := []) (d := 0) rfl ?_ (by rfl) (by rfl) (by rfl) ?_
  · (intro dV doc pm cdv ct an vals hl h0 _ s _; have hq := h0 rfl; subst hq; obtain ⟨a,rfl⟩ := len1 hl; exact ⟨[],.of_eq (by kernel_rfl),.inl ⟨rfl,rfl⟩⟩)
  intro e he hg hcode
  refine S_Return (M_joinGen (genOk_of (by rfl)) ?_ ?_ (by with_unfolding_all rfl) (by with_unfolding_all rfl) (by with_unfolding_all rfl) (by with_unfolding_all rfl) (by intro _; rfl))
  · refine elt_get (es := [([34],.str [92,34]),([92],.str [92,92]),([10],.str [92,65,32]),([13],.str [92,68,32]),([12],.str [92,67,32])]) rfl (lookup_any isLoc_eq (nodupS_iff (by rfl)) (by rfl)) (neDebug (by rfl)) (lookup_any isGlo_eq (nodupS_iff (by rfl)) (by rfl)) (neDebug (by rfl)) ?_ ?_ rfl (by intro env; with_unfolding_all rfl) (by intro env; with_unfolding_all rfl) (by intro env; with_unfolding_all rfl)
    · exact .head _
    · intro k v hv
      unfold lookD at hv
      obtain ⟨p,h1,rfl⟩ := Option.map_eq_some_iff.mp hv
      have := List.mem_of_find?_eq_some h1
      simp only [List.mem_cons,List.not_mem_nil,or_false] at this
      rcases this with rfl | rfl | rfl | rfl | rfl <;> exact ⟨_,rfl,by decide⟩
  · repeat' (first | (with_reducible refine U_str ?_; with_reducible refine T_lit ?_))
    refine ⟨rfl,?_⟩
    repeat' (first | (with_reducible refine U_name ?_; with_reducible refine N_x ?_))
    exact ⟨css,k,_,rfl,hz,hk,hcode (.inl rfl),fun m hm => ⟨rfl,m,rfl,hm⟩⟩
end
end
section
set_option maxRecDepth 20000
set_option maxHeartbeats 4000000
section
variable {C : Cx}
noncomputable def low1 (c : Nat) : Nat := if 65 ≤ c ∧ c ≤ 90 then c + 32 else c
noncomputable def lower (l : List Nat) : List Nat := l.map low1
end
end
section
set_option maxRecDepth 20000
set_option linter.unusedSimpArgs false
set_option maxHeartbeats 4000000
section
variable {C : Cx} {d : Nat} {e : Env}
theorem Asg_slotL {self : Str} {name : String} {sp pos : Pos} {c k : Nat} {fs fs' : List V} {v : V} {vars : List (Str × V)} {hp : List AObj} {Q : St → Prop} (hm : Has self (.own hp.length) vars) (hk : (slotTab c)[k]? = some name) (hf : fs.set k v = fs') (h : Q ⟨vars,hp ++ [.inst c fs']⟩) :
    Asg C d e (.Attribute (.Name self sp) (oS name) pos) v ⟨vars,hp ++ [.inst c fs]⟩ Q :=
  Asg_slot (N_x ⟨rfl,last_at,hk,by rw [last_set,hf]; exact h⟩ hm nu_own)
theorem node_call {c k0 k1 : Nat} {fs : List V} {line col : V} {hp : List AObj} (h0 : (slotTab c)[k0]? = some "source_column") (h1 : (slotTab c)[k1]? = some "source_line") (n1 : line ≠ .undef) (n2 : col ≠ .undef) : Calls C 1 (.fn 1008) [.own hp.length,line,col] (hp ++ [.inst c fs]) fun v hp' => v = .none ∧ hp' = hp ++ [.inst c ((fs.set k1 line).set k0 col)] := by
  refine call_intro (xs := [oS "self",oS "source_line",oS "source_column"]) (vars0 := [(oS "self",V.own hp.length),(oS "source_line",line),(oS "source_column",col)]) (gl0 := []) (d := 0) rfl ?_ (by rfl) (by rfl) (by rfl) ?_
  · (intro dV doc pm cdv ct an vals hl h0 _ s _; have hq := h0 rfl; subst hq; obtain ⟨a,b,c,rfl⟩ := len3 hl; exact ⟨[],.of_eq (by kernel_rfl),.inl ⟨rfl,rfl⟩⟩)
  intro e he hg
  repeat' (first | (with_reducible refine U_as1 ?_; with_reducible refine S_Assign ?_) | (with_reducible refine U_name ?_; with_reducible refine N_x ?_))
  refine Asg_slotL .here h1 rfl ?_
  repeat' (first | (with_reducible refine U_as1 ?_; with_reducible refine S_Assign ?_) | (with_reducible refine U_name ?_; with_reducible refine N_x ?_))
  refine Asg_slotL .here h0 rfl ?_
  repeat' (first | with_reducible refine T_nil ?_)
  exact ⟨rfl,rfl⟩
theorem Ap_node {c : Nat} (k : Nat) {fs fs' : List V} {line col : V} {vars : List (Str × V)} {hp : List AObj} {Q : V → St → Prop} (h0 : (slotTab c)[k]? = some "source_column") (h1 : (slotTab c)[k + 1]? = some "source_line") (n1 : line ≠ .undef) (n2 : col ≠ .undef) (hf : (fs.set (k + 1) line).set k col = fs') (h : Q .none ⟨vars,hp ++ [.inst c fs']⟩) :
    Ap C (d + 1) e (.fn (1000 + 8)) [.own hp.length,line,col] ⟨vars,hp ++ [.inst c fs]⟩ Q :=
  Ap_Calls (Calls.lift (Calls.mono (node_call h0 h1 n1 n2) fun v hp' ⟨q1,q2⟩ => by subst q1; subst q2; rw [hf]; exact h) (by (first|lia -abstractProof|omega)))
inductive FgtL : List V → List V → Prop where
  | nil : FgtL [] []
  | keep {x : V} {r r' : List V} : FgtL r r' → FgtL (x :: r) (x :: r')
  | drop {x : V} {r r' : List V} : FgtL r r' → FgtL (x :: r) (.undef :: r')
theorem RelS.forget {B : Base} {σ : List Addr} {fs fs' : List V} (F : FgtL fs fs') : ∀ {vs : List (Option Value)},RelS C B σ fs vs → RelS C B σ fs' vs := by
  induction F with
  | nil => intro vs h; exact h
  | keep _ ih => intro vs h; simp only [RelS] at h ⊢; exact ⟨h.1,ih h.2⟩
  | drop _ ih => intro vs h; simp only [RelS] at h; exact ⟨Or.inl rfl,ih h.2⟩
theorem Calls.forgetI {f : V} {args : List V} {hp : List AObj} {Q : V → List AObj → Prop} (h : Calls C d f args hp fun v hp' => ∃ i fs fs',v = .inst i fs ∧ FgtL fs fs' ∧ Q (.inst i fs') hp') : Calls C d f args hp Q := by
  intro A kp B σ s fv vals hA hG hf hv
  refine codeAny_mono (h A kp B σ s fv vals hA hG hf hv) fun r s' hr => ?_
  obtain ⟨v,B',σ',b,hp',h1,h2,h3,h4,h5,i,fs,fs',rfl,F,q⟩ := hr
  obtain ⟨a,o,ca,dx,od,g1,g2,g3,g4,g5,g6,g7,g8⟩ := h5
  exact ⟨v,B',σ',.inst i fs',hp',h1,h2,h3,h4,⟨a,o,ca,dx,od,g1,g2,g3,g4,g5,g6,g7,RelS.forget F g8⟩,q⟩

theorem init_9 {line col kind message : V} {hp : List AObj} (h0 : line ≠ .undef) (h1 : col ≠ .undef) (h2 : kind ≠ .undef) (h3 : message ≠ .undef) : Calls C 2 (.fn 1009) [.own hp.length,line,col,kind,message] (hp ++ [.inst 9 [.undef,.undef,.undef,.undef]]) fun v hp' => v = .none ∧ hp' = hp ++ [.inst 9 [kind,message,col,line]] := by
  refine call_intro (xs := [oS "self",oS "line",oS "column",oS "kind",oS "message"]) (vars0 := [(oS "self",V.own hp.length),(oS "line",line),(oS "column",col),(oS "kind",kind),(oS "message",message)]) (gl0 := [(oS "Node",((.cls 8) : V))]) (d := 1) rfl ?_ (by rfl) (by rfl) (by rfl) ?_
  · (intro dV doc pm cdv ct an vals hl h0 _ s _; have hq := h0 rfl; subst hq; obtain ⟨a,b,c,d,e,rfl⟩ := len5 hl; exact ⟨[],.of_eq (by kernel_rfl),.inl ⟨rfl,rfl⟩⟩)
  intro e he hg
  repeat' (first | (with_reducible refine U_as1 ?_; with_reducible refine S_Assign ?_) | (with_reducible refine U_exp ?_; with_reducible refine S_Expr ?_) | (with_reducible refine U_name ?_; with_reducible refine N_x ?_) | (with_reducible refine U_name ?_; with_reducible refine N_g (by assumption) ?_) | (with_reducible refine U_meth "__init__" ?_; with_reducible refine T_ClsCall ?_) | (with_reducible refine U_acons ?_; with_reducible refine A_cons ?_) | with_reducible refine A_nil ?_ | (with_reducible refine U_ex1 ?_; with_reducible refine ⟨_,rfl,?_⟩) | with_reducible refine Ap_node 2 (by with_unfolding_all rfl) (by with_unfolding_all rfl) (by assumption) (by assumption) rfl ?_)
  refine Asg_slotL (k := 0) .here (by rfl) (by rfl) ?_
  repeat' (first | (with_reducible refine U_as1 ?_; with_reducible refine S_Assign ?_) | (with_reducible refine U_name ?_; with_reducible refine N_x ?_))
  refine Asg_slotL (k := 1) .here (by rfl) (by rfl) ?_
  repeat' (first | with_reducible refine T_nil ?_)
  exact ⟨rfl,rfl⟩
theorem cls_9 {line col kind message : V} {hp : List AObj} (h0 : line ≠ .undef) (h1 : col ≠ .undef) (h2 : kind ≠ .undef) (h3 : message ≠ .undef) (b0 : below hp.length line = true) (b1 : below hp.length col = true) (b2 : below hp.length kind = true) (b3 : below hp.length message = true) : Calls C 3 (.cls 9) [line,col,kind,message] hp fun v hp' => v = .inst 9 [kind,message,col,line] ∧ hp' = hp := Calls_cls (Calls.mono (init_9 h0 h1 h2 h3) fun v hp' ⟨q1,q2⟩ => ⟨q1,_,q2,by simp only [belowL,below,b0,b1,b2,b3,Bool.and_self],rfl,rfl⟩)
theorem init_10 {line col value : V} {hp : List AObj} (h0 : line ≠ .undef) (h1 : col ≠ .undef) (h2 : value ≠ .undef) : Calls C 2 (.fn 1010) [.own hp.length,line,col,value] (hp ++ [.inst 10 [.undef,.undef,.undef]]) fun v hp' => v = .none ∧ hp' = hp ++ [.inst 10 [value,col,line]] := by
  refine call_intro (xs := [oS "self",oS "line",oS "column",oS "value"]) (vars0 := [(oS "self",V.own hp.length),(oS "line",line),(oS "column",col),(oS "value",value)]) (gl0 := [(oS "Node",((.cls 8) : V))]) (d := 1) rfl ?_ (by rfl) (by rfl) (by rfl) ?_
  · (intro dV doc pm cdv ct an vals hl h0 _ s _; have hq := h0 rfl; subst hq; obtain ⟨a,b,c,d,rfl⟩ := len4 hl; exact ⟨[],.of_eq (by kernel_rfl),.inl ⟨rfl,rfl⟩⟩)
  intro e he hg
  repeat' (first | (with_reducible refine U_as1 ?_; with_reducible refine S_Assign ?_) | (with_reducible refine U_exp ?_; with_reducible refine S_Expr ?_) | (with_reducible refine U_name ?_; with_reducible refine N_x ?_) | (with_reducible refine U_name ?_; with_reducible refine N_g (by assumption) ?_) | (with_reducible refine U_meth "__init__" ?_; with_reducible refine T_ClsCall ?_) | (with_reducible refine U_acons ?_; with_reducible refine A_cons ?_) | with_reducible refine A_nil ?_ | (with_reducible refine U_ex1 ?_; with_reducible refine ⟨_,rfl,?_⟩) | with_reducible refine Ap_node 1 (by with_unfolding_all rfl) (by with_unfolding_all rfl) (by assumption) (by assumption) rfl ?_)
  refine Asg_slotL (k := 0) .here (by rfl) (by rfl) ?_
  repeat' (first | with_reducible refine T_nil ?_)
  exact ⟨rfl,rfl⟩
theorem init_11 {line col value : V} {hp : List AObj} (h0 : line ≠ .undef) (h1 : col ≠ .undef) (h2 : value ≠ .undef) : Calls C 2 (.fn 1011) [.own hp.length,line,col,value] (hp ++ [.inst 11 [.undef,.undef,.undef]]) fun v hp' => v = .none ∧ hp' = hp ++ [.inst 11 [value,col,line]] := by
  refine call_intro (xs := [oS "self",oS "line",oS "column",oS "value"]) (vars0 := [(oS "self",V.own hp.length),(oS "line",line),(oS "column",col),(oS "value",value)]) (gl0 := [(oS "Node",((.cls 8) : V))]) (d := 1) rfl ?_ (by rfl) (by rfl) (by rfl) ?_
  · (intro dV doc pm cdv ct an vals hl h0 _ s _; have hq := h0 rfl; subst hq; obtain ⟨a,b,c,d,rfl⟩ := len4 hl; exact ⟨[],.of_eq (by kernel_rfl),.inl ⟨rfl,rfl⟩⟩)
  intro e he hg
  repeat' (first | (with_reducible refine U_as1 ?_; with_reducible refine S_Assign ?_) | (with_reducible refine U_exp ?_; with_reducible refine S_Expr ?_) | (with_reducible refine U_name ?_; with_reducible refine N_x ?_) | (with_reducible refine U_name ?_; with_reducible refine N_g (by assumption) ?_) | (with_reducible refine U_meth "__init__" ?_; with_reducible refine T_ClsCall ?_) | (with_reducible refine U_acons ?_; with_reducible refine A_cons ?_) | with_reducible refine A_nil ?_ | (with_reducible refine U_ex1 ?_; with_reducible refine ⟨_,rfl,?_⟩) | with_reducible refine Ap_node 1 (by with_unfolding_all rfl) (by with_unfolding_all rfl) (by assumption) (by assumption) rfl ?_)
  refine Asg_slotL (k := 0) .here (by rfl) (by rfl) ?_
  repeat' (first | with_reducible refine T_nil ?_)
  exact ⟨rfl,rfl⟩
theorem cls_11 {line col value : V} {hp : List AObj} (h0 : line ≠ .undef) (h1 : col ≠ .undef) (h2 : value ≠ .undef) (b0 : below hp.length line = true) (b1 : below hp.length col = true) (b2 : below hp.length value = true) : Calls C 3 (.cls 11) [line,col,value] hp fun v hp' => v = .inst 11 [value,col,line] ∧ hp' = hp := Calls_cls (Calls.mono (init_11 h0 h1 h2) fun v hp' ⟨q1,q2⟩ => ⟨q1,_,q2,by simp only [belowL,below,b0,b1,b2,Bool.and_self],rfl,rfl⟩)
theorem init_16 {line col value representation : V} {hp : List AObj} (h0 : line ≠ .undef) (h1 : col ≠ .undef) (h2 : value ≠ .undef) (h3 : representation ≠ .undef) : Calls C 2 (.fn 1016) [.own hp.length,line,col,value,representation] (hp ++ [.inst 16 [.undef,.undef,.undef,.undef]]) fun v hp' => v = .none ∧ hp' = hp ++ [.inst 16 [representation,value,col,line]] := by
  refine call_intro (xs := [oS "self",oS "line",oS "column",oS "value",oS "representation"]) (vars0 := [(oS "self",V.own hp.length),(oS "line",line),(oS "column",col),(oS "value",value),(oS "representation",representation)]) (gl0 := [(oS "Node",((.cls 8) : V))]) (d := 1) rfl ?_ (by rfl) (by rfl) (by rfl) ?_
  · (intro dV doc pm cdv ct an vals hl h0 _ s _; have hq := h0 rfl; subst hq; obtain ⟨a,b,c,d,e,rfl⟩ := len5 hl; exact ⟨[],.of_eq (by kernel_rfl),.inl ⟨rfl,rfl⟩⟩)
  intro e he hg
  repeat' (first | (with_reducible refine U_as1 ?_; with_reducible refine S_Assign ?_) | (with_reducible refine U_exp ?_; with_reducible refine S_Expr ?_) | (with_reducible refine U_name ?_; with_reducible refine N_x ?_) | (with_reducible refine U_name ?_; with_reducible refine N_g (by assumption) ?_) | (with_reducible refine U_meth "__init__" ?_; with_reducible refine T_ClsCall ?_) | (with_reducible refine U_acons ?_; with_reducible refine A_cons ?_) | with_reducible refine A_nil ?_ | (with_reducible refine U_ex1 ?_; with_reducible refine ⟨_,rfl,?_⟩) | with_reducible refine Ap_node 2 (by with_unfolding_all rfl) (by with_unfolding_all rfl) (by assumption) (by assumption) rfl ?_)
  refine Asg_slotL (k := 1) .here (by rfl) (by rfl) ?_
  repeat' (first | (with_reducible refine U_as1 ?_; with_reducible refine S_Assign ?_) | (with_reducible refine U_name ?_; with_reducible refine N_x ?_))
  refine Asg_slotL (k := 0) .here (by rfl) (by rfl) ?_
  repeat' (first | with_reducible refine T_nil ?_)
  exact ⟨rfl,rfl⟩
theorem cls_16 {line col value representation : V} {hp : List AObj} (h0 : line ≠ .undef) (h1 : col ≠ .undef) (h2 : value ≠ .undef) (h3 : representation ≠ .undef) (b0 : below hp.length line = true) (b1 : below hp.length col = true) (b2 : below hp.length value = true) (b3 : below hp.length representation = true) : Calls C 3 (.cls 16) [line,col,value,representation] hp fun v hp' => v = .inst 16 [.undef,value,col,line] ∧ hp' = hp := by
  refine Calls.forgetI (Calls_cls (Calls.mono (init_16 h0 h1 h2 h3) fun v hp' ⟨q1,q2⟩ => ⟨q1,_,q2,by simp only [belowL,below,b0,b1,b2,b3,Bool.and_self],⟨_,_,[.undef,value,col,line],rfl,.drop (.keep (.keep (.keep .nil))),rfl,rfl⟩⟩))
end
end
section
set_option maxRecDepth 20000
set_option maxHeartbeats 4000000
section
variable {C : Cx}
noncomputable def pWhile : List Stmt := match P.main.body[(30 : Nat)]? with
  | some (.FunctionDef _ _ body _ _ _ _ _ _ _) => (match body[(8 : Nat)]? with | some (.While _ b _ _) => b | _ => [])
  | _ => []
noncomputable def els : List Stmt → List Stmt
  | [.If _ _ o _] => o
  | _ => []
noncomputable def thn : List Stmt → List Stmt
  | [.If _ b _ _] => b
  | _ => []
noncomputable def cA : List Stmt := (pWhile.drop 5).take 1
noncomputable def cB : List Stmt := pWhile.drop 7
theorem lit1 {C : Cx} {d : Nat} {e : Env} {l r : List Stmt} {x : Stmt} {st : St} {Q : AF → St → Prop} (h : l = x :: r) (g : TF C d e (execs (x :: r) e) st Q) : TF C d e (execs l e) st Q := by rw [h]; exact g
noncomputable def lineOf (l : List Nat) (p : Nat) : Nat := 1 + (l.take p).count 10
noncomputable def lnOf (l : List Nat) (p : Nat) : Int := rfindV 10 l 0 p
noncomputable def hvars (css : List Nat) (skp : Bool) (p q root cur si : Nat) (ec : V) : List (Str × V) :=
  [(oS "css",V.str css),(oS "skip_comments",V.bool skp),(oS "length",V.int (css.length : Int)),(oS "token_start_pos",V.int (p : Int)),(oS "pos",V.int (q : Int)),(oS "line",V.int (lineOf css p : Int)),(oS "last_newline",V.int (lnOf css p)),(oS "root",V.own root),(oS "tokens",V.own cur),(oS "end_char",ec),(oS "stack",V.own si),(oS "newline",V.undef),(oS "column",V.undef),(oS "c",V.undef),(oS "value",V.undef),(oS "start",V.undef),(oS "end",V.undef),(oS "is_url",V.undef),(oS "url_pos",V.undef),(oS "error",V.undef),(oS "repr",V.undef),(oS "error_key",V.undef),(oS "arguments",V.undef),(oS "plain",V.undef),(oS "repr_",V.undef),(oS "int_value",V.undef),(oS "unit",V.undef),(oS "is_identifier",V.undef),(oS "content",V.undef)]
noncomputable def colV (css : List Nat) (p : Nat) : V := .int ((p : Int) - lnOf css p)
noncomputable def lineV (css : List Nat) (p : Nat) : V := .int (lineOf css p : Int)
noncomputable def pushL (hp : List AObj) (i : Nat) (t : V) : List AObj := match hp[i]? with
  | some (.list xs) => hp.set i (.list (xs ++ [t]))
  | _ => hp
theorem pushL_eq {hp : List AObj} {i : Nat} {t : V} {xs : List V} (h : hp[i]? = some (.list xs)) : hp.set i (.list (xs ++ [t])) = pushL hp i t := by unfold pushL; rw [h]
theorem Ap_push {d : Nat} {e : Env} {vars : List (Str × V)} {hp : List AObj} {i : Nat} {xs : List V} {v : V} {Q : V → St → Prop} (hi : hp[i]? = some (.list xs)) (hz : xs.length ≤ 16777216) (h : Q .none ⟨vars,pushL hp i v⟩) : Ap C d e (.raw (.builtin "list.append")) [.own i,v] ⟨vars,hp⟩ Q :=
  Ap_append hi hz (by rw [pushL_eq hi]; exact h)
noncomputable def tvars (css : List Nat) (skp : Bool) (p root cur si : Nat) (ec nl : V) : List (Str × V) :=
  [(oS "css",V.str css),(oS "skip_comments",V.bool skp),(oS "length",V.int (css.length : Int)),(oS "token_start_pos",V.int (p : Int)),(oS "pos",V.int (p : Int)),(oS "line",V.int (lineOf css p : Int)),(oS "last_newline",V.int (lnOf css p)),(oS "root",V.own root),(oS "tokens",V.own cur),(oS "end_char",ec),(oS "stack",V.own si),(oS "newline",nl),(oS "column",V.int ((p : Int) - lnOf css p)),(oS "c",V.str [ch css p]),(oS "value",V.undef),(oS "start",V.undef),(oS "end",V.undef),(oS "is_url",V.undef),(oS "url_pos",V.undef),(oS "error",V.undef),(oS "repr",V.undef),(oS "error_key",V.undef),(oS "arguments",V.undef),(oS "plain",V.undef),(oS "repr_",V.undef),(oS "int_value",V.undef),(oS "unit",V.undef),(oS "is_identifier",V.undef),(oS "content",V.undef)]
section
variable {css : List Nat} {skp : Bool} {p root cur si : Nat} {ec nl : V} {hp : List AObj} {xs : List V} {e : Env} {Z : AF → St → Prop}
theorem br_ws (hz : css.length ≤ 1000) (hp0 : p < css.length) (hec : ec ≠ .undef) (hg : GL C e [(oS "len",((.raw (.builtin "len")) : V)),(oS "WhitespaceToken",((.cls 11) : V)),(oS "_consume_unicode_range",((.fn 37) : V)),(oS "UnicodeRangeToken",((.cls 18) : V)),(oS "LiteralToken",((.cls 12) : V)),(oS "_is_ident_start",((.fn 32) : V)),(oS "_consume_ident",((.fn 33) : V)),(oS "IdentToken",((.cls 13) : V)),(oS "ascii_lower",((.fn 2) : V)),(oS "_consume_url",((.fn 36) : V)),(oS "serialize_url",((.fn 6) : V)),(oS "URLToken",((.cls 17) : V)),(oS "ParseError",((.cls 9) : V)),(oS "FunctionBlock",((.cls 25) : V)),(oS "_number_end",((.fn 28) : V)),(oS "int",((.raw (.type "int")) : V)),(oS "DimensionToken",((.cls 21) : V)),(oS "PercentageToken",((.cls 20) : V)),(oS "NumberToken",((.cls 19) : V)),(oS "AtKeywordToken",((.cls 14) : V)),(oS "ord",((.raw (.builtin "ord")) : V)),(oS "HashToken",((.cls 15) : V)),(oS "CurlyBracketsBlock",((.cls 24) : V)),(oS "SquareBracketsBlock",((.cls 23) : V)),(oS "ParenthesesBlock",((.cls 22) : V)),(oS "_consume_quoted_string",((.fn 34) : V)),(oS "serialize_string_value",((.fn 5) : V)),(oS "StringToken",((.cls 16) : V)),(oS "Comment",((.cls 10) : V))]) (hx : hp[cur]? = some (.list xs)) (hxz : xs.length ≤ 10000)
    (hZ : ∀ vars,Fgt vars (hvars css skp p (skip isWs css (p + 1)) root cur si ec) → Z .cont ⟨vars,pushL hp cur (.inst 11 [.str (cut css p (skip isWs css (p + 1))),colV css p,lineV css p])⟩) :
    TF C 8 e (execs (thn cA) e) ⟨tvars css skp p root cur si ec nl,hp⟩ Z := by
  refine lit1 rfl ?_
  unfold tvars
  repeat' (first | (with_reducible refine U_aug ?_; with_reducible refine S_Aug ?_) | with_reducible refine T_nat ?_ | with_reducible refine Bin_iaddn ?_ | (with_reducible refine U_sto ?_; with_reducible refine Sto_x ?_))
  refine S_Z (fun n st => ∃ j : Nat,n = css.length - j ∧ j ≤ css.length ∧ skip isWs css j = skip isWs css (p + 1) ∧ st = ⟨[(oS "css",V.str css),(oS "skip_comments",V.bool skp),(oS "length",V.int (css.length : Int)),(oS "token_start_pos",V.int (p : Int)),(oS "pos",V.int (j : Int)),(oS "line",V.int (lineOf css p : Int)),(oS "last_newline",V.int (lnOf css p)),(oS "root",V.own root),(oS "tokens",V.own cur),(oS "end_char",ec),(oS "stack",V.own si),(oS "newline",nl),(oS "column",V.int ((p : Int) - lnOf css p)),(oS "c",V.str [ch css p]),(oS "value",V.undef),(oS "start",V.undef),(oS "end",V.undef),(oS "is_url",V.undef),(oS "url_pos",V.undef),(oS "error",V.undef),(oS "repr",V.undef),(oS "error_key",V.undef),(oS "arguments",V.undef),(oS "plain",V.undef),(oS "repr_",V.undef),(oS "int_value",V.undef),(oS "unit",V.undef),(oS "is_identifier",V.undef),(oS "content",V.undef)],hp⟩) _ ⟨p + 1,rfl,by (first|lia -abstractProof|omega),rfl,rfl⟩ ?_
  rintro n st Z' hZ' ⟨j,rfl,hj,hr,rfl⟩
  repeat' (first | (with_reducible refine U_as1 ?_; with_reducible refine S_Assign ?_) | (with_reducible refine U_exp ?_; with_reducible refine S_Expr ?_) | (with_reducible refine U_aug ?_; with_reducible refine S_Aug ?_) | with_reducible refine T_nil ?_ | with_reducible refine S_Continue ?_ | (with_reducible refine U_name ?_; with_reducible refine N_x ?_) | with_reducible refine T_nat ?_ | (with_reducible refine U_str ?_; with_reducible refine T_lit ?_) | (with_reducible refine U_call ?_; with_reducible refine Q_call (by assumption) ?_) | (with_reducible refine U_sl2 ?_; with_reducible refine T_SliceNat ?_) | with_reducible refine T_Tuple ?_ | (with_reducible refine U_meth "startswith" ?_; with_reducible refine M_startswith ?_) | (with_reducible refine U_meth "append" ?_; with_reducible refine M_append ?_) | with_reducible refine B_val ?_ | with_reducible refine ite_ws (fun _ _ => ?_) (fun _ => ?_) | (with_reducible refine U_acons ?_; with_reducible refine A_cons ?_) | with_reducible refine A_nil ?_ | with_reducible refine Bin_iaddn ?_ | (with_reducible refine U_swT ?_; with_reducible refine Ap_startswithT ?_) | with_reducible refine K_next ?_ | (with_reducible refine U_asg ?_; with_reducible refine A_x ?_) | (with_reducible refine U_sto ?_; with_reducible refine Sto_x ?_) | (with_reducible refine U_ex2 ?_; with_reducible refine ⟨_,_,rfl,by assumption,?_⟩) | (with_reducible refine U_ex1 ?_; with_reducible refine ⟨_,rfl,?_⟩) | (with_reducible refine U_ex2 ?_; with_reducible refine ⟨_,_,rfl,rfl,?_,?_⟩; (first | assumption | (first|lia -abstractProof|omega) | (simp only [List.flatten_append,List.flatten_cons,List.flatten_nil,List.append_nil,List.length_append,List.length_cons,List.length_nil,cut_length,List.length_take,List.length_drop,List.length_map]; (first|lia -abstractProof|omega)) | (simp; (first|lia -abstractProof|omega)))) | with_reducible refine size_and (by simp only [List.length_cons,List.length_nil]; (first|lia -abstractProof|omega)) ?_ | with_reducible refine Truth_bool ?_ | (with_reducible refine U_cls 11 ?_; with_reducible refine Ap_is (Calls.lift (cls_11 (by (first | assumption | exact ne_undef rfl)) (by (first | assumption | exact ne_undef rfl)) (by (first | assumption | exact ne_undef rfl)) (by (first | assumption | with_unfolding_all rfl | (simp [below,belowL]; done))) (by (first | assumption | with_unfolding_all rfl | (simp [below,belowL]; done))) (by (first | assumption | with_unfolding_all rfl | (simp [below,belowL]; done)))) (by (first|lia -abstractProof|omega))) ?_) | (with_reducible refine U_raw "list.append" ?_; with_reducible refine Ap_push (by assumption) (by (first | assumption | (first|lia -abstractProof|omega) | (simp only [List.flatten_append,List.flatten_cons,List.flatten_nil,List.append_nil,List.length_append,List.length_cons,List.length_nil,cut_length,List.length_take,List.length_drop,List.length_map]; (first|lia -abstractProof|omega)) | (simp; (first|lia -abstractProof|omega)))) ?_))
  · rename_i q1 q2
    exact hZ'.nx (css.length - (j + 1)) _ (by (first|lia -abstractProof|omega)) ⟨j + 1,rfl,q1,by rw [← hr,skip_step q1 q2],rfl⟩
  rename_i q0
  rw [skip_stop q0] at hr
  rw [← hr] at hZ
  repeat' fail
  exact hZ _ (by unfold hvars; (with_reducible repeat constructor))
end
end
end
section
set_option maxRecDepth 20000
set_option maxHeartbeats 4000000
section
variable {C : Cx}
theorem escape_lt (l : List Nat) (i : Nat) : (escape l i).1.length = 1 := by obtain ⟨c,h⟩ := escape_one l i; rw [h]; rfl
theorem nameGo_len (l : List Nat) : ∀ (n i : Nat),i ≤ l.length → i ≤ (nameGo l n i).2 ∧ (nameGo l n i).2 ≤ l.length ∧ (nameGo l n i).1.length ≤ (nameGo l n i).2 - i
  | 0,i,h => ⟨Nat.le_refl _,h,Nat.zero_le _⟩
  | n + 1,i,h => by
    have e1 := escape_le l (i + 1)
    unfold nameGo
    split
    · rename_i q
      obtain ⟨a,b,c⟩ := nameGo_len l n (i + 1) (by (first|lia -abstractProof|omega))
      dsimp only [List.length_cons]
      (first|lia -abstractProof|omega)
    · split
      · rename_i q
        have e2 := escape_len (l := l) (i := i + 1) (by (first|lia -abstractProof|omega))
        obtain ⟨a,b,c⟩ := nameGo_len l n (escape l (i + 1)).2 e2
        dsimp only
        rw [List.length_append,escape_lt]
        (first|lia -abstractProof|omega)
      · dsimp only [List.length_nil]; (first|lia -abstractProof|omega)
theorem quo_call' {css : List Nat} {pos : Nat} {hp : List AObj} (hz : css.length ≤ 1000) (hp0 : pos < css.length) (hq : ch css pos = 34 ∨ ch css pos = 39) : Calls C 4 (.fn 34) [.str css,.int pos] hp fun v hp' => v = quoV (quo css (ch css pos) (pos + 1)) ∧ hp' = hp := Calls.mono (quo_call hz hp0 hq) fun _ _ h => ⟨h.2,h.1⟩
theorem quoGo_len (l : List Nat) (q : Nat) : ∀ (n i : Nat),i ≤ l.length → i ≤ (quoGo l q n i).2.1 ∧ (quoGo l q n i).2.1 ≤ l.length ∧ ∀ v,(quoGo l q n i).1 = some v → v.length ≤ n
  | 0,i,h => ⟨Nat.le_refl _,h,fun v hv => by cases hv; exact Nat.le_refl _⟩
  | n + 1,i,h => by
    unfold quoGo
    split
    · rename_i h0
      split
      · exact ⟨Nat.le_succ _,h0,fun v hv => by cases hv; exact Nat.zero_le _⟩
      split
      · split
        · rename_i h1
          split
          · obtain ⟨a,b,c⟩ := quoGo_len l q n (i + 2) h1
            exact ⟨Nat.le_trans (Nat.le_add_right i 2) a,b,fun v hv => Nat.le_succ_of_le (c v hv)⟩
          · obtain ⟨a,b,c⟩ := quoGo_len l q n (escape l (i + 1)).2 (escape_len h0)
            refine ⟨Nat.le_trans (Nat.le_trans (Nat.le_succ i) (escape_le l (i + 1))) a,b,fun v hv => ?_⟩
            obtain ⟨w,h2,rfl⟩ := Option.map_eq_some_iff.mp hv
            obtain ⟨z,hz⟩ := escape_one l (i + 1)
            rw [hz]; exact Nat.succ_le_succ (c w h2)
        · obtain ⟨a,b,c⟩ := quoGo_len l q n (i + 1) h0
          exact ⟨Nat.le_trans (Nat.le_succ i) a,b,fun v hv => Nat.le_succ_of_le (c v hv)⟩
      · split
        · exact ⟨Nat.le_refl _,h,fun v hv => by cases hv⟩
        · obtain ⟨a,b,c⟩ := quoGo_len l q n (i + 1) h0
          refine ⟨Nat.le_trans (Nat.le_succ i) a,b,fun v hv => ?_⟩
          obtain ⟨w,h2,rfl⟩ := Option.map_eq_some_iff.mp hv
          exact Nat.succ_le_succ (c w h2)
    · exact ⟨Nat.le_refl _,h,fun v hv => by cases hv; exact Nat.zero_le _⟩
theorem quo_len {l : List Nat} {q i : Nat} (h : i ≤ l.length) : i ≤ (quo l q i).2.1 ∧ (quo l q i).2.1 ≤ l.length ∧ ∀ v,(quo l q i).1 = some v → v.length ≤ l.length := by
  obtain ⟨a,b,c⟩ := quoGo_len l q (l.length - i) i h
  exact ⟨a,b,fun v hv => Nat.le_trans (c v hv) (Nat.sub_le _ _)⟩
noncomputable def tvarsB (css : List Nat) (skp : Bool) (p root cur si : Nat) (ec nl : V) : List (Str × V) :=
  [(oS "css",V.str css),(oS "skip_comments",V.bool skp),(oS "length",V.int (css.length : Int)),(oS "token_start_pos",V.int (p : Int)),(oS "pos",V.int (p : Int)),(oS "line",V.int (lineOf css p : Int)),(oS "last_newline",V.int (lnOf css p)),(oS "root",V.own root),(oS "tokens",V.own cur),(oS "end_char",ec),(oS "stack",V.own si),(oS "newline",nl),(oS "column",V.int ((p : Int) - lnOf css p)),(oS "c",V.str [ch css p]),(oS "value",V.undef),(oS "start",V.undef),(oS "end",V.none),(oS "is_url",V.undef),(oS "url_pos",V.undef),(oS "error",V.undef),(oS "repr",V.undef),(oS "error_key",V.undef),(oS "arguments",V.undef),(oS "plain",V.bool false),(oS "repr_",V.undef),(oS "int_value",V.undef),(oS "unit",V.undef),(oS "is_identifier",V.undef),(oS "content",V.undef)]
noncomputable def litV (css : List Nat) (p : Nat) (s : List Nat) : V := .inst 12 [.str s,colV css p,lineV css p]
noncomputable def errTok (css : List Nat) (p : Nat) (k m : List Nat) : V := .inst 9 [.str k,.str m,colV css p,lineV css p]


section
variable {css : List Nat} {skp : Bool} {p root cur si : Nat} {ec nl : V} {hp : List AObj} {xs S : List V} {e : Env} {Z : AF → St → Prop}

end
end
end
section
set_option maxRecDepth 20000
set_option maxHeartbeats 4000000
section
variable {C : Cx}
noncomputable def hashOk (l : List Nat) (i : Nat) : Bool := decide (i < l.length) && (isNC (ch l i) || escOk l i)
section
variable {d : Nat} {e : Env} {st : St}
theorem T_SliceNeg {value : Expr} {n k : Nat} {p q r pos : Pos} {Q : V → St → Prop}
    (h : TV C d e (eval value e) st fun o st₁ => ∃ l,o = .str l ∧ l.length ≤ 16777216 ∧ ∀ m,m.length ≤ l.length → Q (.str m) st₁)
    (ht : ∀ o r,letTemporaryGo value o r = pure () := by with_unfolding_all intro _ _; rfl) : TV C d e (eval (.Subscript value (.Slice none (some (.UnaryOp .USub (.Constant (.int (@OfNat.ofNat Int n (@instOfNat n))) k q) r)) none p) pos) e) st Q :=
  T_SliceStr (T.mono h fun o st₁ ⟨l,h1,h2,h3⟩ => P_none (P_some (T_UnaryOp (T_nat (Un_neg ⟨_,rfl,l,h1,h2,h3 _ (slc_length_le _ _ _)⟩))))) ht
theorem U_sln {value : Expr} {n k : Nat} {p q r pos : Pos} {Q : V → St → Prop} (h : TV C d e (eval (.Subscript value (.Slice none (some (.UnaryOp .USub (.Constant (.int (@OfNat.ofNat Int n (@instOfNat n))) k q) r)) none p) pos) e) st Q) : TV C d e (eval (.Subscript value (.Slice none (some (.UnaryOp .USub (.Constant (.int (@OfNat.ofNat Int n (@instOfNat n))) k q) r)) none p) pos) e) st Q := h
theorem U_js {a b : String} {ka kb : Nat} {pa pb pf pos : Pos} {value : Expr} {Q : V → St → Prop} (h : TV C d e (eval (.JoinedStr [.Constant (.str (oS a)) ka pa,.FormattedValue value (-1) none pf,.Constant (.str (oS b)) kb pb] pos) e) st Q) : TV C d e (eval (.JoinedStr [.Constant (.str (oS a)) ka pa,.FormattedValue value (-1) none pf,.Constant (.str (oS b)) kb pb] pos) e) st Q := h
theorem Ap_ser {l : List Nat} {vars : List (Str × V)} {hp : List AObj} {k : Nat} {Q : V → St → Prop} (hk : hp[k]? = some (.tab (C.tc 5))) (hz : l.length ≤ 100000) (h : ∀ m,m.length ≤ 4 * l.length → Q (.str m) ⟨vars,hp⟩) : Ap C (d + 1) e (.fn 5) [.str l] ⟨vars,hp⟩ Q :=
  Ap_Calls (Calls.lift (Calls.mono (ser_call hz hk) fun v hp' ⟨q1,m,q2,q3⟩ => by subst q1; subst q2; exact h m q3) (by (first|lia -abstractProof|omega)))
end
theorem quo_some {css v : List Nat} {pos q : Nat} {hp : List AObj} (hr : quo css (ch css pos) (pos + 1) = (some v,q,false)) (hz : css.length ≤ 1000) (hp0 : pos < css.length) (hq : ch css pos = 34 ∨ ch css pos = 39) : Calls C 4 (.fn 34) [.str css,.int pos] hp fun w hp' => w = .tup [.str v,.int (q : Int),.none] ∧ hp' = hp := Calls.mono (quo_call' hz hp0 hq) fun w hp' h => by rw [hr] at h; exact h
theorem quo_eof {css v : List Nat} {pos q : Nat} {hp : List AObj} (hr : quo css (ch css pos) (pos + 1) = (some v,q,true)) (hz : css.length ≤ 1000) (hp0 : pos < css.length) (hq : ch css pos = 34 ∨ ch css pos = 39) : Calls C 4 (.fn 34) [.str css,.int pos] hp fun w hp' => w = .tup [.str v,.int (q : Int),.tup [.str [101,111,102,45,105,110,45,115,116,114,105,110,103],.str [69,79,70,32,105,110,32,115,116,114,105,110,103]]] ∧ hp' = hp := Calls.mono (quo_call' hz hp0 hq) fun w hp' h => by rw [hr] at h; exact h
theorem quo_bad {css : List Nat} {pos q : Nat} {b : Bool} {hp : List AObj} (hr : quo css (ch css pos) (pos + 1) = (none,q,b)) (hz : css.length ≤ 1000) (hp0 : pos < css.length) (hq : ch css pos = 34 ∨ ch css pos = 39) : Calls C 4 (.fn 34) [.str css,.int pos] hp fun w hp' => w = .tup [.none,.int (q : Int),.tup [.str [98,97,100,45,115,116,114,105,110,103],.str [66,97,100,32,115,116,114,105,110,103,32,116,111,107,101,110]]] ∧ hp' = hp := Calls.mono (quo_call' hz hp0 hq) fun w hp' h => by rw [hr] at h; exact h


section
variable {css : List Nat} {skp : Bool} {p root cur si : Nat} {ec nl : V} {hp : List AObj} {xs S : List V} {e : Env} {Z : AF → St → Prop}

theorem br_quo1 (hz : css.length ≤ 1000) (hp0 : p < css.length) (hec : ec ≠ .undef) (hg : GL C e [(oS "len",((.raw (.builtin "len")) : V)),(oS "WhitespaceToken",((.cls 11) : V)),(oS "_consume_unicode_range",((.fn 37) : V)),(oS "UnicodeRangeToken",((.cls 18) : V)),(oS "LiteralToken",((.cls 12) : V)),(oS "_is_ident_start",((.fn 32) : V)),(oS "_consume_ident",((.fn 33) : V)),(oS "IdentToken",((.cls 13) : V)),(oS "ascii_lower",((.fn 2) : V)),(oS "_consume_url",((.fn 36) : V)),(oS "serialize_url",((.fn 6) : V)),(oS "URLToken",((.cls 17) : V)),(oS "ParseError",((.cls 9) : V)),(oS "FunctionBlock",((.cls 25) : V)),(oS "_number_end",((.fn 28) : V)),(oS "int",((.raw (.type "int")) : V)),(oS "DimensionToken",((.cls 21) : V)),(oS "PercentageToken",((.cls 20) : V)),(oS "NumberToken",((.cls 19) : V)),(oS "AtKeywordToken",((.cls 14) : V)),(oS "ord",((.raw (.builtin "ord")) : V)),(oS "HashToken",((.cls 15) : V)),(oS "CurlyBracketsBlock",((.cls 24) : V)),(oS "SquareBracketsBlock",((.cls 23) : V)),(oS "ParenthesesBlock",((.cls 22) : V)),(oS "_consume_quoted_string",((.fn 34) : V)),(oS "serialize_string_value",((.fn 5) : V)),(oS "StringToken",((.cls 16) : V)),(oS "Comment",((.cls 10) : V))]) (hx : hp[cur]? = some (.list xs)) (hxz : xs.length ≤ 10000) {q : Nat} {v : List Nat} {k5 : Nat} (hk5 : hp[k5]? = some (.tab (C.tc 5))) (hqc : ch css p = 34 ∨ ch css p = 39) (hr : quo css (ch css p) (p + 1) = (some v,q,false)) (hv : v.length ≤ 1000)
    (hZ : ∀ vars,Fgt vars (hvars css skp p q root cur si ec) → Z .next ⟨vars,pushL hp cur (.inst 16 [.undef,.str v,colV css p,lineV css p])⟩) :
    TF C 8 e (execs (thn (els (els (els (els (els (els (els (els cB))))))))) e) ⟨tvarsB css skp p root cur si ec nl,hp⟩ Z := by
  refine lit1 rfl ?_
  unfold tvarsB
  repeat' (first | (with_reducible refine U_as1 ?_; with_reducible refine S_Assign ?_) | (with_reducible refine U_exp ?_; with_reducible refine S_Expr ?_) | with_reducible refine S_IfE ?_ | with_reducible refine S_If ?_ | with_reducible refine T_nil ?_ | (with_reducible refine U_name ?_; with_reducible refine N_x ?_) | (with_reducible refine U_call ?_; with_reducible refine Q_call (by assumption) ?_) | with_reducible refine T_none ?_ | (with_reducible refine U_meth "append" ?_; with_reducible refine M_append ?_) | (with_reducible refine U_bc1 ?_; with_reducible refine B_Compare ?_) | with_reducible refine ite_tt ?_ | with_reducible refine ite_ff ?_ | (with_reducible refine U_acons ?_; with_reducible refine A_cons ?_) | with_reducible refine A_nil ?_ | with_reducible refine Cmp_isNotNone rfl ?_ | with_reducible refine K_next ?_ | (with_reducible refine U_asg ?_; with_reducible refine A_x ?_) | (with_reducible refine U_ex2 ?_; with_reducible refine ⟨_,_,rfl,by assumption,?_⟩) | (with_reducible refine U_atup ?_; with_reducible refine Asg_Tuple ?_) | with_reducible refine AsgL_cons ?_ | with_reducible refine AsgL_nil ?_ | (with_reducible refine U_raw "list.append" ?_; with_reducible refine Ap_push (by assumption) (by (first | assumption | (first|lia -abstractProof|omega) | (simp only [List.flatten_append,List.flatten_cons,List.flatten_nil,List.append_nil,List.length_append,List.length_cons,List.length_nil,cut_length,List.length_take,List.length_drop,List.length_map]; (first|lia -abstractProof|omega)) | (simp; (first|lia -abstractProof|omega)))) ?_) | (with_reducible refine U_cls 16 ?_; with_reducible refine Ap_is (Calls.lift (cls_16 (by (first | assumption | exact ne_undef rfl)) (by (first | assumption | exact ne_undef rfl)) (by (first | assumption | exact ne_undef rfl)) (by (first | assumption | exact ne_undef rfl)) (by (first | assumption | with_unfolding_all rfl | (simp [below,belowL]; done))) (by (first | assumption | with_unfolding_all rfl | (simp [below,belowL]; done))) (by (first | assumption | with_unfolding_all rfl | (simp [below,belowL]; done))) (by (first | assumption | with_unfolding_all rfl | (simp [below,belowL]; done)))) (by (first|lia -abstractProof|omega))) ?_) | (with_reducible refine U_fn 34 ?_; first | with_reducible refine Ap_is (Calls.lift (quo_some (by assumption) (by (first | assumption | (first|lia -abstractProof|omega) | (simp only [List.flatten_append,List.flatten_cons,List.flatten_nil,List.append_nil,List.length_append,List.length_cons,List.length_nil,cut_length,List.length_take,List.length_drop,List.length_map]; (first|lia -abstractProof|omega)) | (simp; (first|lia -abstractProof|omega)))) (by (first | assumption | (first|lia -abstractProof|omega) | (simp only [List.flatten_append,List.flatten_cons,List.flatten_nil,List.append_nil,List.length_append,List.length_cons,List.length_nil,cut_length,List.length_take,List.length_drop,List.length_map]; (first|lia -abstractProof|omega)) | (simp; (first|lia -abstractProof|omega)))) (by assumption)) (by (first|lia -abstractProof|omega))) ?_ | with_reducible refine Ap_is (Calls.lift (quo_eof (by assumption) (by (first | assumption | (first|lia -abstractProof|omega) | (simp only [List.flatten_append,List.flatten_cons,List.flatten_nil,List.append_nil,List.length_append,List.length_cons,List.length_nil,cut_length,List.length_take,List.length_drop,List.length_map]; (first|lia -abstractProof|omega)) | (simp; (first|lia -abstractProof|omega)))) (by (first | assumption | (first|lia -abstractProof|omega) | (simp only [List.flatten_append,List.flatten_cons,List.flatten_nil,List.append_nil,List.length_append,List.length_cons,List.length_nil,cut_length,List.length_take,List.length_drop,List.length_map]; (first|lia -abstractProof|omega)) | (simp; (first|lia -abstractProof|omega)))) (by assumption)) (by (first|lia -abstractProof|omega))) ?_ | with_reducible refine Ap_is (Calls.lift (quo_bad (by assumption) (by (first | assumption | (first|lia -abstractProof|omega) | (simp only [List.flatten_append,List.flatten_cons,List.flatten_nil,List.append_nil,List.length_append,List.length_cons,List.length_nil,cut_length,List.length_take,List.length_drop,List.length_map]; (first|lia -abstractProof|omega)) | (simp; (first|lia -abstractProof|omega)))) (by (first | assumption | (first|lia -abstractProof|omega) | (simp only [List.flatten_append,List.flatten_cons,List.flatten_nil,List.append_nil,List.length_append,List.length_cons,List.length_nil,cut_length,List.length_take,List.length_drop,List.length_map]; (first|lia -abstractProof|omega)) | (simp; (first|lia -abstractProof|omega)))) (by assumption)) (by (first|lia -abstractProof|omega))) ?_) | (with_reducible refine U_fn 5 ?_; with_reducible refine Ap_ser (by assumption) (by (first | assumption | (first|lia -abstractProof|omega) | (simp only [List.flatten_append,List.flatten_cons,List.flatten_nil,List.append_nil,List.length_append,List.length_cons,List.length_nil,cut_length,List.length_take,List.length_drop,List.length_map]; (first|lia -abstractProof|omega)) | (simp; (first|lia -abstractProof|omega)))) (fun _ _ => ?_)) | (with_reducible refine U_js ?_; with_reducible refine T_Joined3 (h := ?_)) | (with_reducible refine U_ex1 ?_; refine ⟨_,rfl,by (first | assumption | (first|lia -abstractProof|omega) | (simp only [List.flatten_append,List.flatten_cons,List.flatten_nil,List.append_nil,List.length_append,List.length_cons,List.length_nil,cut_length,List.length_take,List.length_drop,List.length_map]; (first|lia -abstractProof|omega)) | (simp; (first|lia -abstractProof|omega))),fun _ _ => ?_⟩))
  exact hZ _ (by unfold hvars; (with_reducible repeat constructor))
theorem br_quo2 (hz : css.length ≤ 1000) (hp0 : p < css.length) (hec : ec ≠ .undef) (hg : GL C e [(oS "len",((.raw (.builtin "len")) : V)),(oS "WhitespaceToken",((.cls 11) : V)),(oS "_consume_unicode_range",((.fn 37) : V)),(oS "UnicodeRangeToken",((.cls 18) : V)),(oS "LiteralToken",((.cls 12) : V)),(oS "_is_ident_start",((.fn 32) : V)),(oS "_consume_ident",((.fn 33) : V)),(oS "IdentToken",((.cls 13) : V)),(oS "ascii_lower",((.fn 2) : V)),(oS "_consume_url",((.fn 36) : V)),(oS "serialize_url",((.fn 6) : V)),(oS "URLToken",((.cls 17) : V)),(oS "ParseError",((.cls 9) : V)),(oS "FunctionBlock",((.cls 25) : V)),(oS "_number_end",((.fn 28) : V)),(oS "int",((.raw (.type "int")) : V)),(oS "DimensionToken",((.cls 21) : V)),(oS "PercentageToken",((.cls 20) : V)),(oS "NumberToken",((.cls 19) : V)),(oS "AtKeywordToken",((.cls 14) : V)),(oS "ord",((.raw (.builtin "ord")) : V)),(oS "HashToken",((.cls 15) : V)),(oS "CurlyBracketsBlock",((.cls 24) : V)),(oS "SquareBracketsBlock",((.cls 23) : V)),(oS "ParenthesesBlock",((.cls 22) : V)),(oS "_consume_quoted_string",((.fn 34) : V)),(oS "serialize_string_value",((.fn 5) : V)),(oS "StringToken",((.cls 16) : V)),(oS "Comment",((.cls 10) : V))]) (hx : hp[cur]? = some (.list xs)) (hxz : xs.length ≤ 10000) {q : Nat} {v : List Nat} {k5 : Nat} (hk5 : hp[k5]? = some (.tab (C.tc 5))) (hqc : ch css p = 34 ∨ ch css p = 39) (hr : quo css (ch css p) (p + 1) = (some v,q,true)) (hv : v.length ≤ 1000)
    (hZ : ∀ vars,Fgt vars (hvars css skp p q root cur si ec) → Z .next ⟨vars,pushL (pushL hp cur (.inst 16 [.undef,.str v,colV css p,lineV css p])) cur (errTok css p [101,111,102,45,105,110,45,115,116,114,105,110,103] [69,79,70,32,105,110,32,115,116,114,105,110,103])⟩) :
    TF C 8 e (execs (thn (els (els (els (els (els (els (els (els cB))))))))) e) ⟨tvarsB css skp p root cur si ec nl,hp⟩ Z := by
  refine lit1 rfl ?_
  unfold tvarsB
  have hx1 : (pushL hp cur (V.inst 16 [V.undef,V.str v,V.int ((p : Int) - lnOf css p),V.int (lineOf css p : Int)]))[cur]? = some (.list (xs ++ [V.inst 16 [V.undef,V.str v,V.int ((p : Int) - lnOf css p),V.int (lineOf css p : Int)]])) := by
    unfold pushL; rw [hx]; dsimp only; rw [List.getElem?_set_self (List.getElem?_eq_some_iff.mp hx).1]
  repeat' (first | (with_reducible refine U_as1 ?_; with_reducible refine S_Assign ?_) | (with_reducible refine U_exp ?_; with_reducible refine S_Expr ?_) | with_reducible refine S_IfE ?_ | with_reducible refine S_If ?_ | with_reducible refine T_nil ?_ | (with_reducible refine U_name ?_; with_reducible refine N_x ?_) | with_reducible refine T_nat ?_ | (with_reducible refine U_call ?_; with_reducible refine Q_call (by assumption) ?_) | with_reducible refine T_none ?_ | (with_reducible refine U_sub ?_; with_reducible refine T_Sub ?_) | (with_reducible refine U_meth "append" ?_; with_reducible refine M_append ?_) | (with_reducible refine U_bc1 ?_; with_reducible refine B_Compare ?_) | with_reducible refine ite_tt ?_ | (with_reducible refine U_acons ?_; with_reducible refine A_cons ?_) | with_reducible refine A_nil ?_ | with_reducible refine Cmp_isNotNone rfl ?_ | with_reducible refine K_next ?_ | (with_reducible refine U_asg ?_; with_reducible refine A_x ?_) | (with_reducible refine U_ex2 ?_; with_reducible refine ⟨_,_,rfl,by assumption,?_⟩) | (with_reducible refine U_atup ?_; with_reducible refine Asg_Tuple ?_) | with_reducible refine AsgL_cons ?_ | with_reducible refine AsgL_nil ?_ | (with_reducible refine U_cls 9 ?_; with_reducible refine Ap_is (Calls.lift (cls_9 (by (first | assumption | exact ne_undef rfl)) (by (first | assumption | exact ne_undef rfl)) (by (first | assumption | exact ne_undef rfl)) (by (first | assumption | exact ne_undef rfl)) (by (first | assumption | with_unfolding_all rfl | (simp [below,belowL]; done))) (by (first | assumption | with_unfolding_all rfl | (simp [below,belowL]; done))) (by (first | assumption | with_unfolding_all rfl | (simp [below,belowL]; done))) (by (first | assumption | with_unfolding_all rfl | (simp [below,belowL]; done)))) (by (first|lia -abstractProof|omega))) ?_) | (with_reducible refine U_raw "list.append" ?_; with_reducible refine Ap_push (by assumption) (by (first | assumption | (first|lia -abstractProof|omega) | (simp only [List.flatten_append,List.flatten_cons,List.flatten_nil,List.append_nil,List.length_append,List.length_cons,List.length_nil,cut_length,List.length_take,List.length_drop,List.length_map]; (first|lia -abstractProof|omega)) | (simp; (first|lia -abstractProof|omega)))) ?_) | (with_reducible refine U_cls 16 ?_; with_reducible refine Ap_is (Calls.lift (cls_16 (by (first | assumption | exact ne_undef rfl)) (by (first | assumption | exact ne_undef rfl)) (by (first | assumption | exact ne_undef rfl)) (by (first | assumption | exact ne_undef rfl)) (by (first | assumption | with_unfolding_all rfl | (simp [below,belowL]; done))) (by (first | assumption | with_unfolding_all rfl | (simp [below,belowL]; done))) (by (first | assumption | with_unfolding_all rfl | (simp [below,belowL]; done))) (by (first | assumption | with_unfolding_all rfl | (simp [below,belowL]; done)))) (by (first|lia -abstractProof|omega))) ?_) | (with_reducible refine U_fn 34 ?_; first | with_reducible refine Ap_is (Calls.lift (quo_some (by assumption) (by (first | assumption | (first|lia -abstractProof|omega) | (simp only [List.flatten_append,List.flatten_cons,List.flatten_nil,List.append_nil,List.length_append,List.length_cons,List.length_nil,cut_length,List.length_take,List.length_drop,List.length_map]; (first|lia -abstractProof|omega)) | (simp; (first|lia -abstractProof|omega)))) (by (first | assumption | (first|lia -abstractProof|omega) | (simp only [List.flatten_append,List.flatten_cons,List.flatten_nil,List.append_nil,List.length_append,List.length_cons,List.length_nil,cut_length,List.length_take,List.length_drop,List.length_map]; (first|lia -abstractProof|omega)) | (simp; (first|lia -abstractProof|omega)))) (by assumption)) (by (first|lia -abstractProof|omega))) ?_ | with_reducible refine Ap_is (Calls.lift (quo_eof (by assumption) (by (first | assumption | (first|lia -abstractProof|omega) | (simp only [List.flatten_append,List.flatten_cons,List.flatten_nil,List.append_nil,List.length_append,List.length_cons,List.length_nil,cut_length,List.length_take,List.length_drop,List.length_map]; (first|lia -abstractProof|omega)) | (simp; (first|lia -abstractProof|omega)))) (by (first | assumption | (first|lia -abstractProof|omega) | (simp only [List.flatten_append,List.flatten_cons,List.flatten_nil,List.append_nil,List.length_append,List.length_cons,List.length_nil,cut_length,List.length_take,List.length_drop,List.length_map]; (first|lia -abstractProof|omega)) | (simp; (first|lia -abstractProof|omega)))) (by assumption)) (by (first|lia -abstractProof|omega))) ?_ | with_reducible refine Ap_is (Calls.lift (quo_bad (by assumption) (by (first | assumption | (first|lia -abstractProof|omega) | (simp only [List.flatten_append,List.flatten_cons,List.flatten_nil,List.append_nil,List.length_append,List.length_cons,List.length_nil,cut_length,List.length_take,List.length_drop,List.length_map]; (first|lia -abstractProof|omega)) | (simp; (first|lia -abstractProof|omega)))) (by (first | assumption | (first|lia -abstractProof|omega) | (simp only [List.flatten_append,List.flatten_cons,List.flatten_nil,List.append_nil,List.length_append,List.length_cons,List.length_nil,cut_length,List.length_take,List.length_drop,List.length_map]; (first|lia -abstractProof|omega)) | (simp; (first|lia -abstractProof|omega)))) (by assumption)) (by (first|lia -abstractProof|omega))) ?_) | (with_reducible refine U_fn 5 ?_; with_reducible refine Ap_ser (by assumption) (by (first | assumption | (first|lia -abstractProof|omega) | (simp only [List.flatten_append,List.flatten_cons,List.flatten_nil,List.append_nil,List.length_append,List.length_cons,List.length_nil,cut_length,List.length_take,List.length_drop,List.length_map]; (first|lia -abstractProof|omega)) | (simp; (first|lia -abstractProof|omega)))) (fun _ _ => ?_)) | (with_reducible refine U_sln ?_; with_reducible refine T_SliceNeg ?_) | (with_reducible refine U_js ?_; with_reducible refine T_Joined3 (h := ?_)) | (with_reducible refine U_ex1 ?_; refine ⟨_,rfl,by (first | assumption | (first|lia -abstractProof|omega) | (simp only [List.flatten_append,List.flatten_cons,List.flatten_nil,List.append_nil,List.length_append,List.length_cons,List.length_nil,cut_length,List.length_take,List.length_drop,List.length_map]; (first|lia -abstractProof|omega)) | (simp; (first|lia -abstractProof|omega))),fun _ _ => ?_⟩) | (with_reducible refine U_itu ?_; refine Item_tup (hc := by with_unfolding_all rfl) ?_))
  exact hZ _ (by unfold hvars; (with_reducible repeat constructor))
theorem br_quo3 (hz : css.length ≤ 1000) (hp0 : p < css.length) (hec : ec ≠ .undef) (hg : GL C e [(oS "len",((.raw (.builtin "len")) : V)),(oS "WhitespaceToken",((.cls 11) : V)),(oS "_consume_unicode_range",((.fn 37) : V)),(oS "UnicodeRangeToken",((.cls 18) : V)),(oS "LiteralToken",((.cls 12) : V)),(oS "_is_ident_start",((.fn 32) : V)),(oS "_consume_ident",((.fn 33) : V)),(oS "IdentToken",((.cls 13) : V)),(oS "ascii_lower",((.fn 2) : V)),(oS "_consume_url",((.fn 36) : V)),(oS "serialize_url",((.fn 6) : V)),(oS "URLToken",((.cls 17) : V)),(oS "ParseError",((.cls 9) : V)),(oS "FunctionBlock",((.cls 25) : V)),(oS "_number_end",((.fn 28) : V)),(oS "int",((.raw (.type "int")) : V)),(oS "DimensionToken",((.cls 21) : V)),(oS "PercentageToken",((.cls 20) : V)),(oS "NumberToken",((.cls 19) : V)),(oS "AtKeywordToken",((.cls 14) : V)),(oS "ord",((.raw (.builtin "ord")) : V)),(oS "HashToken",((.cls 15) : V)),(oS "CurlyBracketsBlock",((.cls 24) : V)),(oS "SquareBracketsBlock",((.cls 23) : V)),(oS "ParenthesesBlock",((.cls 22) : V)),(oS "_consume_quoted_string",((.fn 34) : V)),(oS "serialize_string_value",((.fn 5) : V)),(oS "StringToken",((.cls 16) : V)),(oS "Comment",((.cls 10) : V))]) (hx : hp[cur]? = some (.list xs)) (hxz : xs.length ≤ 10000) {q : Nat} {v : List Nat} {k5 : Nat} (hk5 : hp[k5]? = some (.tab (C.tc 5))) (hqc : ch css p = 34 ∨ ch css p = 39) {b : Bool} (hr : quo css (ch css p) (p + 1) = (none,q,b))
    (hZ : ∀ vars,Fgt vars (hvars css skp p q root cur si ec) → Z .next ⟨vars,pushL hp cur (errTok css p [98,97,100,45,115,116,114,105,110,103] [66,97,100,32,115,116,114,105,110,103,32,116,111,107,101,110])⟩) :
    TF C 8 e (execs (thn (els (els (els (els (els (els (els (els cB))))))))) e) ⟨tvarsB css skp p root cur si ec nl,hp⟩ Z := by
  refine lit1 rfl ?_
  unfold tvarsB
  repeat' (first | (with_reducible refine U_as1 ?_; with_reducible refine S_Assign ?_) | (with_reducible refine U_exp ?_; with_reducible refine S_Expr ?_) | with_reducible refine S_IfE ?_ | with_reducible refine S_If ?_ | with_reducible refine T_nil ?_ | (with_reducible refine U_name ?_; with_reducible refine N_x ?_) | with_reducible refine T_nat ?_ | (with_reducible refine U_call ?_; with_reducible refine Q_call (by assumption) ?_) | with_reducible refine T_none ?_ | (with_reducible refine U_sub ?_; with_reducible refine T_Sub ?_) | (with_reducible refine U_meth "append" ?_; with_reducible refine M_append ?_) | (with_reducible refine U_bc1 ?_; with_reducible refine B_Compare ?_) | with_reducible refine ite_tt ?_ | with_reducible refine ite_ff ?_ | (with_reducible refine U_acons ?_; with_reducible refine A_cons ?_) | with_reducible refine A_nil ?_ | with_reducible refine Cmp_isNotNone rfl ?_ | with_reducible refine K_next ?_ | (with_reducible refine U_asg ?_; with_reducible refine A_x ?_) | (with_reducible refine U_ex2 ?_; with_reducible refine ⟨_,_,rfl,by assumption,?_⟩) | (with_reducible refine U_atup ?_; with_reducible refine Asg_Tuple ?_) | with_reducible refine AsgL_cons ?_ | with_reducible refine AsgL_nil ?_ | (with_reducible refine U_cls 9 ?_; with_reducible refine Ap_is (Calls.lift (cls_9 (by (first | assumption | exact ne_undef rfl)) (by (first | assumption | exact ne_undef rfl)) (by (first | assumption | exact ne_undef rfl)) (by (first | assumption | exact ne_undef rfl)) (by (first | assumption | with_unfolding_all rfl | (simp [below,belowL]; done))) (by (first | assumption | with_unfolding_all rfl | (simp [below,belowL]; done))) (by (first | assumption | with_unfolding_all rfl | (simp [below,belowL]; done))) (by (first | assumption | with_unfolding_all rfl | (simp [below,belowL]; done)))) (by (first|lia -abstractProof|omega))) ?_) | (with_reducible refine U_raw "list.append" ?_; with_reducible refine Ap_push (by assumption) (by (first | assumption | (first|lia -abstractProof|omega) | (simp only [List.flatten_append,List.flatten_cons,List.flatten_nil,List.append_nil,List.length_append,List.length_cons,List.length_nil,cut_length,List.length_take,List.length_drop,List.length_map]; (first|lia -abstractProof|omega)) | (simp; (first|lia -abstractProof|omega)))) ?_) | (with_reducible refine U_fn 34 ?_; first | with_reducible refine Ap_is (Calls.lift (quo_some (by assumption) (by (first | assumption | (first|lia -abstractProof|omega) | (simp only [List.flatten_append,List.flatten_cons,List.flatten_nil,List.append_nil,List.length_append,List.length_cons,List.length_nil,cut_length,List.length_take,List.length_drop,List.length_map]; (first|lia -abstractProof|omega)) | (simp; (first|lia -abstractProof|omega)))) (by (first | assumption | (first|lia -abstractProof|omega) | (simp only [List.flatten_append,List.flatten_cons,List.flatten_nil,List.append_nil,List.length_append,List.length_cons,List.length_nil,cut_length,List.length_take,List.length_drop,List.length_map]; (first|lia -abstractProof|omega)) | (simp; (first|lia -abstractProof|omega)))) (by assumption)) (by (first|lia -abstractProof|omega))) ?_ | with_reducible refine Ap_is (Calls.lift (quo_eof (by assumption) (by (first | assumption | (first|lia -abstractProof|omega) | (simp only [List.flatten_append,List.flatten_cons,List.flatten_nil,List.append_nil,List.length_append,List.length_cons,List.length_nil,cut_length,List.length_take,List.length_drop,List.length_map]; (first|lia -abstractProof|omega)) | (simp; (first|lia -abstractProof|omega)))) (by (first | assumption | (first|lia -abstractProof|omega) | (simp only [List.flatten_append,List.flatten_cons,List.flatten_nil,List.append_nil,List.length_append,List.length_cons,List.length_nil,cut_length,List.length_take,List.length_drop,List.length_map]; (first|lia -abstractProof|omega)) | (simp; (first|lia -abstractProof|omega)))) (by assumption)) (by (first|lia -abstractProof|omega))) ?_ | with_reducible refine Ap_is (Calls.lift (quo_bad (by assumption) (by (first | assumption | (first|lia -abstractProof|omega) | (simp only [List.flatten_append,List.flatten_cons,List.flatten_nil,List.append_nil,List.length_append,List.length_cons,List.length_nil,cut_length,List.length_take,List.length_drop,List.length_map]; (first|lia -abstractProof|omega)) | (simp; (first|lia -abstractProof|omega)))) (by (first | assumption | (first|lia -abstractProof|omega) | (simp only [List.flatten_append,List.flatten_cons,List.flatten_nil,List.append_nil,List.length_append,List.length_cons,List.length_nil,cut_length,List.length_take,List.length_drop,List.length_map]; (first|lia -abstractProof|omega)) | (simp; (first|lia -abstractProof|omega)))) (by assumption)) (by (first|lia -abstractProof|omega))) ?_) | (with_reducible refine U_itu ?_; refine Item_tup (hc := by with_unfolding_all rfl) ?_))
  exact hZ _ (by unfold hvars; (with_reducible repeat constructor))
end
end
end
section
set_option maxRecDepth 20000
set_option maxHeartbeats 4000000
section
variable {C : Cx}

section
variable {css : List Nat} {skp : Bool} {p root cur si : Nat} {ec nl : V} {hp : List AObj} {xs S : List V} {e : Env} {Z : AF → St → Prop}

end
end
end
section
set_option maxRecDepth 20000
set_option maxHeartbeats 4000000
section
variable {C : Cx}
theorem run_le2 (p : Nat → Bool) (l : List Nat) : ∀ (n i : Nat),i ≤ l.length → i ≤ run p l n i ∧ run p l n i ≤ l.length
  | 0,i,h => ⟨Nat.le_refl _,h⟩
  | n + 1,i,h => by
    unfold run
    split
    · rename_i q
      have q1 : i < l.length := by first | exact q.1 | (simp at q; exact q.1)
      obtain ⟨a,b⟩ := run_le2 p l n (i + 1) (by (first|lia -abstractProof|omega))
      exact ⟨by (first|lia -abstractProof|omega),b⟩
    · exact ⟨Nat.le_refl _,h⟩
theorem skip_le2 {p : Nat → Bool} {l : List Nat} {i : Nat} (h : i ≤ l.length) : i ≤ skip p l i ∧ skip p l i ≤ l.length := run_le2 p l _ i h
inductive Act where
  | put (ts : List V) (q : Nat)
  | opn (f : Nat → V) (close q : Nat)
  | cls (q : Nat)
  | halt (ts : List V)
noncomputable def comV (css : List Nat) (p : Nat) (s : List Nat) : V := .inst 10 [.str s,colV css p,lineV css p]
noncomputable def strTok (css : List Nat) (p : Nat) (v : List Nat) : V := .inst 16 [.undef,.str v,colV css p,lineV css p]
noncomputable def eofStrE (css : List Nat) (p : Nat) : V := errTok css p [101,111,102,45,105,110,45,115,116,114,105,110,103] [69,79,70,32,105,110,32,115,116,114,105,110,103]
noncomputable def badStrE (css : List Nat) (p : Nat) : V := errTok css p [98,97,100,45,115,116,114,105,110,103] [66,97,100,32,115,116,114,105,110,103,32,116,111,107,101,110]
noncomputable def actQuo (css : List Nat) (p : Nat) (r : Option (List Nat) × Nat × Bool) : Act := match r.1 with
  | some v => if r.2.2 = true then .put [strTok css p v,eofStrE css p] r.2.1 else .put [strTok css p v] r.2.1
  | none => .put [badStrE css p] r.2.1
noncomputable def actB (css : List Nat) (skp : Bool) (ec : Option Nat) (p : Nat) : Act :=
  if ch css p = 64 then
    if p + 1 < css.length ∧ identStart css (p + 1) = true then .put [.inst 14 [.str (lower (name css (p + 1)).1),.str (name css (p + 1)).1,colV css p,lineV css p]] (name css (p + 1)).2
    else .put [litV css p [64]] (p + 1)
  else if ch css p = 35 then
    if hashOk css (p + 1) = true then .put [.inst 15 [.bool (identStart css (p + 1)),.str (name css (p + 1)).1,colV css p,lineV css p]] (name css (p + 1)).2
    else .put [litV css p [35]] (p + 1)
  else if ch css p = 123 then .opn (fun k => .inst 24 [.own k,colV css p,lineV css p]) 125 (p + 1)
  else if ch css p = 91 then .opn (fun k => .inst 23 [.own k,colV css p,lineV css p]) 93 (p + 1)
  else if ch css p = 40 then .opn (fun k => .inst 22 [.own k,colV css p,lineV css p]) 41 (p + 1)
  else if ec = some (ch css p) then .cls (p + 1)
  else if ch css p ∈ ([125,93,41] : List Nat) then .put [errTok css p [ch css p] (([85,110,109,97,116,99,104,101,100,32] : List Nat) ++ [ch css p])] (p + 1)
  else if ch css p = 34 ∨ ch css p = 39 then actQuo css p (quo css (ch css p) (p + 1))
  else if startsAt css [47,42] p = true then
    match find2 42 47 css (p + 2) with
    | some k => .put (if skp = true then [] else [comV css p (cut css (p + 2) k)]) (k + 2)
    | none => .halt (if skp = true then [] else [comV css p (css.drop (p + 2))])
  else if startsAt css [60,33,45,45] p = true then .put [litV css p [60,33,45,45]] (p + 4)
  else if startsAt css [124,124] p = true then .put [litV css p [124,124]] (p + 2)
  else if ch css p ∈ ([126,124,94,36,42] : List Nat) then
    if p + 1 < css.length ∧ ch css (p + 1) = 61 then .put [litV css p (([ch css p] : List Nat) ++ [61])] (p + 1 + 1) else .put [litV css p [ch css p]] (p + 1)
  else .put [litV css p [ch css p]] (p + 1)
noncomputable def ecV : Option Nat → V
  | some c => .str [c]
  | none => .none
theorem ecV_ne {o : Option Nat} : ecV o ≠ .undef := by cases o <;> exact nofun
section
variable {css : List Nat} {skp : Bool} {p root cur si : Nat} {ec : Option Nat} {nl : V} {hp : List AObj} {xs S : List V} {e : Env} {Z : AF → St → Prop} {k5 k6 : Nat}
end
end
end
section
set_option maxRecDepth 20000
set_option maxHeartbeats 4000000
section
variable {C : Cx}
theorem ws_dec (c : Nat) : decide (c ∈ ([32,10,9] : List Nat)) = isWs c := by
  unfold isWs; rw [Bool.eq_iff_iff]; simp [or_assoc]
theorem count_take {l : List Nat} {a b : Nat} (h : a ≤ b) : (l.take b).count 10 = (l.take a).count 10 + cnt 10 l a b := by
  unfold cnt
  have : l.take b = l.take a ++ (l.drop a).take (b - a) := by
    rw [← List.take_add,show a + (b - a) = b by (first|lia -abstractProof|omega)]
  rw [this,List.count_append]
theorem cnt_zero {l : List Nat} {a b : Nat} (h : ∀ i,a ≤ i → i < b → l[i]? ≠ some 10) : cnt 10 l a b = 0 := by
  unfold cnt
  rw [List.count_eq_zero]
  intro hm
  obtain ⟨j,hj,he⟩ := List.mem_iff_getElem.mp hm
  simp only [List.length_take,List.length_drop] at hj
  rw [List.getElem_take,List.getElem_drop] at he
  exact h (a + j) (by (first|lia -abstractProof|omega)) (by (first|lia -abstractProof|omega)) (by rw [List.getElem?_eq_getElem (by (first|lia -abstractProof|omega)),he])
theorem line_none {l : List Nat} {a b : Nat} (h : a ≤ b) (hn : lastIx 10 l a b = none) : lineOf l b = lineOf l a ∧ lnOf l b = lnOf l a := by
  have hn' := lastIx_none hn
  refine ⟨by unfold lineOf; rw [count_take h,cnt_zero hn']; rfl,?_⟩
  unfold lnOf rfindV
  have : lastIx 10 l 0 b = lastIx 10 l 0 a := by
    cases q : lastIx 10 l 0 a with
    | none =>
      refine lastIx_eq_none fun i _ hi => ?_
      by_cases z : i < a
      · exact lastIx_none q i (Nat.zero_le _) z
      · exact hn' i (by (first|lia -abstractProof|omega)) hi
    | some j =>
      obtain ⟨h1,h2,h3,h4⟩ := lastIx_some q
      refine lastIx_unique h1 (by (first|lia -abstractProof|omega)) h3 fun i hi hib => ?_
      by_cases z : i < a
      · exact h4 i hi z
      · exact hn' i (by (first|lia -abstractProof|omega)) hib
  rw [this]
theorem line_some {l : List Nat} {a b j : Nat} (h : a ≤ b) (hj : lastIx 10 l a b = some j) : lineOf l b = lineOf l a + (1 + cnt 10 l a j) ∧ lnOf l b = (j : Int) ∧ j < b ∧ a ≤ j := by
  obtain ⟨h1,h2,h3,h4⟩ := lastIx_some hj
  refine ⟨?_,?_,h2,h1⟩
  · unfold lineOf
    rw [count_take (show a ≤ b from h)]
    have e1 : cnt 10 l a b = cnt 10 l a j + 1 := by
      have q1 := count_take (l := l) (a := a) (b := b) h
      have q2 := count_take (l := l) (a := a) (b := j) h1
      have q3 := count_take (l := l) (a := j) (b := b) (by (first|lia -abstractProof|omega))
      have q4 : cnt 10 l j b = 1 := by
        unfold cnt
        have hjl := (List.getElem?_eq_some_iff.mp h3).1
        rw [List.drop_eq_getElem_cons hjl,show b - j = (b - (j + 1)) + 1 by (first|lia -abstractProof|omega),List.take_succ_cons,List.count_cons]
        have e3 : l[j] = 10 := by rw [List.getElem?_eq_getElem hjl] at h3; exact Option.some.inj h3
        have e4 : cnt 10 l (j + 1) b = 0 := cnt_zero fun i hi hib => h4 i (by (first|lia -abstractProof|omega)) hib
        unfold cnt at e4
        rw [e4,e3]; rfl
      (first|lia -abstractProof|omega)
    (first|lia -abstractProof|omega)
  · unfold lnOf rfindV
    rw [lastIx_unique (Nat.zero_le j) h2 h3 h4]
section
variable {d : Nat} {e : Env} {st : St}
theorem Ap_rfn {l : List Nat} {a b : Nat} {Q : V → St → Prop} (hr : lastIx 10 l a b = none) (hb : b ≤ l.length) (h : Q (.int (-1)) st) : Ap C d e (.raw (.builtin "str.rfind")) [.str l,.str [10],.int a,.int b] st Q := Ap_rfind hb (by unfold rfindV; rw [hr]; exact h)
theorem Ap_rfs {l : List Nat} {a b j : Nat} {Q : V → St → Prop} (hr : lastIx 10 l a b = some j) (hb : b ≤ l.length) (h : Q (.int (j : Int)) st) : Ap C d e (.raw (.builtin "str.rfind")) [.str l,.str [10],.int a,.int b] st Q := Ap_rfind hb (by unfold rfindV; rw [hr]; exact h)
end
section
variable {css : List Nat} {skp : Bool} {p t root cur si : Nat} {ec : Option Nat} {nl : V} {hp : List AObj} {xs S : List V} {e : Env} {Z : AF → St → Prop} {k5 k6 : Nat}
theorem turn_head (hz : css.length ≤ 1000) (ht : t ≤ p) (hp0 : p < css.length) (hec : ecV ec ≠ .undef) (hg : GL C e [(oS "len",((.raw (.builtin "len")) : V)),(oS "WhitespaceToken",((.cls 11) : V)),(oS "_consume_unicode_range",((.fn 37) : V)),(oS "UnicodeRangeToken",((.cls 18) : V)),(oS "LiteralToken",((.cls 12) : V)),(oS "_is_ident_start",((.fn 32) : V)),(oS "_consume_ident",((.fn 33) : V)),(oS "IdentToken",((.cls 13) : V)),(oS "ascii_lower",((.fn 2) : V)),(oS "_consume_url",((.fn 36) : V)),(oS "serialize_url",((.fn 6) : V)),(oS "URLToken",((.cls 17) : V)),(oS "ParseError",((.cls 9) : V)),(oS "FunctionBlock",((.cls 25) : V)),(oS "_number_end",((.fn 28) : V)),(oS "int",((.raw (.type "int")) : V)),(oS "DimensionToken",((.cls 21) : V)),(oS "PercentageToken",((.cls 20) : V)),(oS "NumberToken",((.cls 19) : V)),(oS "AtKeywordToken",((.cls 14) : V)),(oS "ord",((.raw (.builtin "ord")) : V)),(oS "HashToken",((.cls 15) : V)),(oS "CurlyBracketsBlock",((.cls 24) : V)),(oS "SquareBracketsBlock",((.cls 23) : V)),(oS "ParenthesesBlock",((.cls 22) : V)),(oS "_consume_quoted_string",((.fn 34) : V)),(oS "serialize_string_value",((.fn 5) : V)),(oS "StringToken",((.cls 16) : V)),(oS "Comment",((.cls 10) : V))]) (h : ∀ nl,TF C 8 e (execs (pWhile.drop 5) e) ⟨tvars css skp p root cur si (ecV ec) nl,hp⟩ Z) :
    TF C 8 e (execs pWhile e) ⟨hvars css skp t p root cur si (ecV ec),hp⟩ Z := by
  refine lit1 rfl ?_
  unfold hvars
  cases hr : lastIx 10 css t p with
  | none =>
    obtain ⟨e1,e2⟩ := line_none ht hr
    repeat' (first | (with_reducible refine U_as1 ?_; with_reducible refine S_Assign ?_) | (with_reducible refine U_name ?_; with_reducible refine N_x ?_) | (with_reducible refine U_str ?_; with_reducible refine T_lit ?_) | (with_reducible refine U_meth "rfind" ?_; with_reducible refine M_rfind ?_) | (with_reducible refine U_acons ?_; with_reducible refine A_cons ?_) | with_reducible refine A_nil ?_ | (with_reducible refine U_asg ?_; with_reducible refine A_x ?_) | (with_reducible refine U_ex1 ?_; with_reducible refine ⟨_,rfl,?_⟩) | (with_reducible refine U_raw "str.rfind" ?_; first | with_reducible refine Ap_rfn (by assumption) (by (first | assumption | (first|lia -abstractProof|omega) | (simp only [List.flatten_append,List.flatten_cons,List.flatten_nil,List.append_nil,List.length_append,List.length_cons,List.length_nil,cut_length,List.length_take,List.length_drop,List.length_map]; (first|lia -abstractProof|omega)) | (simp; (first|lia -abstractProof|omega)))) ?_ | with_reducible refine Ap_rfs (by assumption) (by (first | assumption | (first|lia -abstractProof|omega) | (simp only [List.flatten_append,List.flatten_cons,List.flatten_nil,List.append_nil,List.length_append,List.length_cons,List.length_nil,cut_length,List.length_take,List.length_drop,List.length_map]; (first|lia -abstractProof|omega)) | (simp; (first|lia -abstractProof|omega)))) ?_))
    refine S_If (B_by false ?_ ?_)
    · repeat' (first | (with_reducible refine U_name ?_; with_reducible refine N_x ?_) | with_reducible refine T_nat ?_ | with_reducible refine T_UnaryOp ?_ | (with_reducible refine U_bc1 ?_; with_reducible refine B_Compare ?_) | with_reducible refine Un_neg ?_)
      first | refine Un_neg (Cmp_nei ?_) | refine Cmp_nei ?_
      exact ⟨rfl,rfl⟩
    refine ite_ff ?_
    rw [← e1,← e2]
    repeat' (first | (with_reducible refine U_as1 ?_; with_reducible refine S_Assign ?_) | with_reducible refine T_nil ?_ | (with_reducible refine U_name ?_; with_reducible refine N_x ?_) | with_reducible refine T_BinOp ?_ | (with_reducible refine U_sub ?_; with_reducible refine T_Sub ?_) | with_reducible refine Bin_sub ?_ | with_reducible refine K_next ?_ | (with_reducible refine U_asg ?_; with_reducible refine A_x ?_) | (with_reducible refine U_ich ?_; with_reducible refine Item_ch ?_))
    try refine Bin_sub ?_
    repeat' fail
    exact h _
  | some j =>
    obtain ⟨e1,e2,e3,e4⟩ := line_some ht hr
    repeat' (first | (with_reducible refine U_as1 ?_; with_reducible refine S_Assign ?_) | (with_reducible refine U_name ?_; with_reducible refine N_x ?_) | (with_reducible refine U_str ?_; with_reducible refine T_lit ?_) | (with_reducible refine U_meth "rfind" ?_; with_reducible refine M_rfind ?_) | (with_reducible refine U_acons ?_; with_reducible refine A_cons ?_) | with_reducible refine A_nil ?_ | (with_reducible refine U_asg ?_; with_reducible refine A_x ?_) | (with_reducible refine U_ex1 ?_; with_reducible refine ⟨_,rfl,?_⟩) | (with_reducible refine U_raw "str.rfind" ?_; first | with_reducible refine Ap_rfn (by assumption) (by (first | assumption | (first|lia -abstractProof|omega) | (simp only [List.flatten_append,List.flatten_cons,List.flatten_nil,List.append_nil,List.length_append,List.length_cons,List.length_nil,cut_length,List.length_take,List.length_drop,List.length_map]; (first|lia -abstractProof|omega)) | (simp; (first|lia -abstractProof|omega)))) ?_ | with_reducible refine Ap_rfs (by assumption) (by (first | assumption | (first|lia -abstractProof|omega) | (simp only [List.flatten_append,List.flatten_cons,List.flatten_nil,List.append_nil,List.length_append,List.length_cons,List.length_nil,cut_length,List.length_take,List.length_drop,List.length_map]; (first|lia -abstractProof|omega)) | (simp; (first|lia -abstractProof|omega)))) ?_))
    refine S_If (B_by true ?_ ?_)
    · repeat' (first | (with_reducible refine U_name ?_; with_reducible refine N_x ?_) | with_reducible refine T_nat ?_ | with_reducible refine T_UnaryOp ?_ | (with_reducible refine U_bc1 ?_; with_reducible refine B_Compare ?_) | with_reducible refine Un_neg ?_)
      first | refine Un_neg (Cmp_nei ?_) | refine Cmp_nei ?_
      exact ⟨by rw [bne_iff_ne]; (first|lia -abstractProof|omega),rfl⟩
    refine ite_tt ?_
    repeat' (first | (with_reducible refine U_as1 ?_; with_reducible refine S_Assign ?_) | (with_reducible refine U_aug ?_; with_reducible refine S_Aug ?_) | with_reducible refine T_nil ?_ | (with_reducible refine U_name ?_; with_reducible refine N_x ?_) | with_reducible refine T_nat ?_ | (with_reducible refine U_str ?_; with_reducible refine T_lit ?_) | with_reducible refine T_BinOp ?_ | (with_reducible refine U_sub ?_; with_reducible refine T_Sub ?_) | (with_reducible refine U_meth "count" ?_; with_reducible refine M_count ?_) | (with_reducible refine U_acons ?_; with_reducible refine A_cons ?_) | with_reducible refine A_nil ?_ | with_reducible refine Bin_addn ?_ | with_reducible refine Bin_iaddn ?_ | with_reducible refine Bin_sub ?_ | with_reducible refine K_next ?_ | (with_reducible refine U_asg ?_; with_reducible refine A_x ?_) | (with_reducible refine U_sto ?_; with_reducible refine Sto_x ?_) | (with_reducible refine U_ex1 ?_; with_reducible refine ⟨_,rfl,?_⟩) | (with_reducible refine U_ich ?_; with_reducible refine Item_ch ?_) | (with_reducible refine U_raw "str.count" ?_; with_reducible refine Ap_count (by (first | assumption | (first|lia -abstractProof|omega) | (simp only [List.flatten_append,List.flatten_cons,List.flatten_nil,List.append_nil,List.length_append,List.length_cons,List.length_nil,cut_length,List.length_take,List.length_drop,List.length_map]; (first|lia -abstractProof|omega)) | (simp; (first|lia -abstractProof|omega)))) ?_))
    rw [← e1,← e2]
    try refine Bin_sub ?_
    repeat' fail
    exact h _
end
end
end
section
set_option maxRecDepth 20000
set_option maxHeartbeats 4000000
section
variable {C : Cx}
end
end
section
set_option maxRecDepth 20000
set_option maxHeartbeats 4000000
section
variable {C : Cx}
noncomputable def nrm (l : List Nat) : List Nat := chg 12 10 (chg 13 10 (crlf (chg 0 65533 l)))
theorem chg_len (a b : Nat) (l : List Nat) : (chg a b l).length = l.length := by unfold chg; simp
theorem crlf_len : ∀ (l : List Nat),(crlf l).length ≤ l.length
  | [] => by simp [crlf]
  | c :: r => by
    by_cases h : c = 13 ∧ r.head? = some 10
    · obtain ⟨rfl,h2⟩ := h
      cases r with
      | nil => cases h2
      | cons x r' =>
        cases h2
        have := crlf_len r'
        simp only [crlf,List.length_cons]; (first|lia -abstractProof|omega)
    · rw [crlf_cons h]
      have := crlf_len r
      simp only [List.length_cons]; (first|lia -abstractProof|omega)
theorem nrm_len (l : List Nat) : (nrm l).length ≤ l.length := by
  unfold nrm
  rw [chg_len,chg_len]
  exact Nat.le_trans (crlf_len _) (by rw [chg_len]; exact Nat.le_refl _)
noncomputable def pBody : List Stmt := match P.main.body[(30 : Nat)]? with
  | some (.FunctionDef _ _ body _ _ _ _ _ _ _) => body
  | _ => []
section
variable {l : List Nat} {skp : Bool} {hp : List AObj} {k5 k6 : Nat} {Good : Nat → Prop} {e : Env}
end
end
end
section
section
variable {pre s : List Nat} {k : Nat}
theorem len_sh : (pre ++ s).length = pre.length + s.length := List.length_append
theorem ch_sh : ch (pre ++ s) (pre.length + k) = ch s k := by
  unfold ch
  rw [List.getD_eq_getElem?_getD,List.getD_eq_getElem?_getD,List.getElem?_append_right (Nat.le_add_right _ _),Nat.add_sub_cancel_left]
theorem lt_sh {a b n : Nat} : (n + a < n + b) = (a < b) := by simp
theorem drop_sh {α : Type} {pre s : List α} : (pre ++ s).drop (pre.length + k) = s.drop k := by
  rw [List.drop_append,List.drop_of_length_le (Nat.le_add_right _ _),Nat.add_sub_cancel_left,List.nil_append]
theorem cut_sh {a b : Nat} : cut (pre ++ s) (pre.length + a) (pre.length + b) = cut s a b := by
  unfold cut; rw [drop_sh,show pre.length + b - (pre.length + a) = b - a by (first|lia -abstractProof|omega)]
theorem run_sh {p : Nat → Bool} : ∀ (n k : Nat),run p (pre ++ s) n (pre.length + k) = pre.length + run p s n k
  | 0,k => rfl
  | n + 1,k => by
    rw [run,run]
    simp only [len_sh,lt_sh,ch_sh,Nat.add_assoc,run_sh n (k + 1)]
    split <;> rfl
theorem hexEnd_sh : hexEnd (pre ++ s) (pre.length + k) = pre.length + hexEnd s k := run_sh _ _
theorem escape_sh : escape (pre ++ s) (pre.length + k) = ((escape s k).1,pre.length + (escape s k).2) := by
  unfold escape
  simp only [hexEnd_sh,lt_sh,cut_sh,len_sh,ch_sh,Nat.add_assoc]
  repeat' split
  all_goals rfl
theorem quoGo_sh {q : Nat} : ∀ (n k : Nat),quoGo (pre ++ s) q n (pre.length + k) = ((quoGo s q n k).1,pre.length + (quoGo s q n k).2.1,(quoGo s q n k).2.2)
  | 0,k => rfl
  | n + 1,k => by
    rw [quoGo,quoGo]
    simp only [len_sh,ch_sh,Nat.add_assoc,lt_sh,escape_sh,quoGo_sh n (k + 1),quoGo_sh n (k + 2),quoGo_sh n (escape s (k + 1)).2]
    repeat' split
    all_goals rfl
theorem quo_sh {q : Nat} : quo (pre ++ s) q (pre.length + k) = ((quo s q k).1,pre.length + (quo s q k).2.1,(quo s q k).2.2) := by
  unfold quo; rw [len_sh,show pre.length + s.length - (pre.length + k) = s.length - k by (first|lia -abstractProof|omega),quoGo_sh]
end
end
section
set_option maxRecDepth 20000
section
variable {q c : Nat} {s : List Nat}
theorem ch_0 : ch (c :: s) 0 = c := rfl
theorem quo_1 : quo (c :: s) q 1 = ((quo s q 0).1,1 + (quo s q 0).2.1,(quo s q 0).2.2) := quo_sh (pre := [c]) (k := 0)
theorem rd_nil : quo [] q 0 = (some [],0,true) := rfl
theorem rd_q : quo (q :: s) q 0 = (some [],1,false) := by rw [quo_step (by simp),ch_0,if_pos rfl]
theorem rd_nl (h : q ≠ 10) : quo (10 :: s) q 0 = (none,0,false) := by
  rw [quo_step (by simp),ch_0,if_neg (Ne.symm h),if_neg (by decide),if_pos rfl]
theorem rd_bs (h : q ≠ 92) : quo [92] q 0 = (some [],1,true) := by
  rw [quo_step (by simp),ch_0,if_neg (Ne.symm h),if_pos rfl,if_neg (by simp),quo_end (by simp)]
theorem rd_c (h1 : c ≠ q) (h2 : c ≠ 92) (h3 : c ≠ 10) : quo (c :: s) q 0 = ((quo s q 0).1.map (c :: ·),1 + (quo s q 0).2.1,(quo s q 0).2.2) := by
  rw [quo_step (by simp),ch_0,if_neg h1,if_neg h2,if_neg h3,quo_1]
theorem quo_2 {a b : Nat} : quo (a :: b :: s) q 2 = ((quo s q 0).1,2 + (quo s q 0).2.1,(quo s q 0).2.2) := quo_sh (pre := [a,b]) (k := 0)
theorem rd_end (h : q ≠ 92) : quo (92 :: 10 :: s) q 0 = ((quo s q 0).1,2 + (quo s q 0).2.1,(quo s q 0).2.2) := by
  rw [quo_step (by simp),ch_0,if_neg (Ne.symm h),if_pos rfl,if_pos (by simp),if_pos (show ch (92 :: 10 :: s) (0 + 1) = 10 from rfl),quo_2]
theorem rd_esc (h : q ≠ 92) {t : List Nat} {v : List Nat} {k : Nat} (ht : t.head? ≠ some 10) (hne : t ≠ []) (he : escape t 0 = (v,k)) (hk : k ≤ t.length) : quo (92 :: t) q 0 = ((quo (t.drop k) q 0).1.map (v ++ ·),1 + k + (quo (t.drop k) q 0).2.1,(quo (t.drop k) q 0).2.2) := by
  obtain ⟨a,t',rfl⟩ : ∃ a t',t = a :: t' := by cases t with | nil => exact absurd rfl hne | cons a t' => exact ⟨a,t',rfl⟩
  have hs := escape_sh (pre := [92]) (s := a :: t') (k := 0)
  rw [he] at hs
  have hs : escape (92 :: a :: t') 1 = (v,1 + k) := hs
  rw [quo_step (by simp),ch_0,if_neg (Ne.symm h),if_pos rfl,if_pos (by simp),if_neg (show ¬ ch (92 :: a :: t') (0 + 1) = 10 from fun e => ht (by rw [← e]; rfl)),show 0 + 1 = 1 from rfl,hs]
  have := quo_sh (pre := 92 :: (a :: t').take k) (s := (a :: t').drop k) (k := 0) (q := q)
  rw [List.cons_append,List.take_append_drop,List.length_cons,List.length_take,Nat.min_eq_left hk,Nat.add_zero] at this
  rw [show 1 + k = k + 1 by (first|lia -abstractProof|omega),this]
end
theorem esc_plain {c : Nat} {s : List Nat} (h : isHex c = false) : escape (c :: s) 0 = ([c],1) := by
  have e : hexEnd (c :: s) 0 = 0 := by
    unfold hexEnd
    rw [show 6 = 5 + 1 from rfl,run,if_neg (by rw [ch_0,h]; simp)]
  unfold escape
  rw [e]
  rfl
theorem run_hex : ∀ (hs : List Nat) (pre t : List Nat) (n : Nat),(∀ c ∈ hs,isHex c = true) → hs.length ≤ n → (hs.length = n ∨ t = [] ∨ ∃ a t',t = a :: t' ∧ isHex a = false) → run isHex (pre ++ (hs ++ t)) n pre.length = pre.length + hs.length
  | [],pre,t,n,h,hn,ht => by
    cases n with
    | zero => rfl
    | succ n =>
      rw [run,if_neg]
      · rfl
      · rintro ⟨h1,h2⟩
        rcases ht with ht | rfl | ⟨a,t',rfl,ha⟩
        · cases ht
        · simp at h1
        · have := ch_sh (pre := pre) (s := [] ++ a :: t') (k := 0)
          rw [Nat.add_zero] at this
          rw [this] at h2
          have h2 : isHex a = true := h2
          rw [ha] at h2; cases h2
  | c :: hs,pre,t,n,h,hn,ht => by
    cases n with
    | zero => simp at hn
    | succ n =>
      have hc := h c (List.mem_cons_self ..)
      have := ch_sh (pre := pre) (s := c :: hs ++ t) (k := 0)
      rw [Nat.add_zero] at this
      rw [run,if_pos ⟨by simp,by rw [this]; exact hc⟩]
      have ih := run_hex hs (pre ++ [c]) t n (fun x hx => h x (List.mem_cons_of_mem _ hx)) (by simpa using hn) (ht.imp (fun e => by simpa using e) id)
      rw [List.append_assoc,List.length_append,List.length_singleton] at ih
      rw [show pre ++ (c :: hs ++ t) = pre ++ ([c] ++ (hs ++ t)) from rfl,ih,List.length_cons]
      (first|lia -abstractProof|omega)
theorem esc_hex {hs t : List Nat} {b : Option Nat} (h : ∀ c ∈ hs,isHex c = true) (h0 : hs ≠ []) (h6 : hs.length ≤ 6) (hb : ∀ x,b = some x → isWs x = true ∧ isHex x = false)
    (ht : b = none → (t = [] ∨ ∃ a t',t = a :: t' ∧ isWs a = false ∧ (hs.length = 6 ∨ isHex a = false))) :
    escape (hs ++ (b.toList ++ t)) 0 = (if 0 < hexVal hs ∧ hexVal hs ≤ 1114111 then [hexVal hs] else [65533],(hs ++ b.toList).length) := by
  have hl : 0 < hs.length := List.length_pos_iff.mpr h0
  have e : hexEnd (hs ++ (b.toList ++ t)) 0 = hs.length := by
    have := run_hex hs [] (b.toList ++ t) 6 h h6 (by
      cases b with
      | some x => exact .inr (.inr ⟨x,t,rfl,(hb x rfl).2⟩)
      | none =>
        rcases ht rfl with rfl | ⟨a,t',rfl,h1,h2 | h2⟩
        · exact .inr (.inl rfl)
        · exact .inl h2
        · exact .inr (.inr ⟨a,t',rfl,h2⟩))
    rw [List.nil_append,List.length_nil,Nat.zero_add] at this
    exact this
  have hcut : cut (hs ++ (b.toList ++ t)) 0 hs.length = hs := by
    unfold cut; rw [List.drop_zero,Nat.sub_zero,List.take_left]
  unfold escape
  rw [e]
  dsimp only
  rw [if_pos hl,hcut]
  congr 1
  have hch := ch_sh (pre := hs) (s := b.toList ++ t) (k := 0)
  rw [Nat.add_zero] at hch
  cases b with
  | some x =>
    rw [if_pos ⟨by simp,by rw [hch]; exact (hb x rfl).1⟩]
    simp
  | none =>
    rw [if_neg]
    · simp
    · rintro ⟨h1,h2⟩
      rcases ht rfl with rfl | ⟨a,t',rfl,h3,h4⟩
      · simp at h1
      · rw [hch] at h2
        have h2 : isWs a = true := h2
        rw [h3] at h2; cases h2
end
section
set_option maxRecDepth 20000
inductive Told : List Nat → List (Nat × Nat × List Nat) → Prop
  | nil : Told [] []
  | str {q : Nat} {s v : List Nat} {k : Nat} {o : List (Nat × Nat × List Nat)} (hq : q = 34 ∨ q = 39) (h : quo s q 0 = (some v,k,false)) (hk : k ≤ s.length) (t : Told (s.drop k) o) : Told (q :: s) ((0,s.length + 1,v) :: o)
  | bad {q : Nat} {s : List Nat} {k : Nat} {o : List (Nat × Nat × List Nat)} (hq : q = 34 ∨ q = 39) (h : quo s q 0 = (none,k,false)) (hk : k ≤ s.length) (t : Told (s.drop k) o) : Told (q :: s) ((1,s.length + 1,[]) :: o)
  | eof {q : Nat} {s v : List Nat} {k : Nat} {o : List (Nat × Nat × List Nat)} (hq : q = 34 ∨ q = 39) (h : quo s q 0 = (some v,k,true)) (hk : k ≤ s.length) (t : Told (s.drop k) o) : Told (q :: s) ((0,s.length + 1,v) :: (2,s.length + 1,[]) :: o)
  | ws {s : List Nat} {o : List (Nat × Nat × List Nat)} (h : s = [] ∨ ∃ q s',s = q :: s' ∧ (q = 34 ∨ q = 39)) (t : Told s o) : Told (10 :: s) ((3,s.length + 1,[10]) :: o)
noncomputable def Side : List (List Nat) → Prop
  | [] => True
  | [x] => sgnOk x
  | x :: y :: r => sgnOk x ∧ ¬ (x = [13] ∧ y = [10]) ∧ Side (y :: r)
theorem Side.cons {x : List Nat} {r : List (List Nat)} (h : Side r) (hx : sgnOk x) (hs : x = [13] → r.head? ≠ some [10]) : Side (x :: r) := by
  cases r with
  | nil => exact hx
  | cons y r => exact ⟨hx,fun q => hs q.1 (by rw [q.2]; rfl),h⟩
theorem Side.one {c : Nat} {r : List (List Nat)} (h : Side r) (hc : c ≠ 13) : Side ([c] :: r) := h.cons (.inr ⟨c,rfl⟩) fun q => by cases q; exact absurd rfl hc
structure In7 (x : Put) : Prop where
  side : Side x.rest
  q : x.quote = 34 ∨ x.quote = 39
  rd : ∃ k,k ≤ x.rest.length ∧ Told ((x.rest.map nsg).drop k) x.told ∧ quo (x.rest.map nsg) x.quote 0 = (if x.fault = 1 then none else some x.value,k,decide (x.fault = 2))
  f : x.fault ≤ 2
theorem In7.close {x : Put} (h : In7 x) : Told (([x.quote] :: x.rest).map nsg) (entry x.fault (x.rest.length + 1) x.value ++ x.told) ∧ Side ([x.quote] :: x.rest) := by
  obtain ⟨k,hk,ht,hr⟩ := h.rd
  have hq := h.q
  have hn : nsg [x.quote] = x.quote := by rcases hq with e | e <;> rw [e] <;> rfl
  have hl : (x.rest.map nsg).length = x.rest.length := List.length_map ..
  refine ⟨?_,h.side.one (by rcases hq with e | e <;> rw [e] <;> decide)⟩
  rw [List.map_cons,hn,← hl]
  have hk' : k ≤ (x.rest.map nsg).length := by rw [hl]; exact hk
  have hf := h.f
  unfold entry
  by_cases f1 : x.fault = 1
  · rw [if_pos f1]
    rw [if_pos f1,f1] at hr
    exact .bad hq hr hk' ht
  · rw [if_neg f1]
    rw [if_neg f1] at hr
    by_cases f2 : x.fault = 2
    · rw [if_pos f2]
      rw [f2] at hr
      exact .eof hq hr hk' ht
    · rw [if_neg f2]
      rw [decide_eq_false f2] at hr
      exact .str hq hr hk' ht
end
section
set_option maxRecDepth 20000
theorem fmod_lt {a : Int} {n : Nat} (h : 0 < n) : (a.fmod n).toNat < n := by
  have h1 := Int.fmod_nonneg_of_pos a (show (0 : Int) < n by (first|lia -abstractProof|omega))
  have h2 := Int.fmod_lt_of_pos a (show (0 : Int) < n by (first|lia -abstractProof|omega))
  (first|lia -abstractProof|omega)
theorem nsg_1 {c : Nat} (h1 : c ≠ 13) (h2 : c ≠ 12) : nsg [c] = nch c := by
  unfold nsg nch
  rw [if_neg (by simp [h1,h2])]
  by_cases h : c = 0
  · subst h; rfl
  · rw [if_neg (by simpa using h),if_neg h]; rfl
theorem In7.step {x : Put} (h : In7 x) {rest : List (List Nat)} {add : List (List Nat)} {v : List Nat} (hr : rest = add ++ x.rest) (hs : Side rest)
    (hrd : ∀ (r : Option (List Nat)) (k : Nat) (b : Bool),quo (x.rest.map nsg) x.quote 0 = (r,k,b) → quo ((add ++ x.rest).map nsg) x.quote 0 = (r.map (v ++ ·),add.length + k,b)) : In7 { x with rest := rest,value := v ++ x.value } := by
  subst hr
  obtain ⟨k,hk,ht,hq⟩ := h.rd
  refine ⟨hs,h.q,⟨add.length + k,by rw [List.length_append]; (first|lia -abstractProof|omega),?_,?_⟩,h.f⟩
  · show Told (((add ++ x.rest).map nsg).drop (add.length + k)) x.told
    rw [List.map_append,List.drop_append,List.drop_of_length_le (by rw [List.length_map]; (first|lia -abstractProof|omega)),List.nil_append,List.length_map,show add.length + k - add.length = k by (first|lia -abstractProof|omega)]
    exact ht
  · have := hrd _ _ _ hq
    show quo ((add ++ x.rest).map nsg) x.quote 0 = (if x.fault = 1 then none else some (v ++ x.value),add.length + k,decide (x.fault = 2))
    rw [this]
    congr 1
    split <;> rfl
theorem rd_word {q : Nat} {s : List Nat} : ∀ {p : List Nat} {r : Option (List Nat)} {k : Nat} {b : Bool},(∀ c ∈ p,c ≠ q ∧ c ≠ 92 ∧ c ≠ 10) → quo s q 0 = (r,k,b) → quo (p ++ s) q 0 = (r.map (p ++ ·),p.length + k,b)
  | [],r,k,b,_,e => by rw [List.nil_append,e]; cases r <;> simp
  | c :: p,r,k,b,h,e => by
    have hc := h c (List.mem_cons_self ..)
    have ih := rd_word (fun x hx => h x (List.mem_cons_of_mem _ hx)) e
    rw [List.cons_append,rd_c hc.1 hc.2.1 hc.2.2,ih]
    refine Prod.ext ?_ (Prod.ext ?_ rfl)
    · cases r <;> rfl
    · show 1 + (p.length + k) = (c :: p).length + k; rw [List.length_cons]; (first|lia -abstractProof|omega)
theorem side_word : ∀ {p : List Nat} {r : List (List Nat)},Side r → (∀ c ∈ p,c ≠ 13) → Side ((p.map fun c => [c]) ++ r)
  | [],r,h,_ => h
  | c :: p,r,h,hp => (side_word h fun x hx => hp x (List.mem_cons_of_mem _ hx)).one (hp c (List.mem_cons_self ..))
theorem map_word {p : List Nat} (h : ∀ c ∈ p,c ≠ 13 ∧ c ≠ 12) : (p.map fun c => [c]).map nsg = p.map nch := by
  rw [List.map_map]
  exact List.map_congr_left fun c hc => nsg_1 (h c hc).1 (h c hc).2
noncomputable def wordOk (q : Nat) (p : List Nat) : Bool := p.all (fun c => c != 13 && c != 12 && nch c != q && nch c != 92 && nch c != 10) && (p.map nch == (if p = [0] then [65533] else p))
theorem words_ok : ∀ q ∈ [34,39],∀ p ∈ plainT,wordOk q (if p = [q] then [34] else p) = true ∨ (q = 34 ∧ p = [34]) := by decide
theorem words_no : ∀ p ∈ plainT,p ≠ [34] := by decide
theorem put_word {x : Put} (h : In7 x) {p : List Nat} (hp : wordOk x.quote p = true) : In7 { x with rest := (p.map fun c => [c]) ++ x.rest,value := (if p = [0] then [65533] else p) ++ x.value } := by
  unfold wordOk at hp
  obtain ⟨h1,h2⟩ := Bool.and_eq_true_iff.mp hp
  have h1 : ∀ c ∈ p,c ≠ 13 ∧ c ≠ 12 ∧ nch c ≠ x.quote ∧ nch c ≠ 92 ∧ nch c ≠ 10 := fun c hc => by
    have := List.all_eq_true.mp h1 c hc
    simp only [Bool.and_eq_true,bne_iff_ne] at this
    exact ⟨this.1.1.1.1,this.1.1.1.2,this.1.1.2,this.1.2,this.2⟩
  have h2 : p.map nch = (if p = [0] then [65533] else p) := eq_of_beq h2
  rw [← h2]
  refine h.step rfl (side_word h.side fun c hc => (h1 c hc).1) fun r k b e => ?_
  rw [List.map_append,map_word fun c hc => ⟨(h1 c hc).1,(h1 c hc).2.1⟩]
  have := rd_word (p := p.map nch) (fun c hc => by
    obtain ⟨d,hd,rfl⟩ := List.mem_map.mp hc
    exact ⟨(h1 d hd).2.2.1,(h1 d hd).2.2.2.1,(h1 d hd).2.2.2.2⟩) e
  rw [this,List.length_map,List.length_map]
theorem put_plain {x : Put} (h : In7 x) (w : Int) : In7 { x with rest := ((if at_ plainT (w.fmod 16).toNat = [x.quote] then [34] else at_ plainT (w.fmod 16).toNat).map fun c => [c]) ++ x.rest,value := (if (if at_ plainT (w.fmod 16).toNat = [x.quote] then [34] else at_ plainT (w.fmod 16).toNat) = [0] then [65533] else (if at_ plainT (w.fmod 16).toNat = [x.quote] then [34] else at_ plainT (w.fmod 16).toNat)) ++ x.value } := by
  have hm : at_ plainT (w.fmod 16).toNat ∈ plainT := at_mem (fmod_lt (n := 16) (by decide))
  refine put_word h ?_
  rcases words_ok x.quote (by rcases h.q with e | e <;> rw [e] <;> decide) _ hm with e | ⟨_,e⟩
  · exact e
  · exact absurd e (words_no _ hm)
theorem esc_all : escT.all (fun c => !isHex (nch c) && nch c != 10 && c != 13 && c != 12) = true := by decide
theorem q_ne {x : Put} (h : In7 x) : x.quote ≠ 92 ∧ x.quote ≠ 10 := by rcases h.q with e | e <;> rw [e] <;> decide
theorem put_esc {x : Put} (h : In7 x) (w : Int) : In7 { x with rest := [92] :: [at_ escT (w.fmod 16).toNat] :: x.rest,value := nch (at_ escT (w.fmod 16).toNat) :: x.value } := by
  have hm : at_ escT (w.fmod 16).toNat ∈ escT := at_mem (fmod_lt (n := 16) (by decide))
  generalize at_ escT (w.fmod 16).toNat = c at hm ⊢
  have := List.all_eq_true.mp esc_all c hm
  simp only [Bool.and_eq_true,bne_iff_ne,Bool.not_eq_true'] at this
  obtain ⟨⟨⟨h1,h2⟩,h3⟩,h4⟩ := this
  refine h.step (add := [[92],[c]]) (v := [nch c]) rfl ((h.side.one h3).one (by decide)) fun r k b e => ?_
  show quo (nsg [92] :: nsg [c] :: x.rest.map nsg) x.quote 0 = _
  rw [nsg_1 h3 h4,show nsg [92] = 92 from rfl,rd_esc (q_ne h).1 (t := nch c :: x.rest.map nsg) (by simpa using h2) (by simp) (esc_plain h1) (by simp)]
  show ((quo (x.rest.map nsg) x.quote 0).1.map ([nch c] ++ ·),1 + 1 + (quo (x.rest.map nsg) x.quote 0).2.1,(quo (x.rest.map nsg) x.quote 0).2.2) = _
  rw [e]; rfl
theorem end_mem (w : Int) : endOf w ∈ ends := at_mem (fmod_lt (n := 4) (by decide))
theorem nsg_end {x : List Nat} (h : x ∈ ends) : nsg x = 10 ∧ sgnOk x := by
  unfold ends at h
  simp only [List.mem_cons,List.not_mem_nil,or_false] at h
  rcases h with rfl | rfl | rfl | rfl
  · exact ⟨rfl,.inr ⟨_,rfl⟩⟩
  · exact ⟨rfl,.inl rfl⟩
  · exact ⟨rfl,.inr ⟨_,rfl⟩⟩
  · exact ⟨rfl,.inr ⟨_,rfl⟩⟩
theorem put_end {x : Put} (h : In7 x) (w : Int) : In7 { x with rest := [92] :: lineEnd w x.rest :: x.rest } := by
  have hl : lineEnd w x.rest ∈ ends := by
    unfold lineEnd
    split
    · decide
    · exact end_mem w
  have hn := nsg_end hl
  have hs : Side (lineEnd w x.rest :: x.rest) := h.side.cons hn.2 fun e => by
    unfold lineEnd at e
    split at e
    · cases e
    · rename_i q
      intro z
      refine q ⟨e,?_⟩
      cases hr : x.rest with
      | nil => rw [hr] at z; cases z
      | cons y r => rw [hr] at z; cases z; rfl
  refine h.step (add := [[92],lineEnd w x.rest]) (v := []) rfl (hs.one (by decide)) fun r k b e => ?_
  show quo (nsg [92] :: nsg (lineEnd w x.rest) :: x.rest.map nsg) x.quote 0 = _
  rw [hn.1,show nsg [92] = 92 from rfl,rd_end (q_ne h).1,e]
  cases r <;> rfl
theorem put_new0 {x : Put} (h : In7 x) {q : Nat} (hq : q = 34 ∨ q = 39) : In7 { rest := [q] :: [x.quote] :: x.rest,told := entry x.fault (x.rest.length + 1) x.value ++ x.told,value := [],quote := q,fault := 0 } := by
  obtain ⟨c1,c2⟩ := h.close
  have hn : nsg [q] = q := by rcases hq with e | e <;> rw [e] <;> rfl
  refine ⟨c2.one (by rcases hq with e | e <;> rw [e] <;> decide),hq,⟨1,by simp,?_,?_⟩,Nat.zero_le _⟩
  · exact c1
  · show quo (nsg [q] :: _) q 0 = _
    rw [hn,rd_q]; rfl
theorem put_new1 {x : Put} (h : In7 x) {q : Nat} (hq : q = 34 ∨ q = 39) (w : Int) : In7 { rest := endOf w :: [x.quote] :: x.rest,told := (3,x.rest.length + 1 + 1,[10]) :: (entry x.fault (x.rest.length + 1) x.value ++ x.told),value := [],quote := q,fault := 1 } := by
  obtain ⟨c1,c2⟩ := h.close
  have hn := nsg_end (end_mem w)
  have hne : endOf w = [13] → ([x.quote] :: x.rest).head? ≠ some [10] := fun _ z => by
    have z : x.quote = 10 := by simpa using z
    rcases h.q with e | e <;> (first|lia -abstractProof|omega)
  refine ⟨c2.cons hn.2 hne,hq,⟨0,Nat.zero_le _,?_,?_⟩,Nat.le_succ 1⟩
  · show Told (nsg (endOf w) :: ([x.quote] :: x.rest).map nsg) _
    rw [hn.1]
    have hz : ([x.quote] :: x.rest).map nsg = x.quote :: x.rest.map nsg := by rw [List.map_cons]; congr 1; rcases h.q with e | e <;> rw [e] <;> rfl
    have := Told.ws (s := ([x.quote] :: x.rest).map nsg) (.inr ⟨_,_,hz,h.q⟩) c1
    rw [List.length_map,List.length_cons] at this
    exact this
  · show quo (nsg (endOf w) :: _) q 0 = _
    rw [hn.1,rd_nl (by rcases hq with e | e <;> rw [e] <;> decide)]
    rfl
end
section
set_option maxRecDepth 20000
theorem hexGo_eq (hx : List Nat) : ∀ (n c : Nat) (s : List (List Nat)),∃ ds : List Nat,hexGo hx n c s = (ds.map fun d => [at_ hx d]) ++ s ∧ ds.length = n ∧ (∀ d ∈ ds,d < 16) ∧ (c < 16 ^ n → ∀ m,ds.foldl (fun a d => a * 16 + d) m = m * 16 ^ n + c)
  | 0,c,s => ⟨[],rfl,rfl,nofun,fun h m => by simp at h; simp [h]⟩
  | n + 1,c,s => by
    obtain ⟨ds,h1,h2,h3,h4⟩ := hexGo_eq hx n (c / 16) ([at_ hx (c % 16)] :: s)
    refine ⟨ds ++ [c % 16],by rw [hexGo,h1,List.map_append,List.append_assoc]; rfl,by rw [List.length_append,h2]; rfl,fun d hd => ?_,fun h m => ?_⟩
    · rcases List.mem_append.mp hd with hd | hd
      · exact h3 d hd
      · have : d = c % 16 := by simpa using hd
        (first|lia -abstractProof|omega)
    · rw [List.foldl_append,h4 (by rw [Nat.pow_succ] at h; (first|lia -abstractProof|omega)) m]
      show (m * 16 ^ n + c / 16) * 16 + c % 16 = m * 16 ^ (n + 1) + c
      have : m * 16 ^ (n + 1) = m * 16 ^ n * 16 := by rw [Nat.pow_succ,Nat.mul_assoc]
      (first|lia -abstractProof|omega)
theorem hex_ok : ∀ hx ∈ [hexLo,hexUp],∀ d < 16,isHex (at_ hx d) = true ∧ hexDig (at_ hx d) = d ∧ at_ hx d ≠ 13 ∧ at_ hx d ≠ 12 ∧ at_ hx d ≠ 0 := by decide
theorem hexOf_mem (w : Int) : hexOf7 w ∈ [hexLo,hexUp] := by unfold hexOf7; split <;> simp
theorem hexVal_ds {hx : List Nat} (hm : hx ∈ [hexLo,hexUp]) : ∀ (ds : List Nat) (m : Nat),(∀ d ∈ ds,d < 16) → (ds.map (at_ hx)).foldl (fun n c => n * 16 + hexDig c) m = ds.foldl (fun a d => a * 16 + d) m
  | [],m,_ => rfl
  | d :: ds,m,h => by
    rw [List.map_cons,List.foldl_cons,List.foldl_cons,(hex_ok hx hm d (h d (List.mem_cons_self ..))).2.1]
    exact hexVal_ds hm ds _ fun e he => h e (List.mem_cons_of_mem _ he)
theorem figs_le (w : Int) : 1 ≤ figs w ∧ figs w ≤ 6 := by
  have : (w.fmod 6).toNat < 6 := fmod_lt (n := 6) (by decide)
  unfold figs; (first|lia -abstractProof|omega)
theorem code_lt (w : Int) : codeOf w < 16 ^ figs w := by
  have hp : 0 < 16 ^ figs w := Nat.pow_pos (by decide)
  have := fmod_lt (a := w * 70001) hp
  unfold codeOf
  have h0 : code0 w < 16 ^ figs w := this
  split <;> (first|lia -abstractProof|omega)
theorem val_eq (w : Int) : (if 0 < codeOf w ∧ codeOf w ≤ 1114111 then [codeOf w] else [65533]) = [valOf7 w] := by
  unfold valOf7
  by_cases h : codeOf w = 0 ∨ 1114111 < codeOf w
  · rw [if_pos h,if_neg (by (first|lia -abstractProof|omega))]
  · rw [if_neg h,if_pos (by (first|lia -abstractProof|omega))]
theorem blank1_mem (w : Int) : blank1 w ∈ blanks ++ [[]] := at_mem (fmod_lt (n := 7) (by decide))
theorem blank3_mem (w : Int) (rest : List (List Nat)) : blank3 w rest ∈ blanks ++ [[]] := by
  have h2 : blank2 w rest ∈ blanks ++ [[]] := by
    unfold blank2
    split
    · decide
    · exact blank1_mem w
  unfold blank3
  split
  · decide
  · exact h2
theorem blank_sg : ∀ x ∈ blanks,isWs (nsg x) = true ∧ isHex (nsg x) = false := by decide
theorem blank_ok : ∀ x ∈ blanks,sgnOk x := by
  intro x h
  unfold blanks at h
  simp only [List.mem_cons,List.not_mem_nil,or_false] at h
  rcases h with rfl | rfl | rfl | rfl | rfl | rfl
  · exact .inr ⟨_,rfl⟩
  · exact .inr ⟨_,rfl⟩
  · exact .inr ⟨_,rfl⟩
  · exact .inl rfl
  · exact .inr ⟨_,rfl⟩
  · exact .inr ⟨_,rfl⟩
theorem hexm {c : Nat} (h : isHex c = true) : c ∈ hexLo ∨ c ∈ hexUp := by
  have k : ∀ c < 103,isHex c = true → c ∈ hexLo ∨ c ∈ hexUp := by decide +kernel
  refine k c ?_ h
  rcases isHex_iff h with h | h | h <;> (first|lia -abstractProof|omega)
theorem blank_none {w : Int} {rest : List (List Nat)} (hs : Side rest) (h : blank3 w rest = []) : rest.map nsg = [] ∨ ∃ a t,rest.map nsg = a :: t ∧ isWs a = false ∧ (figs w = 6 ∨ isHex a = false) := by
  cases rest with
  | nil => exact .inl rfl
  | cons x r =>
    refine .inr ⟨nsg x,r.map nsg,rfl,?_⟩
    have h2 : blank2 w (x :: r) = [] := by
      unfold blank3 at h
      split at h
      · cases h
      · exact h
    have h1 : blank1 w = [] ∧ ¬ near (figs w) x = true := by
      unfold blank2 at h2
      split at h2
      · cases h2
      · rename_i q
        exact ⟨h2,fun z => q ⟨h2,by simp,z⟩⟩
    have hn := h1.2
    unfold near at hn
    simp only [Bool.or_eq_true,Bool.and_eq_true,decide_eq_true_eq,not_or,not_and] at hn
    obtain ⟨n1,n2⟩ := hn
    have n1 : x ∉ blanks := by simpa using n1
    have hx : sgnOk x := by cases r with | nil => exact hs | cons y r => exact hs.1
    rcases hx with rfl | ⟨c,rfl⟩
    · exact absurd (by decide) n1
    · have e : nsg [c] = nch c := nsg_1 (fun q => n1 (by subst q; decide)) (fun q => n1 (by subst q; decide))
      rw [e]
      have hw : isWs (nch c) = false := by
        unfold nch
        split
        · rfl
        · unfold isWs
          cases q : (c == 32 || c == 10 || c == 9)
          · rfl
          · simp only [Bool.or_eq_true,beq_iff_eq] at q
            exact absurd (by rcases q with (rfl | rfl) | rfl <;> decide) n1
      refine ⟨hw,?_⟩
      by_cases f : figs w = 6
      · exact .inl f
      · refine .inr ?_
        have := n2 (by have := figs_le w; (first|lia -abstractProof|omega))
        cases q : isHex (nch c)
        · rfl
        · have hc0 : nch c = c := by
            unfold nch at q ⊢
            split at q
            · cases q
            · rename_i z; rw [if_neg z]
          rw [hc0] at q
          rcases hexm q with m | m
          · exact absurd m this.1
          · exact absurd m this.2
theorem blank_side {w : Int} {rest : List (List Nat)} (hs : Side rest) (h : blank3 w rest ≠ []) : Side (blank3 w rest :: rest) := by
  have hm : blank3 w rest ∈ blanks := by
    have := blank3_mem w rest
    rcases List.mem_append.mp this with m | m
    · exact m
    · exact absurd (by simpa using m) h
  refine hs.cons (blank_ok _ hm) fun e z => ?_
  unfold blank3 at e
  split at e
  · cases e
  · rename_i q
    refine q ⟨e,?_⟩
    cases rest with
    | nil => cases z
    | cons y r => cases z; rfl
theorem put_hex {x : Put} (h : In7 x) (w : Int) : In7 { x with rest := hexSigns w x.rest ++ x.rest,value := valOf7 w :: x.value } := by
  obtain ⟨ds,d1,d2,d3,d4⟩ := hexGo_eq (hexOf7 w) (figs w) (codeOf w) (if blank3 w x.rest = [] then [] else [blank3 w x.rest])
  have hm := hexOf_mem w
  have hf := figs_le w
  have hd : ∀ d ∈ ds,isHex (at_ (hexOf7 w) d) = true ∧ hexDig (at_ (hexOf7 w) d) = d ∧ at_ (hexOf7 w) d ≠ 13 ∧ at_ (hexOf7 w) d ≠ 12 ∧ at_ (hexOf7 w) d ≠ 0 := fun d q => hex_ok _ hm d (d3 d q)
  have hv : hexVal (ds.map (at_ (hexOf7 w))) = codeOf w := by
    unfold hexVal
    rw [hexVal_ds hm ds 0 d3,d4 (code_lt w) 0,Nat.zero_mul,Nat.zero_add]
  let b : Option Nat := if blank3 w x.rest = [] then none else some (nsg (blank3 w x.rest))
  have hb : ((if blank3 w x.rest = [] then [] else [blank3 w x.rest]) : List (List Nat)).map nsg = b.toList := by
    show _ = (if blank3 w x.rest = [] then none else some (nsg (blank3 w x.rest))).toList
    split <;> rfl
  have hsb : Side ((if blank3 w x.rest = [] then [] else [blank3 w x.rest]) ++ x.rest) := by
    by_cases q : blank3 w x.rest = []
    · rw [if_pos q]; exact h.side
    · rw [if_neg q]; exact blank_side h.side q
  have hside : Side (hexSigns w x.rest ++ x.rest) := by
    unfold hexSigns
    rw [d1,List.cons_append,List.append_assoc]
    refine Side.one ?_ (by decide)
    have := side_word (p := ds.map (at_ (hexOf7 w))) hsb (fun c hc => by
      obtain ⟨d,q,rfl⟩ := List.mem_map.mp hc; exact (hd d q).2.2.1)
    rw [List.map_map] at this
    exact this
  have hmap : (hexSigns w x.rest ++ x.rest).map nsg = 92 :: (ds.map (at_ (hexOf7 w)) ++ (b.toList ++ x.rest.map nsg)) := by
    unfold hexSigns
    rw [d1,List.cons_append,List.map_cons,List.append_assoc,List.map_append,List.map_append,hb]
    congr 2
    rw [List.map_map]
    refine List.map_congr_left fun d q => ?_
    show nsg [at_ (hexOf7 w) d] = _
    rw [nsg_1 (hd d q).2.2.1 (hd d q).2.2.2.1]
    unfold nch; rw [if_neg (hd d q).2.2.2.2]
  have hlen : (hexSigns w x.rest).length = 1 + (ds.map (at_ (hexOf7 w)) ++ b.toList).length := by
    unfold hexSigns
    rw [d1,← hb]
    simp only [List.length_cons,List.length_append,List.length_map]
    (first|lia -abstractProof|omega)
  refine h.step (add := hexSigns w x.rest) (v := [valOf7 w]) rfl hside fun r k bb e => ?_
  rw [hmap]
  have hne : ds.map (at_ (hexOf7 w)) ≠ [] := fun q => by have := congrArg List.length q; rw [List.length_map,d2] at this; simp at this; (first|lia -abstractProof|omega)
  have he := esc_hex (hs := ds.map (at_ (hexOf7 w))) (t := x.rest.map nsg) (b := b) (fun c hc => by obtain ⟨d,q,rfl⟩ := List.mem_map.mp hc; exact (hd d q).1) hne (by rw [List.length_map,d2]; (first|lia -abstractProof|omega))
    (fun y hy => by
      show _
      have hy : (if blank3 w x.rest = [] then none else some (nsg (blank3 w x.rest))) = some y := hy
      split at hy
      · cases hy
      · rename_i q
        cases hy
        have := blank3_mem w x.rest
        rcases List.mem_append.mp this with m | m
        · exact blank_sg _ m
        · exact absurd (by simpa using m) q)
    (fun hy => by
      have hy : (if blank3 w x.rest = [] then none else some (nsg (blank3 w x.rest))) = none := hy
      split at hy
      · rename_i q
        rcases blank_none h.side q with z | ⟨a,t,z1,z2,z3⟩
        · exact .inl z
        · exact .inr ⟨a,t,z1,z2,z3.imp (fun z => by rw [List.length_map,d2]; exact z) id⟩
      · cases hy)
  rw [hv,val_eq] at he
  have hh : (ds.map (at_ (hexOf7 w)) ++ (b.toList ++ x.rest.map nsg)).head? ≠ some 10 := by
    obtain ⟨a,l,q⟩ : ∃ a l,ds = a :: l := by cases ds with | nil => exact absurd rfl hne | cons a l => exact ⟨a,l,rfl⟩
    rw [q,List.map_cons,List.cons_append]
    intro z
    have z : at_ (hexOf7 w) a = 10 := by simpa using z
    have := (hd a (by rw [q]; exact List.mem_cons_self ..)).1
    rw [z] at this; cases this
  rw [rd_esc (q_ne h).1 hh (by intro z; exact hne (List.append_eq_nil_iff.mp z).1) he (by simp only [List.length_append]; (first|lia -abstractProof|omega)),hlen]
  have hdrop : (ds.map (at_ (hexOf7 w)) ++ (b.toList ++ x.rest.map nsg)).drop (ds.map (at_ (hexOf7 w)) ++ b.toList).length = x.rest.map nsg := by
    rw [← List.append_assoc]; exact List.drop_left
  rw [hdrop,e]
end
section
set_option maxRecDepth 20000
theorem put_ok {x : Put} (h : In7 x) (n : Int) : In7 (put7 x n) := by
  unfold put7
  dsimp only
  by_cases h0 : n.fmod 5 = 0
  · rw [if_pos h0]; exact put_plain h _
  rw [if_neg h0]
  by_cases h1 : n.fmod 5 = 1
  · rw [if_pos h1]; exact put_esc h _
  rw [if_neg h1]
  by_cases h2 : n.fmod 5 = 2
  · rw [if_pos h2]; exact put_hex h _
  rw [if_neg h2]
  by_cases h3 : n.fmod 5 = 3
  · rw [if_pos h3]; exact put_end h _
  rw [if_neg h3]
  have hq : (if (n.fdiv 5).fmod 2 = 0 then 34 else 39 : Nat) = 34 ∨ (if (n.fdiv 5).fmod 2 = 0 then 34 else 39 : Nat) = 39 := by split <;> simp
  by_cases h4 : ((n.fdiv 5).fdiv 2).fmod 2 = 0
  · rw [if_pos h4]; exact put_new0 h hq
  · rw [if_neg h4]; exact put_new1 h hq _
noncomputable def tape7 (ns : List Int) : List Int := if ns.isEmpty = true then [6] else ns.take 20
noncomputable def first7 (a : Int) : Put :=
  let q := if a.fmod 2 = 0 then 34 else 39
  let c := ((a.fdiv 2).fmod 4).toNat
  { rest := at_ [[[q]],[endOf (a.fdiv 8)],[],[[92]]] c,told := if c = 1 then [(3,1,[10])] else [],value := [],quote := q,fault := at_ [0,1,2,2] c }
theorem first_ok (a : Int) : In7 (first7 a) := by
  have hc : ((a.fdiv 2).fmod 4).toNat < 4 := fmod_lt (n := 4) (by decide)
  unfold first7
  generalize ((a.fdiv 2).fmod 4).toNat = c at hc
  have hq : (if a.fmod 2 = 0 then 34 else 39 : Nat) = 34 ∨ (if a.fmod 2 = 0 then 34 else 39 : Nat) = 39 := by split <;> simp
  generalize (if a.fmod 2 = 0 then 34 else 39 : Nat) = q at hq
  have hn : nsg [q] = q := by rcases hq with e | e <;> rw [e] <;> rfl
  dsimp only
  have hcs : c = 0 ∨ c = 1 ∨ c = 2 ∨ c = 3 := by (first|lia -abstractProof|omega)
  rcases hcs with rfl | rfl | rfl | rfl
  · refine ⟨.inr ⟨q,rfl⟩,hq,⟨1,Nat.le_refl _,.nil,?_⟩,Nat.zero_le _⟩
    show quo [nsg [q]] q 0 = _
    rw [hn,rd_q]; rfl
  · have he := nsg_end (end_mem (a.fdiv 8))
    refine ⟨he.2,hq,⟨0,Nat.zero_le _,?_,?_⟩,Nat.le_succ 1⟩
    · show Told [nsg (endOf (a.fdiv 8))] _
      rw [he.1]
      exact .ws (.inl rfl) .nil
    · show quo [nsg (endOf (a.fdiv 8))] q 0 = _
      rw [he.1,rd_nl (by rcases hq with e | e <;> rw [e] <;> decide)]; rfl
  · exact ⟨trivial,hq,⟨0,Nat.zero_le _,.nil,rd_nil⟩,Nat.le_refl 2⟩
  · refine ⟨.inr ⟨92,rfl⟩,hq,⟨1,Nat.le_refl _,.nil,?_⟩,Nat.le_refl 2⟩
    have hq92 : q ≠ 92 := by rcases hq with e | e <;> (first|lia -abstractProof|omega)
    exact rd_bs hq92
noncomputable def put_all (ns : List Int) : Put := (tape7 ns).foldl put7 (first7 (at_ (tape7 ns) 0))
theorem fold_ok : ∀ (l : List Int) {x : Put},In7 x → In7 (l.foldl put7 x)
  | [],x,h => h
  | n :: l,x,h => fold_ok l (put_ok h n)
noncomputable def rest7 (ns : List Int) : List (List Nat) := [(put_all ns).quote] :: (put_all ns).rest
noncomputable def told7 (ns : List Int) : List (Nat × Nat × List Nat) := entry (put_all ns).fault (rest7 ns).length (put_all ns).value ++ (put_all ns).told
theorem read7 (ns : List Int) : Told ((rest7 ns).map nsg) (told7 ns) ∧ Side (rest7 ns) := (fold_ok _ (first_ok _)).close
theorem nrm_one {c : Nat} {r : List Nat} (h : ¬ (c = 13 ∧ r.head? = some 10)) : nrm (c :: r) = nsg [c] :: nrm r := by
  have e : nrm (c :: r) = chg 12 10 (chg 13 10 (crlf ((if c = 0 then 65533 else c) :: chg 0 65533 r))) := rfl
  rw [e,crlf_cons (by
    rintro ⟨h1,h2⟩
    refine h ⟨?_,?_⟩
    · split at h1
      · cases h1
      · exact h1
    · cases r with
      | nil => cases h2
      | cons d r =>
        have h2 : (if d = 0 then 65533 else d) = 10 := by simpa [chg] using h2
        split at h2
        · cases h2
        · rw [h2]; rfl)]
  show _ :: _ = _ :: _
  congr 1
  unfold nsg
  by_cases h0 : c = 0
  · subst h0; rfl
  rw [if_neg h0]
  dsimp only
  by_cases h1 : c = 13
  · subst h1; rfl
  rw [if_neg h1]
  by_cases h2 : c = 12
  · subst h2; rfl
  rw [if_neg h2,if_neg (by simp [h1,h2]),if_neg (by simpa using h0)]
  rfl
theorem nrm_side : ∀ {r : List (List Nat)},Side r → nrm r.flatten = r.map nsg
  | [],_ => rfl
  | [x],h => by
    rcases h with rfl | ⟨c,rfl⟩
    · rfl
    · show nrm [c] = _
      rw [nrm_one (by rintro ⟨_,h⟩; cases h)]; rfl
  | x :: y :: r,h => by
    have ih := nrm_side h.2.2
    rw [List.flatten_cons,List.map_cons,← ih]
    have hy : ∃ d t,(y :: r).flatten = d :: t ∧ (d = 10 → y = [10]) := by
      have hs : sgnOk y := by cases r with | nil => exact h.2.2 | cons z r => exact h.2.2.1
      rcases hs with rfl | ⟨d,rfl⟩
      · exact ⟨13,10 :: r.flatten,rfl,fun q => by cases q⟩
      · exact ⟨d,r.flatten,rfl,fun q => by rw [q]⟩
    obtain ⟨d,t,e,hd⟩ := hy
    rw [e]
    rcases h.1 with rfl | ⟨c,rfl⟩
    · show nrm (13 :: 10 :: d :: t) = 10 :: nrm (d :: t)
      rfl
    · show nrm (c :: d :: t) = _
      refine nrm_one ?_
      rintro ⟨rfl,q⟩
      have q : d = 10 := by simpa using q
      exact h.2.1 ⟨rfl,hd q⟩
end
section
set_option maxRecDepth 20000
noncomputable def Ch (x : List Nat) : Prop := ∀ c ∈ x,c < 1114112
theorem Ch.app {x y : List Nat} (h : Ch x) (g : Ch y) : Ch (x ++ y) := fun c hc => (List.mem_append.mp hc).elim (h c) (g c)
theorem Ch.nil : Ch [] := nofun
theorem Ch.one {c : Nat} (h : c < 1114112) : Ch [c] := fun x hx => by rw [List.mem_singleton.mp hx]; exact h
structure Ok7 (x : Put) (k : Nat) : Prop where
  r : ∀ y ∈ x.rest,Ch y
  rl : x.rest.length ≤ 1 + 8 * k
  v : Ch x.value
  vl : x.value.length ≤ 4 * k
  t : ∀ y ∈ x.told,Ch y.2.2
  tl : x.told.length ≤ 1 + 3 * k
theorem entry_ok {f left : Nat} {v : List Nat} (h : Ch v) : (∀ y ∈ entry f left v,Ch y.2.2) ∧ (entry f left v).length ≤ 2 := by
  unfold entry
  split
  · exact ⟨fun y hy => by rw [List.mem_singleton.mp hy]; exact Ch.nil,Nat.le_succ 1⟩
  split
  · refine ⟨fun y hy => ?_,Nat.le_refl 2⟩
    rcases List.mem_cons.mp hy with rfl | hy
    · exact h
    · rw [List.mem_singleton.mp hy]; exact Ch.nil
  · exact ⟨fun y hy => by rw [List.mem_singleton.mp hy]; exact h,Nat.le_succ 1⟩
theorem end_ch (w : Int) : Ch (endOf w) := by
  have : ∀ e ∈ ends,∀ c ∈ e,c < 1114112 := by decide
  exact this _ (end_mem w)
theorem hexGo_ok {hx : List Nat} (h : Ch hx) (h16 : hx.length = 16) : ∀ (n c : Nat) {s : List (List Nat)},(∀ y ∈ s,Ch y) → (∀ y ∈ hexGo hx n c s,Ch y) ∧ (hexGo hx n c s).length = n + s.length
  | 0,c,s,hs => ⟨hs,(Nat.zero_add _).symm⟩
  | n + 1,c,s,hs => by
    have := hexGo_ok h h16 n (c / 16) (s := [at_ hx (c % 16)] :: s) fun y hy => by
      rcases List.mem_cons.mp hy with rfl | hy
      · exact Ch.one (h _ (at_mem (by (first|lia -abstractProof|omega))))
      · exact hs y hy
    rw [hexGo]
    exact ⟨this.1,by rw [this.2,List.length_cons]; (first|lia -abstractProof|omega)⟩
theorem blank3_ch (w : Int) (rest : List (List Nat)) : Ch (blank3 w rest) := by
  have h1 : Ch (blank1 w) := by
    have : ∀ e ∈ blanks ++ [[]],∀ c ∈ e,c < 1114112 := by decide
    refine this _ ?_
    have hc : ((w.fdiv 2).fmod 7).toNat < 7 := fmod_lt (n := 7) (by decide)
    exact at_mem hc
  have h2 : Ch (blank2 w rest) := by unfold blank2; split; exact Ch.one (by decide); exact h1
  unfold blank3; split
  · exact (Ch.one (c := 13) (by decide)).app (Ch.one (c := 10) (by decide))
  · exact h2
theorem hexs_ok (w : Int) (rest : List (List Nat)) : (∀ y ∈ hexSigns w rest,Ch y) ∧ (hexSigns w rest).length ≤ 8 := by
  have hx : Ch (hexOf7 w) ∧ (hexOf7 w).length = 16 := by
    have h1 : ∀ c ∈ hexLo,c < 1114112 := by decide
    have h2 : ∀ c ∈ hexUp,c < 1114112 := by decide
    unfold hexOf7; split
    · exact ⟨h1,rfl⟩
    · exact ⟨h2,rfl⟩
  have hfg : figs w ≤ 6 := by
    have hc : (w.fmod 6).toNat < 6 := fmod_lt (n := 6) (by decide)
    unfold figs; (first|lia -abstractProof|omega)
  have := hexGo_ok hx.1 hx.2 (figs w) (codeOf w) (s := if blank3 w rest = [] then [] else [blank3 w rest]) (by
    split
    · exact nofun
    · intro y hy; rw [List.mem_singleton.mp hy]; exact blank3_ch w rest)
  unfold hexSigns
  refine ⟨fun y hy => ?_,?_⟩
  · rcases List.mem_cons.mp hy with rfl | hy
    · exact Ch.one (by decide)
    · exact this.1 y hy
  · rw [List.length_cons,this.2]
    split
    · simp; (first|lia -abstractProof|omega)
    · simp; (first|lia -abstractProof|omega)
theorem val_ch (w : Int) : Ch [valOf7 w] := by
  refine Ch.one ?_
  unfold valOf7; split
  · decide
  · (first|lia -abstractProof|omega)
theorem mem2 {α : Type} {P : α → Prop} {a b : List α} (h : ∀ x ∈ a,P x) (g : ∀ x ∈ b,P x) : ∀ x ∈ a ++ b,P x := fun x hx => (List.mem_append.mp hx).elim (h x) (g x)
theorem mem1 {α : Type} {P : α → Prop} {a : α} {b : List α} (h : P a) (g : ∀ x ∈ b,P x) : ∀ x ∈ a :: b,P x := fun x hx => (List.mem_cons.mp hx).elim (fun q => by rw [q]; exact h) (g x)
theorem put_size {x : Put} {k : Nat} (h : Ok7 x k) (hq : x.quote = 34 ∨ x.quote = 39) (n : Int) : Ok7 (put7 x n) (k + 1) := by
  obtain ⟨r,rl,v,vl,t,tl⟩ := h
  have hqc : Ch [x.quote] := by rcases hq with e | e <;> rw [e] <;> exact Ch.one (by decide)
  unfold put7
  dsimp only
  by_cases h0 : n.fmod 5 = 0
  · rw [if_pos h0]
    have hp : Ch (at_ plainT ((n.fdiv 5).fmod 16).toNat) ∧ (at_ plainT ((n.fdiv 5).fmod 16).toNat).length ≤ 4 := by
      have hc : ((n.fdiv 5).fmod 16).toNat < 16 := fmod_lt (n := 16) (by decide)
      have h1 : ∀ e ∈ plainT,∀ c ∈ e,c < 1114112 := by decide
      have h2 : ∀ e ∈ plainT,e.length ≤ 4 := by decide
      have hm : at_ plainT ((n.fdiv 5).fmod 16).toNat ∈ plainT := at_mem hc
      exact ⟨h1 _ hm,h2 _ hm⟩
    generalize at_ plainT ((n.fdiv 5).fmod 16).toNat = p at hp
    have hp2 : Ch (if p = [x.quote] then [34] else p) ∧ (if p = [x.quote] then [34] else p : List Nat).length ≤ 4 := by
      split
      · exact ⟨Ch.one (by decide),by decide⟩
      · exact hp
    generalize (if p = [x.quote] then [34] else p : List Nat) = p at hp2
    obtain ⟨p1,p2⟩ := hp2
    have hw : Ch (if p = [0] then [65533] else p) ∧ (if p = [0] then [65533] else p : List Nat).length ≤ 4 := by
      split
      · exact ⟨Ch.one (by decide),by decide⟩
      · exact ⟨p1,p2⟩
    refine ⟨mem2 (fun y hy => ?_) r,?_,hw.1.app v,?_,t,by dsimp only; (first|lia -abstractProof|omega)⟩
    · obtain ⟨c,hc,rfl⟩ := List.mem_map.mp hy
      exact Ch.one (p1 c hc)
    · dsimp only; rw [List.length_append,List.length_map]; (first|lia -abstractProof|omega)
    · dsimp only; rw [List.length_append]; (first|lia -abstractProof|omega)
  rw [if_neg h0]
  by_cases h1 : n.fmod 5 = 1
  · rw [if_pos h1]
    have hp : at_ escT ((n.fdiv 5).fmod 16).toNat < 1114112 := by
      have hc : ((n.fdiv 5).fmod 16).toNat < 16 := fmod_lt (n := 16) (by decide)
      have h1 : ∀ c ∈ escT,c < 1114112 := by decide
      exact h1 _ (at_mem hc)
    refine ⟨mem1 (Ch.one (by decide)) (mem1 (Ch.one hp) r),by simp only [List.length_cons]; (first|lia -abstractProof|omega),mem1 ?_ v,by simp only [List.length_cons]; (first|lia -abstractProof|omega),t,by dsimp only; (first|lia -abstractProof|omega)⟩
    unfold nch; split
    · decide
    · exact hp
  rw [if_neg h1]
  by_cases h2 : n.fmod 5 = 2
  · rw [if_pos h2]
    have hh := hexs_ok (n.fdiv 5) x.rest
    exact ⟨mem2 hh.1 r,by dsimp only; rw [List.length_append]; (first|lia -abstractProof|omega),(val_ch _).app v,by simp only [List.length_cons]; (first|lia -abstractProof|omega),t,by dsimp only; (first|lia -abstractProof|omega)⟩
  rw [if_neg h2]
  by_cases h3 : n.fmod 5 = 3
  · rw [if_pos h3]
    refine ⟨mem1 (Ch.one (by decide)) (mem1 ?_ r),by simp only [List.length_cons]; (first|lia -abstractProof|omega),v,by dsimp only; (first|lia -abstractProof|omega),t,by dsimp only; (first|lia -abstractProof|omega)⟩
    unfold lineEnd; split
    · exact (Ch.one (c := 13) (by decide)).app (Ch.one (c := 10) (by decide))
    · exact end_ch _
  rw [if_neg h3]
  have he := entry_ok (f := x.fault) (left := ([x.quote] :: x.rest).length) v
  have hq2 : ∀ q : Nat,q = 34 ∨ q = 39 → Ch [q] := fun q e => by rcases e with e | e <;> rw [e] <;> exact Ch.one (by decide)
  have hqq : (if (n.fdiv 5).fmod 2 = 0 then 34 else 39 : Nat) = 34 ∨ (if (n.fdiv 5).fmod 2 = 0 then 34 else 39 : Nat) = 39 := by split <;> simp
  by_cases h4 : ((n.fdiv 5).fdiv 2).fmod 2 = 0
  · rw [if_pos h4]
    exact ⟨mem1 (hq2 _ hqq) (mem1 hqc r),by simp only [List.length_cons]; (first|lia -abstractProof|omega),Ch.nil,Nat.zero_le _,mem2 he.1 t,by dsimp only; rw [List.length_append]; (first|lia -abstractProof|omega)⟩
  · rw [if_neg h4]
    exact ⟨mem1 (end_ch _) (mem1 hqc r),by simp only [List.length_cons]; (first|lia -abstractProof|omega),Ch.nil,Nat.zero_le _,mem1 (Ch.one (by decide)) (mem2 he.1 t),by dsimp only; rw [List.length_cons,List.length_append]; (first|lia -abstractProof|omega)⟩
theorem first_size (a : Int) : Ok7 (first7 a) 0 := by
  have hc : ((a.fdiv 2).fmod 4).toNat < 4 := fmod_lt (n := 4) (by decide)
  unfold first7
  generalize ((a.fdiv 2).fmod 4).toNat = c at hc
  have hq : (if a.fmod 2 = 0 then 34 else 39 : Nat) = 34 ∨ (if a.fmod 2 = 0 then 34 else 39 : Nat) = 39 := by split <;> simp
  generalize (if a.fmod 2 = 0 then 34 else 39 : Nat) = q at hq
  have hqc : Ch [q] := by rcases hq with e | e <;> rw [e] <;> exact Ch.one (by decide)
  dsimp only
  have hcs : c = 0 ∨ c = 1 ∨ c = 2 ∨ c = 3 := by (first|lia -abstractProof|omega)
  rcases hcs with rfl | rfl | rfl | rfl
  · exact ⟨mem1 hqc nofun,Nat.le_refl 1,Ch.nil,Nat.le_refl 0,nofun,Nat.zero_le _⟩
  · exact ⟨mem1 (end_ch _) nofun,Nat.le_refl 1,Ch.nil,Nat.le_refl 0,mem1 (Ch.one (by decide)) nofun,Nat.le_refl 1⟩
  · exact ⟨nofun,Nat.zero_le _,Ch.nil,Nat.le_refl 0,nofun,Nat.zero_le _⟩
  · exact ⟨mem1 (Ch.one (by decide)) nofun,Nat.le_refl 1,Ch.nil,Nat.le_refl 0,nofun,Nat.zero_le _⟩
noncomputable def put_at (T : List Int) (i : Nat) : Put := (T.take i).foldl put7 (first7 (at_ T 0))
theorem put_at_succ {T : List Int} {i : Nat} (h : i < T.length) : put_at T (i + 1) = put7 (put_at T i) (at_ T i) := by
  unfold put_at
  rw [List.take_add_one,at_get h,List.foldl_append]; rfl
theorem put_at_in (T : List Int) (i : Nat) : In7 (put_at T i) := fold_ok _ (first_ok _)
theorem put_at_size (T : List Int) : ∀ (i : Nat),i ≤ T.length → Ok7 (put_at T i) i
  | 0,_ => first_size _
  | i + 1,h => by rw [put_at_succ h]; exact put_size (put_at_size T i (by (first|lia -abstractProof|omega))) (put_at_in T i).q _
theorem Side.all : ∀ {r : List (List Nat)},Side r → ∀ x ∈ r,sgnOk x
  | [],_ => nofun
  | [x],h => fun y hy => by rw [List.mem_singleton.mp hy]; exact h
  | x :: y :: r,h => mem1 h.1 (Side.all h.2.2)
theorem put_at_fine (T : List Int) (i : Nat) (h : i ≤ T.length) : Fine (put_at T i).rest := fun x hx => ⟨(put_at_in T i).side.all x hx,(put_at_size T i h).r x hx⟩
theorem flat2 : ∀ {r : List (List Nat)},(∀ x ∈ r,sgnOk x) → r.flatten.length ≤ 2 * r.length
  | [],_ => Nat.zero_le _
  | x :: r,h => by
    have h1 := flat2 fun y hy => h y (List.mem_cons_of_mem _ hy)
    have h2 : x.length ≤ 2 := by rcases h x (List.mem_cons_self ..) with rfl | ⟨c,rfl⟩ <;> simp
    rw [List.flatten_cons,List.length_append,List.length_cons]; (first|lia -abstractProof|omega)
end
section
set_option maxRecDepth 20000
set_option maxHeartbeats 4000000
section
variable {C : Cx}
theorem num_q {css : List Nat} {pos : Nat} {hp : List AObj} (hp0 : pos < css.length) (hq : ch css pos = 34 ∨ ch css pos = 39) (hz : css.length ≤ 1000) : Calls C 2 (.fn 28) [.str css,.int pos] hp fun v hp' => v = .tup [.none,.bool false] ∧ hp' = hp := by
  refine call_intro (xs := [oS "css",oS "pos"]) (vars0 := [(oS "css",V.str css),(oS "pos",V.int pos),(oS "end",V.undef),(oS "start",V.undef),(oS "plain",V.undef),(oS "power",V.undef)]) (gl0 := [(oS "_DIGITS",((.tup [.str [48],.str [49],.str [50],.str [51],.str [52],.str [53],.str [54],.str [55],.str [56],.str [57]]) : V))]) (d := 1) rfl ?_ (by rfl) (by rfl) (by rfl) ?_
  · (first | (intro dV doc pm cdv ct an vals hl _ h1 s h2; obtain ⟨T,hT⟩ := h1 rfl; subst hT; obtain ⟨o,n,ho,hs⟩ := h2 T rfl rfl; match vals,hl with | [a],_ => exact ⟨[.bool false],.of_defaults rfl ho hs rfl rfl,.inr ⟨rfl,rfl⟩⟩) | (intro dV doc pm cdv ct an vals hl _ h1 s h2; obtain ⟨T,hT⟩ := h1 rfl; subst hT; obtain ⟨o,n,ho,hs⟩ := h2 T rfl rfl; match vals,hl with | [a,b],_ => exact ⟨[],.of_defaults rfl ho hs rfl rfl,.inl ⟨rfl,rfl⟩⟩) | (intro dV doc pm cdv ct an vals hl h0 _ s _; have hq := h0 rfl; subst hq; obtain ⟨a,b,rfl⟩ := len2 hl; exact ⟨[],.of_eq (by kernel_rfl),.inl ⟨rfl,rfl⟩⟩))
  intro e he hg
  have hd : isDig (ch css pos) = false := by rcases hq with h | h <;> rw [h] <;> rfl
  repeat' (first | (with_reducible refine U_as1 ?_; with_reducible refine S_Assign ?_) | (with_reducible refine U_name ?_; with_reducible refine N_x ?_) | (with_reducible refine U_asg ?_; with_reducible refine A_x ?_))
  refine T_seq (R := fun st => st = ⟨[(oS "css",V.str css),(oS "pos",V.int pos),(oS "end",V.int (pos : Int)),(oS "start",V.undef),(oS "plain",V.undef),(oS "power",V.undef)],hp⟩) (T_If ?_) ?_
  · repeat' (first | (with_reducible refine U_aug ?_; with_reducible refine S_Aug ?_) | with_reducible refine T_nil ?_ | (with_reducible refine U_name ?_; with_reducible refine N_x ?_) | with_reducible refine T_nat ?_ | (with_reducible refine U_str ?_; with_reducible refine T_lit ?_) | with_reducible refine T_BinOp ?_ | (with_reducible refine U_sl2 ?_; with_reducible refine T_SliceNat ?_) | with_reducible refine T_Tuple ?_ | (with_reducible refine U_bc1 ?_; with_reducible refine B_Compare ?_) | with_reducible refine ite_in2 (fun _ => ?_) (fun _ => ?_) | (with_reducible refine U_acons ?_; with_reducible refine A_cons ?_) | with_reducible refine A_nil ?_ | (with_reducible refine U_cin ?_; with_reducible refine Cmp_inT ?_) | with_reducible refine Bin_addn ?_ | with_reducible refine Bin_iaddn ?_ | (with_reducible refine U_sto ?_; with_reducible refine Sto_x ?_) | (with_reducible refine U_ex1 ?_; with_reducible refine ⟨_,rfl,?_⟩) | (with_reducible refine U_ex2 ?_; with_reducible refine ⟨_,_,rfl,rfl,?_,?_⟩; (first | assumption | (first|lia -abstractProof|omega) | (simp only [List.flatten_append,List.flatten_cons,List.flatten_nil,List.append_nil,List.length_append,List.length_cons,List.length_nil,cut_length,List.length_take,List.length_drop,List.length_map]; (first|lia -abstractProof|omega)) | (simp; (first|lia -abstractProof|omega)))) | with_reducible refine size_and (by simp only [List.length_cons,List.length_nil]; (first|lia -abstractProof|omega)) ?_)
    · rename_i h; exfalso; (first|lia -abstractProof|omega)
    · exact ⟨rfl,rfl⟩
  rintro st rfl
  repeat' (first | (with_reducible refine U_as1 ?_; with_reducible refine S_Assign ?_) | (with_reducible refine U_name ?_; with_reducible refine N_x ?_) | (with_reducible refine U_asg ?_; with_reducible refine A_x ?_))
  refine S_W (fun n st => st = ⟨[(oS "css",V.str css),(oS "pos",V.int pos),(oS "end",V.int (pos : Int)),(oS "start",V.int (pos : Int)),(oS "plain",V.undef),(oS "power",V.undef)],hp⟩) 0 rfl ?_
  rintro n st rfl
  repeat' (first | (with_reducible refine U_as1 ?_; with_reducible refine S_Assign ?_) | (with_reducible refine U_aug ?_; with_reducible refine S_Aug ?_) | with_reducible refine T_nil ?_ | (with_reducible refine U_name ?_; with_reducible refine N_x ?_) | with_reducible refine T_nat ?_ | (with_reducible refine U_name ?_; with_reducible refine N_g (by assumption) ?_) | with_reducible refine T_BinOp ?_ | with_reducible refine T_bool ?_ | (with_reducible refine U_sl2 ?_; with_reducible refine T_SliceNat ?_) | (with_reducible refine U_bc1 ?_; with_reducible refine B_Compare ?_) | with_reducible refine ite_digin (fun _ _ => ?_) (fun _ => ?_) | (with_reducible refine U_cin ?_; with_reducible refine Cmp_inT ?_) | with_reducible refine Bin_addn ?_ | with_reducible refine Bin_iaddn ?_ | with_reducible refine K_next ?_ | (with_reducible refine U_asg ?_; with_reducible refine A_x ?_) | (with_reducible refine U_sto ?_; with_reducible refine Sto_x ?_) | (with_reducible refine U_ex1 ?_; with_reducible refine ⟨_,rfl,?_⟩) | (with_reducible refine U_ex2 ?_; with_reducible refine ⟨_,_,rfl,rfl,?_,?_⟩; (first | assumption | (first|lia -abstractProof|omega) | (simp only [List.flatten_append,List.flatten_cons,List.flatten_nil,List.append_nil,List.length_append,List.length_cons,List.length_nil,cut_length,List.length_take,List.length_drop,List.length_map]; (first|lia -abstractProof|omega)) | (simp; (first|lia -abstractProof|omega)))))
  · rename_i q1 q2; rw [hd] at q2; cases q2
  refine S_If ?_
  repeat' (first | (with_reducible refine U_as1 ?_; with_reducible refine S_Assign ?_) | with_reducible refine S_IfE ?_ | with_reducible refine S_If ?_ | (with_reducible refine U_aug ?_; with_reducible refine S_Aug ?_) | with_reducible refine S_Return ?_ | with_reducible refine T_nil ?_ | (with_reducible refine U_name ?_; with_reducible refine N_x ?_) | with_reducible refine T_nat ?_ | (with_reducible refine U_str ?_; with_reducible refine T_lit ?_) | (with_reducible refine U_name ?_; with_reducible refine N_g (by assumption) ?_) | with_reducible refine T_BinOp ?_ | with_reducible refine T_none ?_ | with_reducible refine T_bool ?_ | (with_reducible refine U_sl2 ?_; with_reducible refine T_SliceNat ?_) | with_reducible refine T_Tuple ?_ | (with_reducible refine U_bc1 ?_; with_reducible refine B_Compare ?_) | with_reducible refine B_and ?_ | with_reducible refine B_andNil ?_ | with_reducible refine ite_tt ?_ | with_reducible refine ite_ff ?_ | with_reducible refine ite_digin (fun _ _ => ?_) (fun _ => ?_) | with_reducible refine ite_beq (fun _ => ?_) (fun _ => ?_) | with_reducible refine ite_cuteq (fun _ _ => ?_) (fun _ => ?_) | with_reducible refine ite_in2 (fun _ => ?_) (fun _ => ?_) | (with_reducible refine U_acons ?_; with_reducible refine A_cons ?_) | with_reducible refine A_nil ?_ | with_reducible refine Cmp_eqn ?_ | with_reducible refine Cmp_eqs ?_ | (with_reducible refine U_cin ?_; with_reducible refine Cmp_inT ?_) | with_reducible refine Bin_addn ?_ | with_reducible refine Bin_iaddn ?_ | with_reducible refine K_next ?_ | with_reducible refine K_ret ?_ | (with_reducible refine U_asg ?_; with_reducible refine A_x ?_) | (with_reducible refine U_sto ?_; with_reducible refine Sto_x ?_) | (with_reducible refine U_ex1 ?_; with_reducible refine ⟨_,rfl,?_⟩) | (with_reducible refine U_ex2 ?_; with_reducible refine ⟨_,_,rfl,rfl,?_,?_⟩; (first | assumption | (first|lia -abstractProof|omega) | (simp only [List.flatten_append,List.flatten_cons,List.flatten_nil,List.append_nil,List.length_append,List.length_cons,List.length_nil,cut_length,List.length_take,List.length_drop,List.length_map]; (first|lia -abstractProof|omega)) | (simp; (first|lia -abstractProof|omega)))) | with_reducible refine size_and (by simp only [List.length_cons,List.length_nil]; (first|lia -abstractProof|omega)) ?_)
  all_goals first
    | exact ⟨rfl,rfl⟩
    | (exfalso; (first|lia -abstractProof|omega))
    | trace_state
section
variable {css : List Nat} {skp : Bool} {p root si : Nat} {nl : V} {hp : List AObj} {xs : List V} {e : Env} {Z : AF → St → Prop} {k5 : Nat}
theorem turn_w (hz : css.length ≤ 1000) (hp0 : p < css.length) (hw : ch css p = 10) (hg : GL C e [(oS "len",((.raw (.builtin "len")) : V)),(oS "WhitespaceToken",((.cls 11) : V)),(oS "_consume_unicode_range",((.fn 37) : V)),(oS "UnicodeRangeToken",((.cls 18) : V)),(oS "LiteralToken",((.cls 12) : V)),(oS "_is_ident_start",((.fn 32) : V)),(oS "_consume_ident",((.fn 33) : V)),(oS "IdentToken",((.cls 13) : V)),(oS "ascii_lower",((.fn 2) : V)),(oS "_consume_url",((.fn 36) : V)),(oS "serialize_url",((.fn 6) : V)),(oS "URLToken",((.cls 17) : V)),(oS "ParseError",((.cls 9) : V)),(oS "FunctionBlock",((.cls 25) : V)),(oS "_number_end",((.fn 28) : V)),(oS "int",((.raw (.type "int")) : V)),(oS "DimensionToken",((.cls 21) : V)),(oS "PercentageToken",((.cls 20) : V)),(oS "NumberToken",((.cls 19) : V)),(oS "AtKeywordToken",((.cls 14) : V)),(oS "ord",((.raw (.builtin "ord")) : V)),(oS "HashToken",((.cls 15) : V)),(oS "CurlyBracketsBlock",((.cls 24) : V)),(oS "SquareBracketsBlock",((.cls 23) : V)),(oS "ParenthesesBlock",((.cls 22) : V)),(oS "_consume_quoted_string",((.fn 34) : V)),(oS "serialize_string_value",((.fn 5) : V)),(oS "StringToken",((.cls 16) : V)),(oS "Comment",((.cls 10) : V))]) (hx : hp[root]? = some (.list xs)) (hxz : xs.length ≤ 10000)
    (hZ : ∀ vars,Fgt vars (hvars css skp p (skip isWs css (p + 1)) root root si .none) → Z .cont ⟨vars,pushL hp root (.inst 11 [.str (cut css p (skip isWs css (p + 1))),colV css p,lineV css p])⟩) :
    TF C 8 e (execs (pWhile.drop 5) e) ⟨tvars css skp p root root si .none nl,hp⟩ Z := by
  refine lit1 rfl ?_
  unfold tvars
  refine S_If (B_by true ?_ ?_)
  · repeat' (first | (with_reducible refine U_name ?_; with_reducible refine N_x ?_) | (with_reducible refine U_str ?_; with_reducible refine T_lit ?_) | (with_reducible refine U_bc1 ?_; with_reducible refine B_Compare ?_) | with_reducible refine Cmp_in1 ?_)
    exact ⟨(ws_dec _).trans (by rw [hw]; rfl),rfl⟩
  refine ite_tt ?_
  exact br_ws hz hp0 nofun hg hx hxz hZ
theorem turn_q (hz : css.length ≤ 1000) (hp0 : p < css.length) (hq : ch css p = 34 ∨ ch css p = 39) (hg : GL C e [(oS "len",((.raw (.builtin "len")) : V)),(oS "WhitespaceToken",((.cls 11) : V)),(oS "_consume_unicode_range",((.fn 37) : V)),(oS "UnicodeRangeToken",((.cls 18) : V)),(oS "LiteralToken",((.cls 12) : V)),(oS "_is_ident_start",((.fn 32) : V)),(oS "_consume_ident",((.fn 33) : V)),(oS "IdentToken",((.cls 13) : V)),(oS "ascii_lower",((.fn 2) : V)),(oS "_consume_url",((.fn 36) : V)),(oS "serialize_url",((.fn 6) : V)),(oS "URLToken",((.cls 17) : V)),(oS "ParseError",((.cls 9) : V)),(oS "FunctionBlock",((.cls 25) : V)),(oS "_number_end",((.fn 28) : V)),(oS "int",((.raw (.type "int")) : V)),(oS "DimensionToken",((.cls 21) : V)),(oS "PercentageToken",((.cls 20) : V)),(oS "NumberToken",((.cls 19) : V)),(oS "AtKeywordToken",((.cls 14) : V)),(oS "ord",((.raw (.builtin "ord")) : V)),(oS "HashToken",((.cls 15) : V)),(oS "CurlyBracketsBlock",((.cls 24) : V)),(oS "SquareBracketsBlock",((.cls 23) : V)),(oS "ParenthesesBlock",((.cls 22) : V)),(oS "_consume_quoted_string",((.fn 34) : V)),(oS "serialize_string_value",((.fn 5) : V)),(oS "StringToken",((.cls 16) : V)),(oS "Comment",((.cls 10) : V))])
    (h : ∀ nl,TF C 8 e (execs (thn (els (els (els (els (els (els (els (els cB))))))))) e) ⟨tvarsB css skp p root root si .none nl,hp⟩ Z) :
    TF C 8 e (execs (pWhile.drop 5) e) ⟨tvars css skp p root root si .none nl,hp⟩ Z := by
  have hw : isWs (ch css p) = false := by rcases hq with h | h <;> rw [h] <;> rfl
  have ha : startsAt css [45,45,62] p = false := by
    rw [starts_cons,show (ch css p == 45) = false by rcases hq with h | h <;> rw [h] <;> rfl,Bool.and_false,Bool.false_and]
  have hi : identStart css p = false := by
    unfold identStart
    rcases hq with h | h <;> rw [h] <;> rfl
  refine lit1 rfl ?_
  unfold tvars
  refine S_If (B_by false ?_ ?_)
  · repeat' (first | (with_reducible refine U_name ?_; with_reducible refine N_x ?_) | (with_reducible refine U_str ?_; with_reducible refine T_lit ?_) | (with_reducible refine U_bc1 ?_; with_reducible refine B_Compare ?_) | with_reducible refine Cmp_in1 ?_)
    exact ⟨(ws_dec _).trans hw,rfl⟩
  refine ite_ff ?_
  refine S_IfE (B_by false ?_ ?_)
  · repeat' (first | (with_reducible refine U_name ?_; with_reducible refine N_x ?_) | with_reducible refine T_nat ?_ | (with_reducible refine U_str ?_; with_reducible refine T_lit ?_) | with_reducible refine T_BinOp ?_ | (with_reducible refine U_sub ?_; with_reducible refine T_Sub ?_) | (with_reducible refine U_bc1 ?_; with_reducible refine B_Compare ?_) | with_reducible refine B_and ?_ | with_reducible refine B_andNil ?_ | with_reducible refine ite_dec (fun _ => ?_) (fun _ => ?_) | with_reducible refine ite_beq (fun _ => ?_) (fun _ => ?_) | with_reducible refine Cmp_ltn ?_ | with_reducible refine Cmp_eq1 ?_ | with_reducible refine Cmp_in1 ?_ | with_reducible refine Bin_addn ?_ | (with_reducible refine U_ich ?_; with_reducible refine Item_ch ?_))
    all_goals first
      | exact ⟨rfl,rfl⟩
      | (rename_i a _ _ _; simp only [List.mem_cons,List.not_mem_nil,or_false] at a; (first|lia -abstractProof|omega))
  refine ite_ff ?_
  refine S_IfE (B_by false ?_ ?_)
  · repeat' (first | (with_reducible refine U_name ?_; with_reducible refine N_x ?_) | (with_reducible refine U_str ?_; with_reducible refine T_lit ?_) | (with_reducible refine U_meth "startswith" ?_; with_reducible refine M_startswith ?_) | with_reducible refine B_val ?_ | (with_reducible refine U_acons ?_; with_reducible refine A_cons ?_) | with_reducible refine A_nil ?_ | (with_reducible refine U_raw "str.startswith" ?_; with_reducible refine Ap_startswith (by decide) ?_) | (with_reducible refine U_ex1 ?_; with_reducible refine ⟨_,rfl,?_⟩) | with_reducible refine Truth_bool ?_)
    exact ⟨ha,rfl⟩
  refine ite_ff ?_
  refine S_IfE (B_by false ?_ ?_)
  · repeat' (first | (with_reducible refine U_name ?_; with_reducible refine N_x ?_) | (with_reducible refine U_call ?_; with_reducible refine Q_call (by assumption) ?_) | with_reducible refine B_val ?_ | (with_reducible refine U_acons ?_; with_reducible refine A_cons ?_) | with_reducible refine A_nil ?_ | with_reducible refine Truth_bool ?_ | (with_reducible refine U_fn 32 ?_; with_reducible refine Ap_is (Calls.lift (identStart_call (by (first | assumption | (first|lia -abstractProof|omega) | (simp only [List.flatten_append,List.flatten_cons,List.flatten_nil,List.append_nil,List.length_append,List.length_cons,List.length_nil,cut_length,List.length_take,List.length_drop,List.length_map]; (first|lia -abstractProof|omega)) | (simp; (first|lia -abstractProof|omega)))) (by (first | assumption | (first|lia -abstractProof|omega) | (simp only [List.flatten_append,List.flatten_cons,List.flatten_nil,List.append_nil,List.length_append,List.length_cons,List.length_nil,cut_length,List.length_take,List.length_drop,List.length_map]; (first|lia -abstractProof|omega)) | (simp; (first|lia -abstractProof|omega))))) (by (first|lia -abstractProof|omega))) ?_))
    exact ⟨hi,rfl⟩
  refine ite_ff ?_
  repeat' (first | (with_reducible refine U_as1 ?_; with_reducible refine S_Assign ?_) | with_reducible refine T_nil ?_ | (with_reducible refine U_name ?_; with_reducible refine N_x ?_) | (with_reducible refine U_call ?_; with_reducible refine Q_call (by assumption) ?_) | (with_reducible refine U_acons ?_; with_reducible refine A_cons ?_) | with_reducible refine A_nil ?_ | with_reducible refine K_next ?_)
  refine Ap_is (Calls.lift (num_q hp0 hq hz) (by (first|lia -abstractProof|omega))) ?_
  repeat' (first | (with_reducible refine U_asg ?_; with_reducible refine A_x ?_) | (with_reducible refine U_atup ?_; with_reducible refine Asg_Tuple ?_) | with_reducible refine AsgL_cons ?_ | with_reducible refine AsgL_nil ?_)
  refine lit1 rfl ?_
  refine S_IfE (B_by false ?_ ?_)
  · repeat' (first | (with_reducible refine U_name ?_; with_reducible refine N_x ?_) | with_reducible refine T_none ?_ | (with_reducible refine U_bc1 ?_; with_reducible refine B_Compare ?_) | with_reducible refine Cmp_isNotNone rfl ?_)
    exact ⟨rfl,rfl⟩
  refine ite_ff ?_
  refine S_IfE (B_by false ?_ ?_)
  · repeat' (first | (with_reducible refine U_name ?_; with_reducible refine N_x ?_) | (with_reducible refine U_str ?_; with_reducible refine T_lit ?_) | (with_reducible refine U_bc1 ?_; with_reducible refine B_Compare ?_) | with_reducible refine Cmp_eq1 ?_)
    exact ⟨beq_eq_false_iff_ne.mpr (by (first|lia -abstractProof|omega)),rfl⟩
  refine ite_ff ?_
  refine S_IfE (B_by false ?_ ?_)
  · repeat' (first | (with_reducible refine U_name ?_; with_reducible refine N_x ?_) | (with_reducible refine U_str ?_; with_reducible refine T_lit ?_) | (with_reducible refine U_bc1 ?_; with_reducible refine B_Compare ?_) | with_reducible refine Cmp_eq1 ?_)
    exact ⟨beq_eq_false_iff_ne.mpr (by (first|lia -abstractProof|omega)),rfl⟩
  refine ite_ff ?_
  refine S_IfE (B_by false ?_ ?_)
  · repeat' (first | (with_reducible refine U_name ?_; with_reducible refine N_x ?_) | (with_reducible refine U_str ?_; with_reducible refine T_lit ?_) | (with_reducible refine U_bc1 ?_; with_reducible refine B_Compare ?_) | with_reducible refine Cmp_eq1 ?_)
    exact ⟨beq_eq_false_iff_ne.mpr (by (first|lia -abstractProof|omega)),rfl⟩
  refine ite_ff ?_
  refine S_IfE (B_by false ?_ ?_)
  · repeat' (first | (with_reducible refine U_name ?_; with_reducible refine N_x ?_) | (with_reducible refine U_str ?_; with_reducible refine T_lit ?_) | (with_reducible refine U_bc1 ?_; with_reducible refine B_Compare ?_) | with_reducible refine Cmp_eq1 ?_)
    exact ⟨beq_eq_false_iff_ne.mpr (by (first|lia -abstractProof|omega)),rfl⟩
  refine ite_ff ?_
  refine S_IfE (B_by false ?_ ?_)
  · repeat' (first | (with_reducible refine U_name ?_; with_reducible refine N_x ?_) | (with_reducible refine U_str ?_; with_reducible refine T_lit ?_) | (with_reducible refine U_bc1 ?_; with_reducible refine B_Compare ?_) | with_reducible refine Cmp_eq1 ?_)
    exact ⟨beq_eq_false_iff_ne.mpr (by (first|lia -abstractProof|omega)),rfl⟩
  refine ite_ff ?_
  refine S_IfE (B_by false ?_ ?_)
  · repeat' (first | (with_reducible refine U_name ?_; with_reducible refine N_x ?_) | (with_reducible refine U_bc1 ?_; with_reducible refine B_Compare ?_) | with_reducible refine Cmp_eq_sn ?_)
    exact ⟨rfl,rfl⟩
  refine ite_ff ?_
  refine S_IfE (B_by false ?_ ?_)
  · repeat' (first | (with_reducible refine U_name ?_; with_reducible refine N_x ?_) | (with_reducible refine U_str ?_; with_reducible refine T_lit ?_) | (with_reducible refine U_bc1 ?_; with_reducible refine B_Compare ?_) | with_reducible refine Cmp_in1 ?_)
    exact ⟨decide_eq_false (by rcases hq with h | h <;> rw [h] <;> decide),rfl⟩
  refine ite_ff ?_
  refine S_IfE (B_by true ?_ ?_)
  · repeat' (first | (with_reducible refine U_name ?_; with_reducible refine N_x ?_) | (with_reducible refine U_str ?_; with_reducible refine T_lit ?_) | with_reducible refine T_Tuple ?_ | (with_reducible refine U_bc1 ?_; with_reducible refine B_Compare ?_) | (with_reducible refine U_acons ?_; with_reducible refine A_cons ?_) | with_reducible refine A_nil ?_ | (with_reducible refine U_cin ?_; with_reducible refine Cmp_inT ?_) | with_reducible refine size_and (by simp only [List.length_cons,List.length_nil]; (first|lia -abstractProof|omega)) ?_)
    exact ⟨by rcases hq with h | h <;> rw [h] <;> rfl,rfl⟩
  refine ite_tt ?_
  exact h nl
end
end
end
section
set_option maxRecDepth 20000
set_option maxHeartbeats 4000000
section
variable {C : Cx}
inductive R7 (css : List Nat) : Nat → List V → Prop
  | nil {p : Nat} (h : css.length ≤ p) : R7 css p []
  | ws {p : Nat} {o : List V} (h0 : p < css.length) (hw : ch css p = 10) (t : R7 css (skip isWs css (p + 1)) o) : R7 css p (.inst 11 [.str (cut css p (skip isWs css (p + 1))),colV css p,lineV css p] :: o)
  | str {p q : Nat} {v : List Nat} {o : List V} (h0 : p < css.length) (hc : ch css p = 34 ∨ ch css p = 39) (hr : quo css (ch css p) (p + 1) = (some v,q,false)) (t : R7 css q o) : R7 css p (strTok css p v :: o)
  | eof {p q : Nat} {v : List Nat} {o : List V} (h0 : p < css.length) (hc : ch css p = 34 ∨ ch css p = 39) (hr : quo css (ch css p) (p + 1) = (some v,q,true)) (t : R7 css q o) : R7 css p (strTok css p v :: eofStrE css p :: o)
  | bad {p q : Nat} {b : Bool} {o : List V} (h0 : p < css.length) (hc : ch css p = 34 ∨ ch css p = 39) (hr : quo css (ch css p) (p + 1) = (none,q,b)) (t : R7 css q o) : R7 css p (badStrE css p :: o)
theorem pushL_end {hp : List AObj} {o : List V} {t : V} : pushL (hp ++ [.list o,.list []]) hp.length t = hp ++ [.list (o ++ [t]),.list []] := by
  unfold pushL
  rw [show (hp ++ [AObj.list o,AObj.list []])[hp.length]? = some (.list o) by rw [List.getElem?_append_right (Nat.le_refl _),Nat.sub_self]; rfl]
  dsimp only
  rw [List.set_append_right _ _ (Nat.le_refl _),Nat.sub_self]; rfl
section
variable {l : List Nat} {hp : List AObj} {k5 : Nat} {e : Env} {o : List V}
theorem pcvl7_body (hz : l.length ≤ 1000) (ht : 1 ≤ C.tk) (t5 : hp[k5]? = some (.tab (C.tc 5))) (hR : R7 (nrm l) 0 o) (ho : o.length ≤ 5000) (hg : GL C e [(oS "len",((.raw (.builtin "len")) : V)),(oS "WhitespaceToken",((.cls 11) : V)),(oS "_consume_unicode_range",((.fn 37) : V)),(oS "UnicodeRangeToken",((.cls 18) : V)),(oS "LiteralToken",((.cls 12) : V)),(oS "_is_ident_start",((.fn 32) : V)),(oS "_consume_ident",((.fn 33) : V)),(oS "IdentToken",((.cls 13) : V)),(oS "ascii_lower",((.fn 2) : V)),(oS "_consume_url",((.fn 36) : V)),(oS "serialize_url",((.fn 6) : V)),(oS "URLToken",((.cls 17) : V)),(oS "ParseError",((.cls 9) : V)),(oS "FunctionBlock",((.cls 25) : V)),(oS "_number_end",((.fn 28) : V)),(oS "int",((.raw (.type "int")) : V)),(oS "DimensionToken",((.cls 21) : V)),(oS "PercentageToken",((.cls 20) : V)),(oS "NumberToken",((.cls 19) : V)),(oS "AtKeywordToken",((.cls 14) : V)),(oS "ord",((.raw (.builtin "ord")) : V)),(oS "HashToken",((.cls 15) : V)),(oS "CurlyBracketsBlock",((.cls 24) : V)),(oS "SquareBracketsBlock",((.cls 23) : V)),(oS "ParenthesesBlock",((.cls 22) : V)),(oS "_consume_quoted_string",((.fn 34) : V)),(oS "serialize_string_value",((.fn 5) : V)),(oS "StringToken",((.cls 16) : V)),(oS "Comment",((.cls 10) : V))]) :
    TF C 8 e (execs pBody e) ⟨[(oS "css",V.str l),(oS "skip_comments",V.bool false),(oS "length",V.undef),(oS "token_start_pos",V.undef),(oS "pos",V.undef),(oS "line",V.undef),(oS "last_newline",V.undef),(oS "root",V.undef),(oS "tokens",V.undef),(oS "end_char",V.undef),(oS "stack",V.undef),(oS "newline",V.undef),(oS "column",V.undef),(oS "c",V.undef),(oS "value",V.undef),(oS "start",V.undef),(oS "end",V.undef),(oS "is_url",V.undef),(oS "url_pos",V.undef),(oS "error",V.undef),(oS "repr",V.undef),(oS "error_key",V.undef),(oS "arguments",V.undef),(oS "plain",V.undef),(oS "repr_",V.undef),(oS "int_value",V.undef),(oS "unit",V.undef),(oS "is_identifier",V.undef),(oS "content",V.undef)],hp⟩ (fun f st' => f.val = .own hp.length ∧ st'.hp = hp ++ [.list o,.list []]) := by
  have hzn : (nrm l).length ≤ 1000 := Nat.le_trans (nrm_len l) hz
  refine lit1 rfl ?_
  refine S_Assign ?_
  refine T_replace ht (chg 12 10) (by rfl) (fun z => repl_chg z 12 10) (by decide) ?_
  refine T_replace ht (chg 13 10) (by rfl) (fun z => repl_chg z 13 10) (by decide) ?_
  refine T_replace ht crlf (by rfl) (fun z => repl_crlf z) (by decide) ?_
  refine T_replace ht (chg 0 65533) (by rfl) (fun z => repl_chg z 0 65533) (by decide) ?_
  repeat' (first | (with_reducible refine U_name ?_; with_reducible refine N_x ?_) | (with_reducible refine U_ex1 ?_; with_reducible refine ⟨_,rfl,?_⟩))
  refine ⟨by (first|lia -abstractProof|omega),_,rfl,by rw [chg_len]; (first|lia -abstractProof|omega),_,rfl,Nat.le_trans (crlf_len _) (by rw [chg_len]; (first|lia -abstractProof|omega)),_,rfl,by rw [chg_len]; exact Nat.le_trans (crlf_len _) (by rw [chg_len]; (first|lia -abstractProof|omega)),?_⟩
  rw [show chg 12 10 (chg 13 10 (crlf (chg 0 65533 l))) = nrm l from rfl]
  generalize nrm l = css at hR hzn
  repeat' (first | (with_reducible refine U_as1 ?_; with_reducible refine S_Assign ?_) | (with_reducible refine U_as2 ?_; with_reducible refine S_Assign2 ?_) | (with_reducible refine U_name ?_; with_reducible refine N_x ?_) | with_reducible refine T_nat ?_ | (with_reducible refine U_call ?_; with_reducible refine Q_call (by assumption) ?_) | with_reducible refine T_none ?_ | with_reducible refine T_UnaryOp ?_ | with_reducible refine T_ListN ?_ | (with_reducible refine U_acons ?_; with_reducible refine A_cons ?_) | with_reducible refine A_nil ?_ | (with_reducible refine Ap_len_str ?_ ?_; (first | assumption | (first|lia -abstractProof|omega) | (simp only [List.flatten_append,List.flatten_cons,List.flatten_nil,List.append_nil,List.length_append,List.length_cons,List.length_nil,cut_length,List.length_take,List.length_drop,List.length_map]; (first|lia -abstractProof|omega)) | (simp; (first|lia -abstractProof|omega)))) | (with_reducible refine U_asg ?_; with_reducible refine A_x ?_) | (with_reducible refine U_new ?_; with_reducible refine NewL_i ?_) | with_reducible refine Un_neg ?_)
  try refine Un_neg ?_
  repeat' fail
  refine S_Z (fun n st => ∃ (p t : Nat) (o1 o2 : List V),n = css.length - p ∧ t ≤ p ∧ R7 css p o2 ∧ o = o1 ++ o2 ∧ Fgt st.vars (hvars css false t p hp.length hp.length (hp.length + 1) .none) ∧ st.hp = hp ++ [.list o1,.list []]) css.length ?_ ?_
  · refine ⟨0,0,[],o,rfl,Nat.le_refl _,hR,rfl,?_,?_⟩
    · show Fgt _ (hvars css false 0 0 hp.length hp.length (hp.length + 1) .none)
      have e1 : lineOf css 0 = 1 := by simp [lineOf]
      have e2 : lnOf css 0 = -((1 : Nat) : Int) := rfl
      unfold hvars
      rw [e1,e2,← show (hp ++ [AObj.list []]).length = hp.length + 1 by simp]
      (with_reducible repeat constructor)
    · simp
  rintro n st Z hZ ⟨p,t,o1,o2,rfl,ht,hr7,rfl,hfg,hhp⟩
  obtain ⟨sv,sh⟩ := st
  have hhp : sh = hp ++ [.list o1,.list []] := hhp
  subst hhp
  refine T.forget hfg ?_
  have hx : (hp ++ [AObj.list o1,AObj.list []])[hp.length]? = some (.list o1) := by rw [List.getElem?_append_right (Nat.le_refl _),Nat.sub_self]; rfl
  have ho1 : o1.length ≤ 5000 := by rw [List.length_append] at ho; (first|lia -abstractProof|omega)
  have t5' : (hp ++ [AObj.list o1,AObj.list []])[k5]? = some (.tab (C.tc 5)) := by rw [List.getElem?_append_left (List.getElem?_eq_some_iff.mp t5).1]; exact t5
  by_cases hlt : p < css.length
  · refine B_by true ?_ (ite_tt ?_)
    · unfold hvars
      repeat' (first | (with_reducible refine U_name ?_; with_reducible refine N_x ?_) | (with_reducible refine U_bc1 ?_; with_reducible refine B_Compare ?_) | with_reducible refine Cmp_ltn ?_)
      exact ⟨decide_eq_true hlt,rfl⟩
    refine turn_head (ec := none) hzn ht hlt ecV_ne hg fun nl => ?_
    cases hr7 with
    | nil hle => exact absurd hlt (by (first|lia -abstractProof|omega))
    | @ws _ o2 h0 hw tt =>
      refine turn_w hzn h0 hw hg hx (by (first|lia -abstractProof|omega)) fun vars F => ?_
      have sk := skip_le2 (p := isWs) (l := css) (i := p + 1) (by (first|lia -abstractProof|omega))
      exact hZ.ct (css.length - skip isWs css (p + 1)) _ (by (first|lia -abstractProof|omega)) ⟨_,p,o1 ++ [.inst 11 [.str (cut css p (skip isWs css (p + 1))),colV css p,lineV css p]],o2,rfl,by (first|lia -abstractProof|omega),tt,by rw [List.append_assoc]; rfl,F,by rw [pushL_end]⟩
    | @str _ q v o2 h0 hc hr tt =>
      have ql := quo_len (q := ch css p) (l := css) (i := p + 1) (by (first|lia -abstractProof|omega))
      rw [hr] at ql
      obtain ⟨q1,q2,q3⟩ := ql
      dsimp only at q1 q2
      refine turn_q hzn h0 hc hg fun nl => br_quo1 hzn h0 nofun hg hx (by (first|lia -abstractProof|omega)) t5' hc hr (by have := q3 _ rfl; (first|lia -abstractProof|omega)) fun vars F => ?_
      exact hZ.nx (css.length - q) _ (by (first|lia -abstractProof|omega)) ⟨q,p,o1 ++ [strTok css p v],o2,rfl,by (first|lia -abstractProof|omega),tt,by rw [List.append_assoc]; rfl,F,by rw [pushL_end]; rfl⟩
    | @eof _ q v o2 h0 hc hr tt =>
      have ql := quo_len (q := ch css p) (l := css) (i := p + 1) (by (first|lia -abstractProof|omega))
      rw [hr] at ql
      obtain ⟨q1,q2,q3⟩ := ql
      dsimp only at q1 q2
      refine turn_q hzn h0 hc hg fun nl => br_quo2 hzn h0 nofun hg hx (by (first|lia -abstractProof|omega)) t5' hc hr (by have := q3 _ rfl; (first|lia -abstractProof|omega)) fun vars F => ?_
      exact hZ.nx (css.length - q) _ (by (first|lia -abstractProof|omega)) ⟨q,p,o1 ++ [strTok css p v,eofStrE css p],o2,rfl,by (first|lia -abstractProof|omega),tt,by rw [List.append_assoc]; rfl,F,by rw [pushL_end,pushL_end,List.append_assoc]; rfl⟩
    | @bad _ q b o2 h0 hc hr tt =>
      have ql := quo_len (q := ch css p) (l := css) (i := p + 1) (by (first|lia -abstractProof|omega))
      rw [hr] at ql
      obtain ⟨q1,q2,q3⟩ := ql
      dsimp only at q1 q2
      refine turn_q hzn h0 hc hg fun nl => br_quo3 (v := []) hzn h0 nofun hg hx (by (first|lia -abstractProof|omega)) t5' hc hr fun vars F => ?_
      exact hZ.nx (css.length - q) _ (by (first|lia -abstractProof|omega)) ⟨q,p,o1 ++ [badStrE css p],o2,rfl,by (first|lia -abstractProof|omega),tt,by rw [List.append_assoc]; rfl,F,by rw [pushL_end]; rfl⟩
  · have h2 : o2 = [] := by
      cases hr7 with
      | nil hle => rfl
      | ws h0 _ _ => exact absurd h0 hlt
      | str h0 _ _ _ => exact absurd h0 hlt
      | eof h0 _ _ _ => exact absurd h0 hlt
      | bad h0 _ _ _ => exact absurd h0 hlt
    subst h2
    refine B_by false ?_ (ite_ff ?_)
    · unfold hvars
      repeat' (first | (with_reducible refine U_name ?_; with_reducible refine N_x ?_) | (with_reducible refine U_bc1 ?_; with_reducible refine B_Compare ?_) | with_reducible refine Cmp_ltn ?_)
      exact ⟨decide_eq_false hlt,rfl⟩
    unfold hvars
    repeat' (first | with_reducible refine S_Return ?_ | with_reducible refine T_nil ?_ | (with_reducible refine U_name ?_; with_reducible refine N_x ?_) | with_reducible refine K_next ?_)
    exact ⟨rfl,by rw [List.append_nil]⟩
theorem pcvl7_call (hz : l.length ≤ 1000) (ht : 1 ≤ C.tk) (t5 : hp[k5]? = some (.tab (C.tc 5))) (hR : R7 (nrm l) 0 o) (ho : o.length ≤ 5000) :
    Calls C 9 (.fn 30) [.str l] hp fun v hp' => v = .own hp.length ∧ hp' = hp ++ [.list o,.list []] := by
  refine call_intro (xs := [oS "css",oS "skip_comments"]) (vars0 := [(oS "css",V.str l),(oS "skip_comments",V.bool false),(oS "length",V.undef),(oS "token_start_pos",V.undef),(oS "pos",V.undef),(oS "line",V.undef),(oS "last_newline",V.undef),(oS "root",V.undef),(oS "tokens",V.undef),(oS "end_char",V.undef),(oS "stack",V.undef),(oS "newline",V.undef),(oS "column",V.undef),(oS "c",V.undef),(oS "value",V.undef),(oS "start",V.undef),(oS "end",V.undef),(oS "is_url",V.undef),(oS "url_pos",V.undef),(oS "error",V.undef),(oS "repr",V.undef),(oS "error_key",V.undef),(oS "arguments",V.undef),(oS "plain",V.undef),(oS "repr_",V.undef),(oS "int_value",V.undef),(oS "unit",V.undef),(oS "is_identifier",V.undef),(oS "content",V.undef)]) (gl0 := [(oS "len",((.raw (.builtin "len")) : V)),(oS "WhitespaceToken",((.cls 11) : V)),(oS "_consume_unicode_range",((.fn 37) : V)),(oS "UnicodeRangeToken",((.cls 18) : V)),(oS "LiteralToken",((.cls 12) : V)),(oS "_is_ident_start",((.fn 32) : V)),(oS "_consume_ident",((.fn 33) : V)),(oS "IdentToken",((.cls 13) : V)),(oS "ascii_lower",((.fn 2) : V)),(oS "_consume_url",((.fn 36) : V)),(oS "serialize_url",((.fn 6) : V)),(oS "URLToken",((.cls 17) : V)),(oS "ParseError",((.cls 9) : V)),(oS "FunctionBlock",((.cls 25) : V)),(oS "_number_end",((.fn 28) : V)),(oS "int",((.raw (.type "int")) : V)),(oS "DimensionToken",((.cls 21) : V)),(oS "PercentageToken",((.cls 20) : V)),(oS "NumberToken",((.cls 19) : V)),(oS "AtKeywordToken",((.cls 14) : V)),(oS "ord",((.raw (.builtin "ord")) : V)),(oS "HashToken",((.cls 15) : V)),(oS "CurlyBracketsBlock",((.cls 24) : V)),(oS "SquareBracketsBlock",((.cls 23) : V)),(oS "ParenthesesBlock",((.cls 22) : V)),(oS "_consume_quoted_string",((.fn 34) : V)),(oS "serialize_string_value",((.fn 5) : V)),(oS "StringToken",((.cls 16) : V)),(oS "Comment",((.cls 10) : V))]) (d := 8) rfl ?_ (by rfl) (by rfl) (by rfl) ?_
  · (intro dV doc pm cdv ct an vals hl _ h1 s h2; obtain ⟨T,hT⟩ := h1 rfl; subst hT; obtain ⟨o,n,ho,hs⟩ := h2 T rfl rfl; obtain ⟨a,rfl⟩ := len1 hl; exact ⟨[.bool false],.of_defaults rfl ho hs rfl rfl,.inr ⟨rfl,rfl⟩⟩)
  intro e he hg
  exact pcvl7_body hz ht t5 hR ho hg
end
end
end
section
set_option maxRecDepth 20000
noncomputable def posC (x : Nat × Nat) (c : Nat) : Nat × Nat := if c = 10 then (x.1 + 1,1) else (x.1,x.2 + 1)
noncomputable def posL (l : List Nat) : Nat × Nat := l.foldl posC (1,1)
theorem posL_app (l m : List Nat) : posL (l ++ m) = m.foldl posC (posL l) := List.foldl_append
theorem lastIx_pre {l m : List Nat} : ∀ {b : Nat},b ≤ l.length → lastIx 10 (l ++ m) 0 b = lastIx 10 l 0 b
  | 0,_ => rfl
  | b + 1,h => by
    rw [lastIx,lastIx,lastIx_pre (by (first|lia -abstractProof|omega)),List.getElem?_append_left (by (first|lia -abstractProof|omega))]
noncomputable def PosOk (l : List Nat) : Prop := lineOf l l.length = (posL l).1 ∧ (l.length : Int) - lnOf l l.length = ((posL l).2 : Nat)
theorem posOk_snoc {l : List Nat} {c : Nat} (h : PosOk l) : PosOk (l ++ [c]) := by
  obtain ⟨h1,h2⟩ := h
  unfold PosOk
  rw [posL_app]
  have e1 : lineOf (l ++ [c]) (l ++ [c]).length = lineOf l l.length + if c = 10 then 1 else 0 := by
    unfold lineOf
    rw [List.take_length,List.take_length,List.count_append,List.count_singleton]
    simp only [beq_iff_eq]; (first|lia -abstractProof|omega)
  have e2 : lnOf (l ++ [c]) (l ++ [c]).length = if c = 10 then (l.length : Int) else lnOf l l.length := by
    unfold lnOf rfindV
    rw [List.length_append,List.length_singleton,lastIx,lastIx_pre (Nat.le_refl _)]
    have e3 : (l ++ [c])[l.length]? = some c := last_at
    rw [e3]
    by_cases hc : c = 10
    · subst hc; simp
    · rw [if_neg (by simp [hc]),if_neg hc]
  rw [e1,e2,h1]
  show _ = (posC (posL l) c).1 ∧ _ = (((posC (posL l) c).2 : Nat) : Int)
  unfold posC
  rw [List.length_append,List.length_singleton]
  by_cases hc : c = 10
  · subst hc; exact ⟨rfl,by simp; (first|lia -abstractProof|omega)⟩
  · rw [if_neg hc,if_neg hc,if_neg hc]; exact ⟨rfl,by dsimp only; (first|lia -abstractProof|omega)⟩
theorem posOk_app : ∀ (m l : List Nat),PosOk l → PosOk (l ++ m)
  | [],l,h => by rw [List.append_nil]; exact h
  | c :: m,l,h => by
    have := posOk_app m (l ++ [c]) (posOk_snoc h)
    rwa [List.append_assoc] at this
theorem posOk (l : List Nat) : PosOk l := by
  have := posOk_app l [] ⟨rfl,rfl⟩
  rwa [List.nil_append] at this
theorem line_at {l m : List Nat} : lineV (l ++ m) l.length = .int ((posL l).1 : Nat) := by
  have := (posOk l).1
  unfold lineV lineOf at *
  rw [List.take_append_of_le_length (Nat.le_refl _),this]
theorem col_at {l m : List Nat} : colV (l ++ m) l.length = .int ((posL l).2 : Nat) := by
  have := (posOk l).2
  unfold colV
  congr 1
  rw [← this]
  unfold lnOf rfindV
  rw [lastIx_pre (Nat.le_refl _)]
noncomputable def tokOf (css : List Nat) (x : Nat × Nat × List Nat) : V :=
  if x.1 = 0 then strTok css (css.length - x.2.1) x.2.2
  else if x.1 = 1 then badStrE css (css.length - x.2.1)
  else if x.1 = 2 then eofStrE css (css.length - x.2.1)
  else .inst 11 [.str x.2.2,colV css (css.length - x.2.1),lineV css (css.length - x.2.1)]
theorem told_R7 {s : List Nat} {o : List (Nat × Nat × List Nat)} (h : Told s o) : ∀ (pre : List Nat),R7 (pre ++ s) pre.length (o.map (tokOf (pre ++ s))) := by
  have ch0 : ∀ (pre s : List Nat) (q : Nat),ch (pre ++ q :: s) pre.length = q := fun pre s q => by
    have := ch_sh (pre := pre) (s := q :: s) (k := 0)
    rw [Nat.add_zero] at this; exact this
  have qsh : ∀ (pre s : List Nat) (q : Nat) {r : Option (List Nat)} {k : Nat} {b : Bool},quo s q 0 = (r,k,b) → quo (pre ++ q :: s) (ch (pre ++ q :: s) pre.length) (pre.length + 1) = (r,pre.length + 1 + k,b) := fun pre s q r k b e => by
    rw [ch0]
    have := quo_sh (pre := pre ++ [q]) (s := s) (k := 0) (q := q)
    rw [Nat.add_zero,List.length_append,List.length_singleton,List.append_assoc,e] at this
    exact this
  have nx : ∀ (pre s : List Nat) (q k : Nat),k ≤ s.length → (pre ++ q :: s.take k) ++ s.drop k = pre ++ q :: s ∧ (pre ++ q :: s.take k).length = pre.length + 1 + k := fun pre s q k hk => by
    refine ⟨by rw [List.append_assoc,List.cons_append,List.take_append_drop],?_⟩
    rw [List.length_append,List.length_cons,List.length_take,Nat.min_eq_left hk]; (first|lia -abstractProof|omega)
  have lt : ∀ (pre s : List Nat) (q : Nat),pre.length < (pre ++ q :: s).length := fun pre s q => by rw [List.length_append,List.length_cons]; (first|lia -abstractProof|omega)
  have pl : ∀ (pre s : List Nat) (q : Nat),(pre ++ q :: s).length - (s.length + 1) = pre.length := fun pre s q => by rw [List.length_append,List.length_cons]; (first|lia -abstractProof|omega)
  induction h with
  | nil => exact fun pre => .nil (by simp)
  | @str q s v k o hq hr hk t ih =>
    intro pre
    have n := nx pre s q k hk
    have ih := ih (pre ++ q :: s.take k)
    rw [n.1,n.2] at ih
    have := R7.str (lt pre s q) (by rw [ch0]; exact hq) (qsh pre s q hr) ih
    rw [List.map_cons]
    unfold tokOf
    rw [if_pos rfl]
    dsimp only
    rw [pl]
    exact this
  | @bad q s k o hq hr hk t ih =>
    intro pre
    have n := nx pre s q k hk
    have ih := ih (pre ++ q :: s.take k)
    rw [n.1,n.2] at ih
    have := R7.bad (lt pre s q) (by rw [ch0]; exact hq) (qsh pre s q hr) ih
    rw [List.map_cons]
    unfold tokOf
    rw [if_neg (by simp),if_pos rfl]
    dsimp only
    rw [pl]
    exact this
  | @eof q s v k o hq hr hk t ih =>
    intro pre
    have n := nx pre s q k hk
    have ih := ih (pre ++ q :: s.take k)
    rw [n.1,n.2] at ih
    have := R7.eof (lt pre s q) (by rw [ch0]; exact hq) (qsh pre s q hr) ih
    rw [List.map_cons,List.map_cons]
    have e1 : tokOf (pre ++ q :: s) (0,s.length + 1,v) = strTok (pre ++ q :: s) pre.length v := by unfold tokOf; rw [if_pos rfl]; dsimp only; rw [pl]
    have e2 : tokOf (pre ++ q :: s) (2,s.length + 1,[]) = eofStrE (pre ++ q :: s) pre.length := by unfold tokOf; rw [if_neg (by simp),if_neg (by simp),if_pos rfl]; dsimp only; rw [pl]
    rw [e1,e2]
    exact this
  | @ws s o hs t ih =>
    intro pre
    have ih := ih (pre ++ [10])
    rw [List.append_assoc,List.length_append,List.length_singleton] at ih
    have ih : R7 (pre ++ 10 :: s) (pre.length + 1) (o.map (tokOf (pre ++ 10 :: s))) := ih
    have sk : skip isWs (pre ++ 10 :: s) (pre.length + 1) = pre.length + 1 := skip_stop (by
      rintro ⟨h1,h2⟩
      rcases hs with rfl | ⟨q,s',rfl,hq⟩
      · rw [List.length_append,List.length_singleton] at h1; (first|lia -abstractProof|omega)
      · have := ch0 (pre ++ [10]) s' q
        rw [List.append_assoc,List.length_append,List.length_singleton] at this
        have this : ch (pre ++ 10 :: q :: s') (pre.length + 1) = q := this
        rw [this] at h2
        rcases hq with rfl | rfl <;> cases h2)
    have ct : cut (pre ++ 10 :: s) pre.length (pre.length + 1) = [10] := by
      unfold cut
      rw [List.drop_left,show pre.length + 1 - pre.length = 1 by (first|lia -abstractProof|omega)]; rfl
    have := R7.ws (lt pre s 10) (ch0 pre s 10) (by rw [sk]; exact ih)
    rw [sk,ct] at this
    rw [List.map_cons]
    unfold tokOf
    rw [if_neg (by simp),if_neg (by simp),if_neg (by simp)]
    dsimp only
    rw [pl]
    exact this
theorem told_len {s : List Nat} {o : List (Nat × Nat × List Nat)} (h : Told s o) : o.length ≤ 2 * s.length ∧ (∀ x ∈ o,1 ≤ x.2.1 ∧ x.2.1 ≤ s.length ∧ x.1 ≤ 3) := by
  have ex : ∀ {s : List Nat} {k : Nat} {o : List (Nat × Nat × List Nat)},(∀ x ∈ o,1 ≤ x.2.1 ∧ x.2.1 ≤ (s.drop k).length ∧ x.1 ≤ 3) → ∀ x ∈ o,1 ≤ x.2.1 ∧ x.2.1 ≤ s.length + 1 ∧ x.1 ≤ 3 := fun h x hx => by
    have := h x hx
    rw [List.length_drop] at this
    (first|lia -abstractProof|omega)
  induction h with
  | nil => exact ⟨Nat.zero_le _,nofun⟩
  | @str q s v k o hq hr hk t ih =>
    refine ⟨?_,fun x hx => ?_⟩
    · have := ih.1; rw [List.length_drop] at this; rw [List.length_cons,List.length_cons]; (first|lia -abstractProof|omega)
    · rw [List.length_cons]
      rcases List.mem_cons.mp hx with rfl | hx
      · exact ⟨Nat.succ_pos _,Nat.le_refl _,Nat.zero_le _⟩
      · exact ex ih.2 x hx
  | @bad q s k o hq hr hk t ih =>
    refine ⟨?_,fun x hx => ?_⟩
    · have := ih.1; rw [List.length_drop] at this; rw [List.length_cons,List.length_cons]; (first|lia -abstractProof|omega)
    · rw [List.length_cons]
      rcases List.mem_cons.mp hx with rfl | hx
      · exact ⟨Nat.succ_pos _,Nat.le_refl _,by simp⟩
      · exact ex ih.2 x hx
  | @eof q s v k o hq hr hk t ih =>
    refine ⟨?_,fun x hx => ?_⟩
    · have := ih.1; rw [List.length_drop] at this; rw [List.length_cons,List.length_cons,List.length_cons]; (first|lia -abstractProof|omega)
    · rw [List.length_cons]
      rcases List.mem_cons.mp hx with rfl | hx
      · exact ⟨Nat.succ_pos _,Nat.le_refl _,Nat.zero_le _⟩
      · rcases List.mem_cons.mp hx with rfl | hx
        · exact ⟨Nat.succ_pos _,Nat.le_refl _,by simp⟩
        · exact ex ih.2 x hx
  | @ws s o hs t ih =>
    refine ⟨?_,fun x hx => ?_⟩
    · have := ih.1; rw [List.length_cons,List.length_cons]; (first|lia -abstractProof|omega)
    · rw [List.length_cons]
      rcases List.mem_cons.mp hx with rfl | hx
      · exact ⟨Nat.succ_pos _,Nat.le_refl _,Nat.le_refl _⟩
      · have := ih.2 x hx; (first|lia -abstractProof|omega)
abbrev Row7 := List Nat × (Nat × Nat) × List Nat
noncomputable def strS : List Nat := [115,116,114,105,110,103]
noncomputable def wsS : List Nat := [119,104,105,116,101,115,112,97,99,101]
noncomputable def errS7 : List Nat := [101,114,114,111,114]
noncomputable def badS : List Nat := [98,97,100,45,115,116,114,105,110,103]
noncomputable def eofS : List Nat := [101,111,102,45,105,110,45,115,116,114,105,110,103]
noncomputable def kind7 (k : Nat) : List Nat := if k = 0 then strS else if k = 3 then wsS else errS7
noncomputable def word7 (k : Nat) (v : List Nat) : List Nat := if k = 1 then badS else if k = 2 then eofS else v
noncomputable def place7 (css : List Nat) (left : Nat) : Nat × Nat := posL (css.take (css.length - left))
noncomputable def rowOf7 (css : List Nat) (x : Nat × Nat × List Nat) : Row7 := (kind7 x.1,place7 css x.2.1,word7 x.1 x.2.2)
theorem place_tok {css : List Nat} {left : Nat} (h : left ≤ css.length) : lineV css (css.length - left) = .int ((place7 css left).1 : Nat) ∧ colV css (css.length - left) = .int ((place7 css left).2 : Nat) := by
  have e : css.take (css.length - left) ++ css.drop (css.length - left) = css := List.take_append_drop ..
  have l : (css.take (css.length - left)).length = css.length - left := by rw [List.length_take]; (first|lia -abstractProof|omega)
  have h1 := line_at (l := css.take (css.length - left)) (m := css.drop (css.length - left))
  have h2 := col_at (l := css.take (css.length - left)) (m := css.drop (css.length - left))
  rw [e,l] at h1 h2
  exact ⟨h1,h2⟩
noncomputable def places7 (rest : List (List Nat)) : List (Nat × Nat) := (List.range rest.length).map fun i => posL ((rest.map nsg).take i)
theorem sgn_end {x : List Nat} (h : sgnOk x) : (ends.contains x = true) ↔ nsg x = 10 := by
  rcases h with rfl | ⟨c,rfl⟩
  · exact ⟨fun _ => rfl,fun _ => rfl⟩
  · unfold nsg ends
    by_cases h0 : c = 0
    · subst h0; decide
    by_cases h1 : c = 10
    · subst h1; decide
    by_cases h2 : c = 13
    · subst h2; decide
    by_cases h3 : c = 12
    · subst h3; decide
    simp [h0,h1,h2,h3]
end
section
set_option maxRecDepth 20000
set_option maxHeartbeats 4000000
section
variable {C : Cx}
noncomputable def hexT : List (List Nat) := [hexLo,hexUp]
theorem ends_call {hp : List AObj} : Calls C 2 (.fn 39) [] hp fun v hp' => v = .lst (ends.map V.str) ∧ hp' = hp := by
  refine Calls.mono (Calls.settle (Q := fun xs => xs = ends.map V.str) ?_) (fun v hp' h => by obtain ⟨h,xs,rfl,rfl⟩ := h; exact ⟨rfl,h⟩)
  refine call_intro (xs := []) (vars0 := []) (gl0 := []) (d := 1) rfl ?_ (by rfl) (by rfl) (by rfl) ?_
  · (intro dV doc pm cdv ct an vals hl h0 _ s _; have hq := h0 rfl; subst hq; obtain rfl := len0 hl; exact ⟨[],.of_eq (by kernel_rfl),.inl ⟨rfl,rfl⟩⟩)
  intro e he hg
  repeat' (first | with_reducible refine S_Return ?_ | (with_reducible refine U_str ?_; with_reducible refine T_lit ?_) | with_reducible refine T_ListN ?_ | (with_reducible refine U_acons ?_; with_reducible refine A_cons ?_) | with_reducible refine A_nil ?_ | (with_reducible refine U_new ?_; with_reducible refine NewL_i ?_))
  exact ⟨_,_,_,rfl,rfl,Nat.le_refl _,last_at,rfl,rfl⟩
theorem hexT_call {hp : List AObj} : Calls C 2 (.fn 41) [] hp fun v hp' => v = .lst (hexT.map V.str) ∧ hp' = hp := by
  refine Calls.mono (Calls.settle (Q := fun xs => xs = hexT.map V.str) ?_) (fun v hp' h => by obtain ⟨h,xs,rfl,rfl⟩ := h; exact ⟨rfl,h⟩)
  refine call_intro (xs := []) (vars0 := []) (gl0 := []) (d := 1) rfl ?_ (by rfl) (by rfl) (by rfl) ?_
  · (intro dV doc pm cdv ct an vals hl h0 _ s _; have hq := h0 rfl; subst hq; obtain rfl := len0 hl; exact ⟨[],.of_eq (by kernel_rfl),.inl ⟨rfl,rfl⟩⟩)
  intro e he hg
  repeat' (first | with_reducible refine S_Return ?_ | (with_reducible refine U_str ?_; with_reducible refine T_lit ?_) | with_reducible refine T_ListN ?_ | (with_reducible refine U_acons ?_; with_reducible refine A_cons ?_) | with_reducible refine A_nil ?_ | (with_reducible refine U_new ?_; with_reducible refine NewL_i ?_))
  exact ⟨_,_,_,rfl,rfl,Nat.le_refl _,last_at,rfl,rfl⟩
theorem plainT_call {hp : List AObj} : Calls C 2 (.fn 42) [] hp fun v hp' => v = .lst (plainT.map V.str) ∧ hp' = hp := by
  refine Calls.mono (Calls.settle (Q := fun xs => xs = plainT.map V.str) ?_) (fun v hp' h => by obtain ⟨h,xs,rfl,rfl⟩ := h; exact ⟨rfl,h⟩)
  refine call_intro (xs := []) (vars0 := []) (gl0 := []) (d := 1) rfl ?_ (by rfl) (by rfl) (by rfl) ?_
  · (intro dV doc pm cdv ct an vals hl h0 _ s _; have hq := h0 rfl; subst hq; obtain rfl := len0 hl; exact ⟨[],.of_eq (by kernel_rfl),.inl ⟨rfl,rfl⟩⟩)
  intro e he hg
  repeat' (first | with_reducible refine S_Return ?_ | (with_reducible refine U_str ?_; with_reducible refine T_lit ?_) | with_reducible refine T_ListN ?_ | (with_reducible refine U_acons ?_; with_reducible refine A_cons ?_) | with_reducible refine A_nil ?_ | (with_reducible refine U_new ?_; with_reducible refine NewL_i ?_))
  exact ⟨_,_,_,rfl,rfl,Nat.le_refl _,last_at,rfl,rfl⟩
theorem escT_call {hp : List AObj} : Calls C 2 (.fn 43) [] hp fun v hp' => v = .lst (escT.map fun c => V.str [c]) ∧ hp' = hp := by
  refine Calls.mono (Calls.settle (Q := fun xs => xs = escT.map fun c => V.str [c]) ?_) (fun v hp' h => by obtain ⟨h,xs,rfl,rfl⟩ := h; exact ⟨rfl,h⟩)
  refine call_intro (xs := []) (vars0 := []) (gl0 := []) (d := 1) rfl ?_ (by rfl) (by rfl) (by rfl) ?_
  · (intro dV doc pm cdv ct an vals hl h0 _ s _; have hq := h0 rfl; subst hq; obtain rfl := len0 hl; exact ⟨[],.of_eq (by kernel_rfl),.inl ⟨rfl,rfl⟩⟩)
  intro e he hg
  repeat' (first | with_reducible refine S_Return ?_ | (with_reducible refine U_str ?_; with_reducible refine T_lit ?_) | with_reducible refine T_ListN ?_ | (with_reducible refine U_acons ?_; with_reducible refine A_cons ?_) | with_reducible refine A_nil ?_ | (with_reducible refine U_new ?_; with_reducible refine NewL_i ?_))
  exact ⟨_,_,_,rfl,rfl,Nat.le_refl _,last_at,rfl,rfl⟩
theorem fmod_nat {i : Int} {n : Nat} (h : 0 < n) : i.fmod (n : Int) = ((i.fmod n).toNat : Nat) ∧ (i.fmod n).toNat < n := by
  have h1 := Int.fmod_nonneg_of_pos i (show (0 : Int) < n by (first|lia -abstractProof|omega))
  have h2 := Int.fmod_lt_of_pos i (show (0 : Int) < n by (first|lia -abstractProof|omega))
  (first|lia -abstractProof|omega)
theorem slc_take {α : Type} {f : α → V} {l : List α} {k : Nat} : slc (l.map f) none (some (k : Int)) = (l.take k).map f := by
  unfold slc norm
  simp only [Option.elim_none,Option.elim_some,List.drop_zero,Nat.sub_zero,List.length_map]
  rw [if_neg (by (first|lia -abstractProof|omega)),← List.map_take]
  congr 1
  by_cases h : k ≤ l.length
  · rw [show (max 0 (min (k : Int) (l.length : Int))).toNat = k by (first|lia -abstractProof|omega)]
  · rw [show (max 0 (min (k : Int) (l.length : Int))).toNat = l.length by (first|lia -abstractProof|omega),List.take_of_length_le (Nat.le_refl _),List.take_of_length_le (by (first|lia -abstractProof|omega))]
theorem lineEnd_call {w : Int} {rest : List (List Nat)} {r : Nat} {hp : List AObj} (hr : hp[r]? = some (.list (rest.map V.str))) (hz : rest.length ≤ 1000) (hf : Fine rest) : Calls C 3 (.fn 44) [.int w,.own r] hp fun v hp' => v = .str (lineEnd w rest) ∧ hp' = hp := by
  refine Calls.trim ?_
  refine call_intro (xs := [oS "way",oS "rest"]) (vars0 := [(oS "way",V.int w),(oS "rest",V.own r),(oS "sign",V.undef)]) (gl0 := [(oS "_law_ENDS",((.fn 39) : V))]) (d := 2) rfl ?_ (by rfl) (by rfl) (by rfl) ?_
  · (first | (intro dV doc pm cdv ct an vals hl _ h1 s h2; obtain ⟨T,hT⟩ := h1 rfl; subst hT; obtain ⟨o,n,ho,hs⟩ := h2 T rfl rfl; match vals,hl with | [a],_ => exact ⟨[.bool false],.of_defaults rfl ho hs rfl rfl,.inr ⟨rfl,rfl⟩⟩) | (intro dV doc pm cdv ct an vals hl _ h1 s h2; obtain ⟨T,hT⟩ := h1 rfl; subst hT; obtain ⟨o,n,ho,hs⟩ := h2 T rfl rfl; match vals,hl with | [a,b],_ => exact ⟨[],.of_defaults rfl ho hs rfl rfl,.inl ⟨rfl,rfl⟩⟩) | (intro dV doc pm cdv ct an vals hl h0 _ s _; have hq := h0 rfl; subst hq; obtain ⟨a,b,rfl⟩ := len2 hl; exact ⟨[],.of_eq (by kernel_rfl),.inl ⟨rfl,rfl⟩⟩))
  intro e he hg
  repeat' (first | (with_reducible refine U_as1 ?_; with_reducible refine S_Assign ?_) | (with_reducible refine U_name ?_; with_reducible refine N_x ?_) | with_reducible refine T_nat ?_ | with_reducible refine T_BinOp ?_ | (with_reducible refine U_call ?_; with_reducible refine Q_call (by assumption) ?_) | (with_reducible refine U_sub ?_; with_reducible refine T_Sub ?_) | with_reducible refine A_nil ?_ | (with_reducible refine U_fn 39 ?_; with_reducible refine Ap_is (Calls.lift ends_call (by (first|lia -abstractProof|omega))) ?_))
  refine Bin_mod (by decide) ?_
  obtain ⟨h1,h2⟩ := fmod_nat (i := w) (n := 4) (by decide)
  rw [h1]
  refine Item_at LstAt.lst (get_at h2) (by decide) ?_
  rw [show at_ ends (w.fmod ((4 : Nat) : Int)).toNat = endOf w from rfl]
  repeat' (first | with_reducible refine S_Return ?_ | (with_reducible refine U_name ?_; with_reducible refine N_x ?_) | (with_reducible refine U_str ?_; with_reducible refine T_lit ?_) | with_reducible refine T_IfExp ?_ | (with_reducible refine U_bc1 ?_; with_reducible refine B_Compare ?_) | with_reducible refine B_and ?_ | with_reducible refine ite_ff ?_ | with_reducible refine ite_in (fun _ => ?_) (fun _ => ?_) | with_reducible refine Cmp_eqs ?_ | (with_reducible refine U_asg ?_; with_reducible refine A_x ?_))
  · rename_i q
    have q : endOf w = [13] := by simpa using q
    refine T_SliceLst ?_
    repeat' (first | (with_reducible refine U_name ?_; with_reducible refine N_x ?_))
    refine P_none (P_some ?_)
    repeat' (first | with_reducible refine T_nat ?_ | (with_reducible refine U_ex1 ?_; with_reducible refine ⟨_,rfl,?_⟩))
    refine ⟨_,LstAt.own hr,by (first | assumption | (first|lia -abstractProof|omega) | (simp only [List.flatten_append,List.flatten_cons,List.flatten_nil,List.append_nil,List.length_append,List.length_cons,List.length_nil,cut_length,List.length_take,List.length_drop,List.length_map]; (first|lia -abstractProof|omega)) | (simp; (first|lia -abstractProof|omega))),?_⟩
    rw [slc_take]
    repeat' (first | (with_reducible refine U_str ?_; with_reducible refine T_lit ?_) | with_reducible refine T_ListN ?_ | (with_reducible refine U_acons ?_; with_reducible refine A_cons ?_) | with_reducible refine A_nil ?_ | (with_reducible refine U_new ?_; with_reducible refine NewL_i ?_))
    refine Cmp_eqOL (l := rest.take 1) (m := [[10]]) (LstAt.own (low_at last_at)) (LstAt.own last_at) (fun x hx => (hf x (List.mem_of_mem_take hx)).2) (by decide) ?_
    repeat' (first | (with_reducible refine U_name ?_; with_reducible refine N_x ?_) | (with_reducible refine U_str ?_; with_reducible refine T_lit ?_) | with_reducible refine B_andNil ?_ | with_reducible refine ite_tt ?_ | with_reducible refine ite_ff ?_ | with_reducible refine ite_dec (fun _ => ?_) (fun _ => ?_))
    · rename_i q2
      exact ⟨_,List.append_assoc ..,rfl,by unfold lineEnd; rw [if_pos ⟨q,q2⟩]; rfl,rfl⟩
    · rename_i q2
      exact ⟨_,List.append_assoc ..,rfl,by unfold lineEnd; rw [if_neg (fun h => q2 h.2)]; rfl,rfl⟩
  · rename_i q
    have q : ¬ endOf w = [13] := by simpa using q
    exact ⟨[],(List.append_nil _).symm,rfl,by unfold lineEnd; rw [if_neg (fun h => q h.1)]; rfl,rfl⟩
end
end
section
set_option maxRecDepth 20000
set_option maxHeartbeats 4000000
section
variable {C : Cx}
theorem Bin_isub {C : Cx} {d : Nat} {e : Env} {st : St} {i j : Int} {Q : V → St → Prop} (h : Q (.int (i - j)) st) : Bin C d e (inplaceOp .Sub) (.int i) (.int j) st Q := by
  rintro A kp B σ s va vb hA hS ⟨t,rfl⟩ ⟨u,rfl⟩
  exact PyProof.Rows.isub_int (Post.here (hS.toks _ _) (show Rel C B σ (.int (i - j)) (.int (i - j) s.toks) from ⟨_,rfl⟩) h)
theorem Truth_str {C : Cx} {d : Nat} {e : Env} {st : St} {l : List Nat} {Q : Bool → St → Prop} (hz : l.length ≤ 16777216) (h : Q (!l.isEmpty) st) : Truth C d e (.str l) st Q := by
  rintro A kp B σ s va hA hS ⟨x,t,rfl,hx⟩
  have hl := str_len hx
  refine P.truthy_str (by rw [hl]; (first|lia -abstractProof|omega)) (Post.here (hS.toks (s.toks + 1 + 1) s.drawn (by (first|lia -abstractProof|omega))) rfl ?_)
  have : ((x.length : Int) != 0) = (!l.isEmpty) := by
    rw [hl]
    cases l with
    | nil => rfl
    | cons a l => rw [Bool.eq_iff_iff]; simp; (first|lia -abstractProof|omega)
  rw [this]; exact h
theorem lawHex_call {w : Int} {rest : List (List Nat)} {r : Nat} {hp : List AObj} (hr : hp[r]? = some (.list (rest.map V.str))) (hz : rest.length ≤ 1000) (hf : Fine rest) : Calls C 4 (.fn 45) [.int w,.own r] hp fun v hp' => ∃ k junk,v = .tup [.own k,.str [valOf7 w]] ∧ hp' = hp ++ junk ∧ hp'[k]? = some (.list ((hexSigns w rest).map V.str)) := by
  refine call_intro (xs := [oS "way",oS "rest"]) (vars0 := [(oS "way",V.int w),(oS "rest",V.own r),(oS "figures",V.undef),(oS "code",V.undef),(oS "value",V.undef),(oS "behind",V.undef),(oS "blank",V.undef),(oS "signs",V.undef),(oS "_",V.undef)]) (gl0 := [(oS "chr",((.raw (.builtin "chr")) : V)),(oS "_law_BLANKS",((.lst [.str [32],.str [9],.str [10],.str [13,10],.str [13],.str [12]]) : V)),(oS "_law_HEX",((.fn 41) : V)),(oS "range",((.raw (.type "range")) : V))]) (d := 3) rfl ?_ (by rfl) (by rfl) (by rfl) ?_
  · (first | (intro dV doc pm cdv ct an vals hl _ h1 s h2; obtain ⟨T,hT⟩ := h1 rfl; subst hT; obtain ⟨o,n,ho,hs⟩ := h2 T rfl rfl; match vals,hl with | [a],_ => exact ⟨[.bool false],.of_defaults rfl ho hs rfl rfl,.inr ⟨rfl,rfl⟩⟩) | (intro dV doc pm cdv ct an vals hl _ h1 s h2; obtain ⟨T,hT⟩ := h1 rfl; subst hT; obtain ⟨o,n,ho,hs⟩ := h2 T rfl rfl; match vals,hl with | [a,b],_ => exact ⟨[],.of_defaults rfl ho hs rfl rfl,.inl ⟨rfl,rfl⟩⟩) | (intro dV doc pm cdv ct an vals hl h0 _ s _; have hq := h0 rfl; subst hq; obtain ⟨a,b,rfl⟩ := len2 hl; exact ⟨[],.of_eq (by kernel_rfl),.inl ⟨rfl,rfl⟩⟩))
  intro e he hg
  repeat' (first | (with_reducible refine U_as1 ?_; with_reducible refine S_Assign ?_) | (with_reducible refine U_name ?_; with_reducible refine N_x ?_) | with_reducible refine T_nat ?_ | with_reducible refine T_BinOp ?_)
  refine Bin_mod (by decide) ?_
  obtain ⟨h1,h2⟩ := fmod_nat (i := w) (n := 6) (by decide)
  rw [h1]
  repeat' (first | (with_reducible refine U_as1 ?_; with_reducible refine S_Assign ?_) | (with_reducible refine U_name ?_; with_reducible refine N_x ?_) | with_reducible refine T_nat ?_ | with_reducible refine T_BinOp ?_ | with_reducible refine Bin_addn ?_ | (with_reducible refine U_asg ?_; with_reducible refine A_x ?_))
  rw [show 1 + (w.fmod ((6 : Nat) : Int)).toNat = figs w from rfl]
  refine Bin_mulc (IntMulOk.of_right (by decide)) ?_
  repeat' (first | (with_reducible refine U_name ?_; with_reducible refine N_x ?_) | with_reducible refine T_nat ?_ | with_reducible refine T_BinOp ?_)
  have h2 : (w.fmod 6).toNat < 6 := h2
  have hfg : figs w ≤ 6 := by unfold figs; (first|lia -abstractProof|omega)
  refine Bin_pow (by (first|lia -abstractProof|omega)) (by decide) ?_
  refine Bin_mod (by have := Int.pow_pos (n := 16) (m := figs w) (by decide); show ((16 : Int)) ^ figs w ≠ 0; (first|lia -abstractProof|omega)) ?_
  have hp16 : 0 < 16 ^ figs w := Nat.pow_pos (by decide)
  obtain ⟨h3,h4⟩ := fmod_nat (i := w * 70001) (n := 16 ^ figs w) hp16
  rw [show (w * ((70001 : Nat) : Int)).fmod (((16 : Nat) : Int) ^ figs w) = ((code0 w : Nat) : Int) from by rw [← Int.natCast_pow]; exact h3]
  have hc0 : code0 w < 16 ^ figs w := h4
  have hc1 : code0 w < 16777216 := Nat.lt_of_lt_of_le hc0 (Nat.pow_le_pow_right (by decide) hfg)
  repeat' (first | (with_reducible refine U_asg ?_; with_reducible refine A_x ?_))
  refine S_J (fun st => st = ⟨[(oS "way",V.int w),(oS "rest",V.own r),(oS "figures",V.int (figs w : Nat)),(oS "code",V.int (codeOf w : Nat)),(oS "value",V.undef),(oS "behind",V.undef),(oS "blank",V.undef),(oS "signs",V.undef),(oS "_",V.undef)],hp⟩) (T_If ?_) ?_
  · repeat' (first | (with_reducible refine U_aug ?_; with_reducible refine S_Aug ?_) | with_reducible refine T_nil ?_ | (with_reducible refine U_name ?_; with_reducible refine N_x ?_) | with_reducible refine T_nat ?_ | (with_reducible refine U_bc2 ?_; with_reducible refine B_Compare2 ?_) | with_reducible refine ite_ff ?_ | with_reducible refine ite_dec (fun _ => ?_) (fun _ => ?_) | with_reducible refine Cmp_len ?_ | with_reducible refine J_next ?_)
    · rename_i q1 q2
      refine Bin_isub ?_
      rw [show ((code0 w : Nat) : Int) - ((55296 : Nat) : Int) = ((codeOf w : Nat) : Int) from by unfold codeOf; rw [if_pos ⟨q1,q2⟩]; (first|lia -abstractProof|omega)]
      repeat' (first | with_reducible refine T_nil ?_ | with_reducible refine J_next ?_ | (with_reducible refine U_sto ?_; with_reducible refine Sto_x ?_))
      rfl
    · rename_i q1 q2
      show _ = _
      unfold codeOf; rw [if_neg (fun h => q2 h.2)]
    · rename_i q1
      show _ = _
      unfold codeOf; rw [if_neg (fun h => q1 h.1)]
  rintro _ rfl
  have hc2 : codeOf w < 16777216 := by unfold codeOf; split <;> (first|lia -abstractProof|omega)
  refine S_Assign ?_
  refine T.mono (Q := fun v st => v = V.str [valOf7 w] ∧ st = ⟨[(oS "way",V.int w),(oS "rest",V.own r),(oS "figures",V.int (figs w : Nat)),(oS "code",V.int (codeOf w : Nat)),(oS "value",V.undef),(oS "behind",V.undef),(oS "blank",V.undef),(oS "signs",V.undef),(oS "_",V.undef)],hp⟩) (T_IfExp ?_) ?_
  · repeat' (first | (with_reducible refine U_name ?_; with_reducible refine N_x ?_) | with_reducible refine T_nat ?_ | (with_reducible refine U_str ?_; with_reducible refine T_lit ?_) | (with_reducible refine U_call ?_; with_reducible refine Q_call (by assumption) ?_) | (with_reducible refine U_bc1 ?_; with_reducible refine B_Compare ?_) | with_reducible refine B_or ?_ | with_reducible refine B_orNil ?_ | with_reducible refine ite_tt ?_ | with_reducible refine ite_ff ?_ | with_reducible refine ite_dec (fun _ => ?_) (fun _ => ?_) | with_reducible refine ite_beq (fun _ => ?_) (fun _ => ?_) | (with_reducible refine U_acons ?_; with_reducible refine A_cons ?_) | with_reducible refine A_nil ?_ | with_reducible refine Cmp_gtn ?_ | with_reducible refine Cmp_eqn ?_ | with_reducible refine Ap_chrn (by (first | assumption | (first|lia -abstractProof|omega) | (simp only [List.flatten_append,List.flatten_cons,List.flatten_nil,List.append_nil,List.length_append,List.length_cons,List.length_nil,cut_length,List.length_take,List.length_drop,List.length_map]; (first|lia -abstractProof|omega)) | (simp; (first|lia -abstractProof|omega)))) ?_)
    · rename_i q
      exact ⟨by unfold valOf7; rw [if_pos (.inl q)],rfl⟩
    · rename_i q1 q2
      exact ⟨by unfold valOf7; rw [if_pos (.inr q2)],rfl⟩
    · rename_i q1 q2
      exact ⟨by unfold valOf7; rw [if_neg (by (first|lia -abstractProof|omega))],rfl⟩
  rintro _ _ ⟨rfl,rfl⟩
  refine A_x ?_
  refine S_Assign ?_
  refine T.mono (Q := fun v st => v = V.str (rest.headD []) ∧ st = ⟨[(oS "way",V.int w),(oS "rest",V.own r),(oS "figures",V.int (figs w : Nat)),(oS "code",V.int (codeOf w : Nat)),(oS "value",V.str [valOf7 w]),(oS "behind",V.undef),(oS "blank",V.undef),(oS "signs",V.undef),(oS "_",V.undef)],hp⟩) (T_IfExp ?_) ?_
  · repeat' (first | (with_reducible refine U_name ?_; with_reducible refine N_x ?_) | with_reducible refine B_val ?_)
    refine Truth_lst (by (first | exact LstAt.lst | exact LstAt.own (by (with_reducible first | assumption | exact last_at | exact mid_at | exact mid_at2 | exact low_at (by assumption) | exact low_at (low_at (by assumption)) | exact low_at (low_at (low_at (by assumption))))))) (by (first | assumption | (first|lia -abstractProof|omega) | (simp only [List.flatten_append,List.flatten_cons,List.flatten_nil,List.append_nil,List.length_append,List.length_cons,List.length_nil,cut_length,List.length_take,List.length_drop,List.length_map]; (first|lia -abstractProof|omega)) | (simp; (first|lia -abstractProof|omega)))) ?_
    cases rest with
    | nil =>
      rw [if_neg (by decide)]
      repeat' (first | (with_reducible refine U_str ?_; with_reducible refine T_lit ?_))
      exact ⟨rfl,rfl⟩
    | cons x l =>
      rw [if_pos (show (!(List.map V.str (x :: l)).isEmpty) = true from rfl)]
      repeat' (first | (with_reducible refine U_name ?_; with_reducible refine N_x ?_) | with_reducible refine T_nat ?_ | (with_reducible refine U_sub ?_; with_reducible refine T_Sub ?_))
      refine Item_at (i := 0) (x := V.str x) (LstAt.own hr) rfl (by rw [List.length_map]; (first|lia -abstractProof|omega)) ?_
      exact ⟨rfl,rfl⟩
  rintro _ _ ⟨rfl,rfl⟩
  refine A_x ?_
  have hb : rest.headD [] = [] ∨ sgnOk (rest.headD []) ∧ rest.headD [] ∈ rest := by
    cases rest with
    | nil => exact .inl rfl
    | cons x l => exact .inr ⟨(hf x (List.mem_cons_self ..)).1,List.mem_cons_self ..⟩
  refine S_Assign ?_
  repeat' (first | (with_reducible refine U_str ?_; with_reducible refine T_lit ?_) | (with_reducible refine U_name ?_; with_reducible refine N_g (by assumption) ?_) | with_reducible refine T_BinOp ?_ | (with_reducible refine U_sub ?_; with_reducible refine T_Sub ?_) | with_reducible refine T_ListN ?_ | (with_reducible refine U_acons ?_; with_reducible refine A_cons ?_) | with_reducible refine A_nil ?_ | (with_reducible refine U_new ?_; with_reducible refine NewL_i ?_))
  refine Bin_addL (xs := blanks.map V.str) (ys := [V.str []]) LstAt.lst (LstAt.own last_at) (by decide) ?_
  repeat' (first | (with_reducible refine U_name ?_; with_reducible refine N_x ?_) | with_reducible refine T_nat ?_ | with_reducible refine T_BinOp ?_)
  refine Bin_fdiv (by decide) (by decide) ?_
  repeat' (first | with_reducible refine T_nat ?_)
  refine Bin_mod (j := ((7 : Nat) : Int)) (by decide) ?_
  obtain ⟨h5,h6⟩ := fmod_nat (i := w.fdiv ((2 : Nat) : Int)) (n := 7) (by decide)
  rw [h5]
  refine Item_at (LstAt.own last_at) (x := V.str (blank1 w)) ?_ (by decide) ?_
  · rw [show blanks.map V.str ++ [V.str []] = (blanks ++ [[]]).map V.str from rfl]
    exact get_at h6
  refine A_x ?_
  generalize hbh : rest.headD [] = bh at hb ⊢
  have hb2 : ¬ bh = [] → ¬ blanks.contains bh = true → ∃ c,bh = [c] := by
    intro q1 q2
    rcases hb with q | ⟨q | q,_⟩
    · exact absurd q q1
    · rw [q] at q2; exact absurd (by decide) q2
    · exact q
  have hne : ¬ bh = [] → rest ≠ [] := by rintro q rfl; exact q hbh.symm
  have B1 : blank1 w = [] → ¬ bh = [] → near (figs w) bh = true → blank2 w rest = [32] := fun q1 q2 q3 => by
    unfold blank2; rw [if_pos ⟨q1,hne q2,by rw [hbh]; exact q3⟩]
  have B2 : near (figs w) bh = false → blank2 w rest = blank1 w := fun q3 => by
    unfold blank2; rw [if_neg]; rintro ⟨_,_,q⟩; rw [hbh,q3] at q; cases q
  have B3 : bh = [] → blank2 w rest = blank1 w := fun q3 => by
    unfold blank2; rw [if_neg]; rintro ⟨_,q,q'⟩; rw [hbh,q3] at q'
    revert q'; unfold near; simp [blanks,hexLo,hexUp]
  have B4 : ¬ blank1 w = [] → blank2 w rest = blank1 w := fun q3 => by
    unfold blank2; rw [if_neg (fun q => q3 q.1)]
  generalize hH : hp ++ [AObj.list [V.str []]] ++ [AObj.list (blanks.map V.str ++ [V.str []])] = H
  refine S_J (fun st => st = ⟨[(oS "way",V.int w),(oS "rest",V.own r),(oS "figures",V.int (figs w : Nat)),(oS "code",V.int (codeOf w : Nat)),(oS "value",V.str [valOf7 w]),(oS "behind",V.str bh),(oS "blank",V.str (blank2 w rest)),(oS "signs",V.undef),(oS "_",V.undef)],H⟩) (T_If ?_) ?_
  · repeat' (first | with_reducible refine S_IfE ?_ | with_reducible refine T_nil ?_ | (with_reducible refine U_name ?_; with_reducible refine N_x ?_) | (with_reducible refine U_str ?_; with_reducible refine T_lit ?_) | (with_reducible refine U_name ?_; with_reducible refine N_g (by assumption) ?_) | (with_reducible refine U_bc1 ?_; with_reducible refine B_Compare ?_) | with_reducible refine B_and ?_ | with_reducible refine B_andNil ?_ | with_reducible refine B_or ?_ | with_reducible refine ite_tt ?_ | with_reducible refine ite_ff ?_ | with_reducible refine ite_in (fun _ => ?_) (fun _ => ?_) | with_reducible refine Cmp_eqs ?_ | with_reducible refine Cmp_nes ?_ | with_reducible refine J_next ?_)
    · rename_i q1 q2
      have q1 : blank1 w = [] := by simpa using q1
      have q2 : ¬ bh = [] := by simpa using q2
      refine Cmp_inS (ys := blanks) LstAt.lst rfl ?_
      by_cases q3 : blanks.contains bh = true
      · rw [if_pos q3]
        repeat' (first | (with_reducible refine U_as1 ?_; with_reducible refine S_Assign ?_) | with_reducible refine T_nil ?_ | (with_reducible refine U_str ?_; with_reducible refine T_lit ?_) | with_reducible refine ite_tt ?_ | with_reducible refine J_next ?_ | (with_reducible refine U_asg ?_; with_reducible refine A_x ?_))
        show _ = _
        rw [B1 q1 q2 (by unfold near; rw [q3]; rfl)]
      · rw [if_neg q3]
        obtain ⟨c,rfl⟩ := hb2 q2 q3
        have q3 : blanks.contains [c] = false := by simpa using q3
        repeat' (first | with_reducible refine T_nil ?_ | (with_reducible refine U_name ?_; with_reducible refine N_x ?_) | with_reducible refine T_nat ?_ | (with_reducible refine U_call ?_; with_reducible refine Q_call (by assumption) ?_) | (with_reducible refine U_sub ?_; with_reducible refine T_Sub ?_) | (with_reducible refine U_bc1 ?_; with_reducible refine B_Compare ?_) | with_reducible refine B_and ?_ | with_reducible refine B_or ?_ | with_reducible refine B_orNil ?_ | with_reducible refine ite_ff ?_ | with_reducible refine ite_dec (fun _ => ?_) (fun _ => ?_) | with_reducible refine A_nil ?_ | with_reducible refine Cmp_ltn ?_ | with_reducible refine J_next ?_ | (with_reducible refine U_fn 41 ?_; with_reducible refine Ap_is (Calls.lift hexT_call (by (first|lia -abstractProof|omega))) ?_))
        · rename_i q4
          refine Item_at (i := 0) (x := V.str hexLo) LstAt.lst rfl (by decide) ?_
          repeat' (first | (with_reducible refine U_as1 ?_; with_reducible refine S_Assign ?_) | with_reducible refine T_nil ?_ | (with_reducible refine U_name ?_; with_reducible refine N_x ?_) | with_reducible refine T_nat ?_ | (with_reducible refine U_str ?_; with_reducible refine T_lit ?_) | (with_reducible refine U_call ?_; with_reducible refine Q_call (by assumption) ?_) | (with_reducible refine U_sub ?_; with_reducible refine T_Sub ?_) | (with_reducible refine U_bc1 ?_; with_reducible refine B_Compare ?_) | with_reducible refine B_andNil ?_ | with_reducible refine B_or ?_ | with_reducible refine ite_tt ?_ | with_reducible refine ite_dec (fun _ => ?_) (fun _ => ?_) | with_reducible refine A_nil ?_ | with_reducible refine Cmp_in1 ?_ | with_reducible refine J_next ?_ | (with_reducible refine U_asg ?_; with_reducible refine A_x ?_) | (with_reducible refine U_fn 41 ?_; with_reducible refine Ap_is (Calls.lift hexT_call (by (first|lia -abstractProof|omega))) ?_))
          · rename_i q5
            show _ = _
            rw [B1 q1 q2 (by unfold near; rw [decide_eq_true q4,decide_eq_true (show ([c] : List Nat).headD 0 ∈ hexLo from q5)]; simp)]
          · rename_i q5
            refine Item_at (i := 1) (x := V.str hexUp) LstAt.lst rfl (by decide) ?_
            repeat' (first | (with_reducible refine U_as1 ?_; with_reducible refine S_Assign ?_) | with_reducible refine T_nil ?_ | (with_reducible refine U_str ?_; with_reducible refine T_lit ?_) | with_reducible refine B_andNil ?_ | with_reducible refine B_orNil ?_ | with_reducible refine ite_tt ?_ | with_reducible refine ite_ff ?_ | with_reducible refine ite_dec (fun _ => ?_) (fun _ => ?_) | with_reducible refine Cmp_in1 ?_ | with_reducible refine J_next ?_ | (with_reducible refine U_asg ?_; with_reducible refine A_x ?_))
            · rename_i q6
              show _ = _
              rw [B1 q1 q2 (by unfold near; rw [decide_eq_true q4,decide_eq_true (show ([c] : List Nat).headD 0 ∈ hexUp from q6)]; simp)]
            · rename_i q6
              show _ = _
              rw [B2 (by unfold near; rw [q3,decide_eq_false (show ¬ ([c] : List Nat).headD 0 ∈ hexLo from q5),decide_eq_false (show ¬ ([c] : List Nat).headD 0 ∈ hexUp from q6)]; simp)]
        · rename_i q4
          show _ = _
          rw [B2 (by unfold near; rw [q3,decide_eq_false q4]; rfl)]
    · rename_i q1 q2
      show _ = _
      rw [B3 (by simpa using q2)]
    · rename_i q1
      show _ = _
      rw [B4 (by simpa using q1)]
  rintro _ rfl
  refine S_J (fun st => st = ⟨[(oS "way",V.int w),(oS "rest",V.own r),(oS "figures",V.int (figs w : Nat)),(oS "code",V.int (codeOf w : Nat)),(oS "value",V.str [valOf7 w]),(oS "behind",V.str bh),(oS "blank",V.str (blank3 w rest)),(oS "signs",V.undef),(oS "_",V.undef)],H⟩) (T_If ?_) ?_
  · repeat' (first | (with_reducible refine U_as1 ?_; with_reducible refine S_Assign ?_) | with_reducible refine T_nil ?_ | (with_reducible refine U_name ?_; with_reducible refine N_x ?_) | (with_reducible refine U_str ?_; with_reducible refine T_lit ?_) | (with_reducible refine U_bc1 ?_; with_reducible refine B_Compare ?_) | with_reducible refine B_and ?_ | with_reducible refine B_andNil ?_ | with_reducible refine ite_tt ?_ | with_reducible refine ite_ff ?_ | with_reducible refine ite_in (fun _ => ?_) (fun _ => ?_) | with_reducible refine Cmp_eqs ?_ | with_reducible refine J_next ?_ | (with_reducible refine U_asg ?_; with_reducible refine A_x ?_))
    · rename_i q1 q2
      show _ = _
      unfold blank3
      rw [if_pos ⟨by simpa using q1,by rw [hbh]; simpa using q2⟩]
    · rename_i q1 q2
      show _ = _
      unfold blank3
      rw [if_neg (fun q => by rw [hbh] at q; rw [q.2] at q2; cases q2)]
    · rename_i q1
      show _ = _
      unfold blank3
      rw [if_neg (fun q => by rw [q.1] at q1; cases q1)]
  rintro _ rfl
  have hb3z : (blank3 w rest).length ≤ 16777216 := by
    have h : ∀ x ∈ blanks ++ [[]],x.length ≤ 2 := by decide
    have h1 : (blank1 w).length ≤ 2 := h _ (at_mem h6)
    have h2 : (blank2 w rest).length ≤ 2 := by unfold blank2; split; exact Nat.le_succ 1; exact h1
    have h3 : (blank3 w rest).length ≤ 2 := by unfold blank3; split; exact Nat.le_refl 2; exact h2
    (first|lia -abstractProof|omega)
  generalize hB3 : blank3 w rest = b3 at hb3z ⊢
  refine S_Assign ?_
  refine T.mono (Q := fun v st => v = V.own H.length ∧ st = ⟨[(oS "way",V.int w),(oS "rest",V.own r),(oS "figures",V.int (figs w : Nat)),(oS "code",V.int (codeOf w : Nat)),(oS "value",V.str [valOf7 w]),(oS "behind",V.str bh),(oS "blank",V.str b3),(oS "signs",V.undef),(oS "_",V.undef)],H ++ [AObj.list ((if b3 = [] then [] else [b3]).map V.str)]⟩) (T_IfExp ?_) ?_
  · repeat' (first | (with_reducible refine U_name ?_; with_reducible refine N_x ?_) | with_reducible refine B_val ?_)
    refine Truth_str hb3z ?_
    cases b3 with
    | nil =>
      rw [if_neg (by decide)]
      repeat' (first | with_reducible refine T_ListN ?_ | with_reducible refine A_nil ?_ | (with_reducible refine U_new ?_; with_reducible refine NewL_i ?_))
      exact ⟨rfl,rfl⟩
    | cons a l =>
      rw [if_pos (by rfl)]
      repeat' (first | (with_reducible refine U_name ?_; with_reducible refine N_x ?_) | with_reducible refine T_ListN ?_ | (with_reducible refine U_acons ?_; with_reducible refine A_cons ?_) | with_reducible refine A_nil ?_ | (with_reducible refine U_new ?_; with_reducible refine NewL_i ?_))
      exact ⟨rfl,rfl⟩
  rintro _ _ ⟨rfl,rfl⟩
  refine A_x ?_
  generalize hS0 : (if b3 = [] then [] else [b3] : List (List Nat)) = S0
  have hS1 : S0.length ≤ 1 := by rw [← hS0]; split <;> simp
  refine S_For ?_
  repeat' (first | (with_reducible refine U_name ?_; with_reducible refine N_x ?_) | (with_reducible refine U_call ?_; with_reducible refine Q_call (by assumption) ?_) | (with_reducible refine U_acons ?_; with_reducible refine A_cons ?_) | with_reducible refine A_nil ?_)
  refine Ap_range1 ?_
  refine ⟨_,_,rng_up' (a := 0) (b := figs w) (by (first|lia -abstractProof|omega)) (by (first|lia -abstractProof|omega)),fun i st => ∃ k c S uv junk,st = ⟨[(oS "way",V.int w),(oS "rest",V.own r),(oS "figures",V.int (figs w : Nat)),(oS "code",V.int (c : Nat)),(oS "value",V.str [valOf7 w]),(oS "behind",V.str bh),(oS "blank",V.str b3),(oS "signs",V.own k),(oS "_",uv)],hp ++ junk⟩ ∧ (hp ++ junk)[k]? = some (.list (S.map V.str)) ∧ S.length ≤ 1 + i ∧ hexGo (hexOf7 w) (figs w) (codeOf w) S0 = hexGo (hexOf7 w) (figs w - i) c S,⟨H.length,codeOf w,S0,V.undef,[AObj.list [V.str []],AObj.list (blanks.map V.str ++ [V.str []]),AObj.list (S0.map V.str)],by rw [← hH]; simp,by rw [← hH]; simp,by (first|lia -abstractProof|omega),rfl⟩,fun _ _ _ => trivial,?_,?_⟩
  · rintro i x st hx ⟨k,c,S,uv,junk,rfl,hk,hl,hg2⟩
    have hi : i < figs w := by have := (List.getElem?_eq_some_iff.mp hx).1; simpa using this
    clear hx
    repeat' (first | (with_reducible refine U_as1 ?_; with_reducible refine S_Assign ?_) | (with_reducible refine U_name ?_; with_reducible refine N_x ?_) | with_reducible refine T_nat ?_ | with_reducible refine T_BinOp ?_ | (with_reducible refine U_call ?_; with_reducible refine Q_call (by assumption) ?_) | (with_reducible refine U_sub ?_; with_reducible refine T_Sub ?_) | with_reducible refine T_ListN ?_ | (with_reducible refine U_acons ?_; with_reducible refine A_cons ?_) | with_reducible refine A_nil ?_ | (with_reducible refine U_asg ?_; with_reducible refine A_x ?_) | (with_reducible refine U_fn 41 ?_; with_reducible refine Ap_is (Calls.lift hexT_call (by (first|lia -abstractProof|omega))) ?_))
    refine Bin_mod (by decide) ?_
    obtain ⟨m1,m2⟩ := fmod_nat (i := w) (n := 2) (by decide)
    rw [m1]
    have hxe : at_ hexT (w.fmod ((2 : Nat) : Int)).toNat = hexOf7 w := by
      unfold hexOf7
      have m1 : w.fmod 2 = ((w.fmod ((2 : Nat) : Int)).toNat : Nat) := m1
      generalize (w.fmod ((2 : Nat) : Int)).toNat = z at m1 m2
      rw [m1]
      have : z = 0 ∨ z = 1 := by (first|lia -abstractProof|omega)
      rcases this with rfl | rfl <;> rfl
    refine Item_at LstAt.lst (get_at m2) (by decide) ?_
    rw [hxe]
    repeat' (first | (with_reducible refine U_name ?_; with_reducible refine N_x ?_) | with_reducible refine T_nat ?_ | with_reducible refine T_BinOp ?_)
    refine Bin_mod (by decide) ?_
    rw [show ((c : Nat) : Int).fmod ((16 : Nat) : Int) = ((c % 16 : Nat) : Int) from by rw [Int.fmod_eq_emod_of_nonneg _ (by decide)]; rfl]
    have hxl : (hexOf7 w).length = 16 := by unfold hexOf7; split <;> rfl
    have hcm : c % 16 < (hexOf7 w).length := by (first|lia -abstractProof|omega)
    repeat' (first | (with_reducible refine U_as1 ?_; with_reducible refine S_Assign ?_) | (with_reducible refine U_name ?_; with_reducible refine N_x ?_) | with_reducible refine T_nat ?_ | with_reducible refine T_BinOp ?_ | with_reducible refine A_nil ?_ | (with_reducible refine U_addo ?_; with_reducible refine Bin_addLL (by (first | exact LstAt.lst | exact LstAt.own (by (with_reducible first | assumption | exact last_at | exact mid_at | exact mid_at2 | exact low_at (by assumption) | exact low_at (low_at (by assumption)) | exact low_at (low_at (low_at (by assumption))))))) (by (first | exact LstAt.lst | exact LstAt.own (by (with_reducible first | assumption | exact last_at | exact mid_at | exact mid_at2 | exact low_at (by assumption) | exact low_at (low_at (by assumption)) | exact low_at (low_at (low_at (by assumption))))))) (by (first | assumption | (first|lia -abstractProof|omega) | (simp only [List.flatten_append,List.flatten_cons,List.flatten_nil,List.append_nil,List.length_append,List.length_cons,List.length_nil,cut_length,List.length_take,List.length_drop,List.length_map]; (first|lia -abstractProof|omega)) | (simp; (first|lia -abstractProof|omega)))) ?_) | (with_reducible refine U_asg ?_; with_reducible refine A_x ?_) | (with_reducible refine U_new ?_; with_reducible refine NewL_i ?_) | (with_reducible refine U_ich ?_; with_reducible refine Item_ch ?_))
    refine Bin_fdiv (by decide) (by decide) ?_
    rw [show ((c : Nat) : Int).fdiv ((16 : Nat) : Int) = ((c / 16 : Nat) : Int) from by rw [Int.fdiv_eq_ediv_of_nonneg _ (by decide)]; rfl]
    repeat' (first | with_reducible refine T_nil ?_ | with_reducible refine FK_next ?_ | (with_reducible refine U_asg ?_; with_reducible refine A_x ?_))
    refine ⟨_,c / 16,[ch (hexOf7 w) (c % 16)] :: S,_,_,by rw [List.append_assoc,List.append_assoc],?_,by simp; (first|lia -abstractProof|omega),?_⟩
    · rw [← List.append_assoc,← List.append_assoc]; exact last_at
    · rw [hg2,show figs w - i = (figs w - (i + 1)) + 1 by (first|lia -abstractProof|omega),hexGo]; rfl
  · rintro st ⟨k,c,S,uv,junk,rfl,hk,hl,hg2⟩
    repeat' (first | with_reducible refine S_Return ?_ | (with_reducible refine U_name ?_; with_reducible refine N_x ?_) | (with_reducible refine U_str ?_; with_reducible refine T_lit ?_) | with_reducible refine T_BinOp ?_ | with_reducible refine T_Tuple ?_ | with_reducible refine T_ListN ?_ | (with_reducible refine U_acons ?_; with_reducible refine A_cons ?_) | with_reducible refine A_nil ?_ | (with_reducible refine U_new ?_; with_reducible refine NewL_i ?_))
    rw [List.length_map,List.length_range,Nat.sub_zero] at hl hg2
    rw [Nat.sub_self,hexGo] at hg2
    refine Bin_addLL (xs := [V.str [92]]) (ys := S.map V.str) (LstAt.own last_at) (LstAt.own (low_at hk)) (by simp; (first|lia -abstractProof|omega)) ?_
    repeat' (first | (with_reducible refine U_name ?_; with_reducible refine N_x ?_) | (with_reducible refine U_acons ?_; with_reducible refine A_cons ?_) | with_reducible refine A_nil ?_ | with_reducible refine size_and (by simp only [List.length_cons,List.length_nil]; (first|lia -abstractProof|omega)) ?_)
    refine ⟨_,_,rfl,by rw [List.append_assoc,List.append_assoc],?_⟩
    rw [show hexSigns w rest = [92] :: S from by unfold hexSigns; rw [hB3,hS0,hg2]]
    exact last_at
end
end
section
set_option maxRecDepth 20000
set_option maxHeartbeats 4000000
section
variable {C : Cx}
theorem ite_lt {l m : List Nat} {A B : Prop} (h : (l == m) = true) (a : A) : if (l == m) = true then A else B := by rw [if_pos h]; exact a
theorem ite_lf {l m : List Nat} {A B : Prop} (h : (l == m) = false) (a : B) : if (l == m) = true then A else B := by rw [if_neg (by rw [h]; decide)]; exact a
theorem ty16 : tyOf 16 = [115,116,114,105,110,103] := rfl
theorem ty11 : tyOf 11 = [119,104,105,116,101,115,112,97,99,101] := rfl
theorem ty9 : tyOf 9 = [101,114,114,111,114] := rfl
noncomputable def faultS (f : Nat) : List Nat := if f = 1 then badS else if f = 2 then eofS else []
abbrev placeW (x : Nat × Nat) : V := .tup [.int (x.1 : Nat),.int (x.2 : Nat)]
noncomputable def toldV (x : Nat × Nat × List Nat) : V := .tup [.str (kind7 x.1),.int (x.2.1 : Nat),.str (word7 x.1 x.2.2)]
noncomputable def rowW (x : Row7) : V := .tup [.str x.1,placeW x.2.1,.str x.2.2]
theorem entries_call {f left : Nat} {value : List Nat} {hp : List AObj} (hf : f ≤ 2) : Calls C 2 (.fn 46) [.str (faultS f),.int (left : Int),.str value] hp fun v hp' => v = .lst ((entry f left value).map toldV) ∧ hp' = hp := by
  refine Calls.mono (Calls.settle (Q := fun xs => xs = (entry f left value).map toldV) ?_) (fun v hp' h => by obtain ⟨h,xs,rfl,rfl⟩ := h; exact ⟨rfl,h⟩)
  refine call_intro (xs := [oS "fault",oS "left",oS "value"]) (vars0 := [(oS "fault",V.str (faultS f)),(oS "left",V.int (left : Int)),(oS "value",V.str value)]) (gl0 := []) (d := 1) rfl ?_ (by rfl) (by rfl) (by rfl) ?_
  · (intro dV doc pm cdv ct an vals hl h0 _ s _; have hq := h0 rfl; subst hq; obtain ⟨a,b,c,rfl⟩ := len3 hl; exact ⟨[],.of_eq (by kernel_rfl),.inl ⟨rfl,rfl⟩⟩)
  intro e he hg
  have hs : f = 0 ∨ f = 1 ∨ f = 2 := by (first|lia -abstractProof|omega)
  rcases hs with rfl | rfl | rfl
  · repeat' (first | with_reducible refine S_If ?_ | with_reducible refine S_Return ?_ | with_reducible refine T_nil ?_ | (with_reducible refine U_name ?_; with_reducible refine N_x ?_) | (with_reducible refine U_str ?_; with_reducible refine T_lit ?_) | with_reducible refine T_Tuple ?_ | with_reducible refine T_ListN ?_ | (with_reducible refine U_bc1 ?_; with_reducible refine B_Compare ?_) | (with_reducible refine U_acons ?_; with_reducible refine A_cons ?_) | with_reducible refine A_nil ?_ | with_reducible refine Cmp_eqs ?_ | with_reducible refine K_next ?_ | (with_reducible refine U_new ?_; with_reducible refine NewL_i ?_) | with_reducible refine size_and (by simp only [List.length_cons,List.length_nil]; (first|lia -abstractProof|omega)) ?_ | with_reducible refine ite_lf (by decide) ?_)
    exact ⟨_,_,_,rfl,rfl,Nat.le_refl _,last_at,by rfl,by rfl⟩
  · repeat' (first | with_reducible refine S_If ?_ | with_reducible refine S_Return ?_ | (with_reducible refine U_name ?_; with_reducible refine N_x ?_) | (with_reducible refine U_str ?_; with_reducible refine T_lit ?_) | with_reducible refine T_Tuple ?_ | with_reducible refine T_ListN ?_ | (with_reducible refine U_bc1 ?_; with_reducible refine B_Compare ?_) | (with_reducible refine U_acons ?_; with_reducible refine A_cons ?_) | with_reducible refine A_nil ?_ | with_reducible refine Cmp_eqs ?_ | with_reducible refine K_ret ?_ | (with_reducible refine U_new ?_; with_reducible refine NewL_i ?_) | with_reducible refine size_and (by simp only [List.length_cons,List.length_nil]; (first|lia -abstractProof|omega)) ?_ | with_reducible refine ite_lt (by decide) ?_)
    exact ⟨_,_,_,rfl,rfl,Nat.le_refl _,last_at,by rfl,by rfl⟩
  · repeat' (first | with_reducible refine S_If ?_ | with_reducible refine S_Return ?_ | with_reducible refine T_nil ?_ | (with_reducible refine U_name ?_; with_reducible refine N_x ?_) | (with_reducible refine U_str ?_; with_reducible refine T_lit ?_) | with_reducible refine T_Tuple ?_ | with_reducible refine T_ListN ?_ | (with_reducible refine U_bc1 ?_; with_reducible refine B_Compare ?_) | (with_reducible refine U_acons ?_; with_reducible refine A_cons ?_) | with_reducible refine A_nil ?_ | with_reducible refine Cmp_eqs ?_ | with_reducible refine K_next ?_ | with_reducible refine K_ret ?_ | (with_reducible refine U_new ?_; with_reducible refine NewL_i ?_) | with_reducible refine size_and (by simp only [List.length_cons,List.length_nil]; (first|lia -abstractProof|omega)) ?_ | with_reducible refine ite_lt (by decide) ?_ | with_reducible refine ite_lf (by decide) ?_)
    exact ⟨_,_,_,rfl,rfl,Nat.le_refl _,last_at,by rfl,by rfl⟩
theorem places7_len (rest : List (List Nat)) : (places7 rest).length = rest.length := by unfold places7; simp
theorem posL_succ {rest : List (List Nat)} {i : Nat} (h : i < rest.length) : posL ((rest.map nsg).take (i + 1)) = posC (posL ((rest.map nsg).take i)) (nsg (at_ rest i)) := by
  rw [List.take_add_one,List.getElem?_map,at_get h,posL_app]; rfl
theorem places7_succ {rest : List (List Nat)} {i : Nat} : (((List.range i).map fun i => posL ((rest.map nsg).take i)).map placeW) ++ [.tup [.int ((posL ((rest.map nsg).take i)).1 : Nat),.int ((posL ((rest.map nsg).take i)).2 : Nat)]] = ((List.range (i + 1)).map fun i => posL ((rest.map nsg).take i)).map placeW := by
  rw [List.range_succ,List.map_append,List.map_append]; rfl
theorem places7_call {rest : List (List Nat)} {r : Nat} {hp : List AObj} (hr : hp[r]? = some (.list (rest.map V.str))) (hz : rest.length ≤ 1000) (hf : ∀ x ∈ rest,sgnOk x) : Calls C 3 (.fn 47) [.own r] hp fun v hp' => v = .lst ((places7 rest).map placeW) ∧ hp' = hp := by
  refine Calls.mono (Calls.settle (Q := fun xs => xs = (places7 rest).map placeW) ?_) (fun v hp' h => by obtain ⟨h,xs,rfl,rfl⟩ := h; exact ⟨rfl,h⟩)
  refine call_intro (xs := [oS "signs"]) (vars0 := [(oS "signs",V.own r),(oS "places",V.undef),(oS "line",V.undef),(oS "column",V.undef),(oS "sign",V.undef)]) (gl0 := [(oS "_law_ENDS",((.fn 39) : V))]) (d := 2) rfl ?_ (by rfl) (by rfl) (by rfl) ?_
  · (intro dV doc pm cdv ct an vals hl h0 _ s _; have hq := h0 rfl; subst hq; obtain ⟨a,rfl⟩ := len1 hl; exact ⟨[],.of_eq (by kernel_rfl),.inl ⟨rfl,rfl⟩⟩)
  intro e he hg
  repeat' (first | (with_reducible refine U_as1 ?_; with_reducible refine S_Assign ?_) | with_reducible refine T_nat ?_ | with_reducible refine T_ListN ?_ | with_reducible refine A_nil ?_ | (with_reducible refine U_asg ?_; with_reducible refine A_x ?_) | (with_reducible refine U_new ?_; with_reducible refine NewL_i ?_))
  refine S_For ?_
  repeat' (first | (with_reducible refine U_name ?_; with_reducible refine N_x ?_))
  refine ⟨_,_,itv_own (low_at hr),fun i st => ∃ pv,st = ⟨[(oS "signs",V.own r),(oS "places",V.own hp.length),(oS "line",V.int ((posL ((rest.map nsg).take i)).1 : Nat)),(oS "column",V.int ((posL ((rest.map nsg).take i)).2 : Nat)),(oS "sign",pv)],hp ++ [AObj.list (((List.range i).map fun i => posL ((rest.map nsg).take i)).map placeW)]⟩,⟨_,rfl⟩,?_,?_,?_⟩
  · rintro i st ⟨pv,rfl⟩; exact low_at hr
  · rintro i x st hx ⟨pv,rfl⟩
    have hi : i < rest.length := by have := (List.getElem?_eq_some_iff.mp hx).1; simpa using this
    rw [get_at hi] at hx
    cases hx
    have hm := hf _ (at_mem hi)
    repeat' (first | (with_reducible refine U_exp ?_; with_reducible refine S_Expr ?_) | with_reducible refine S_IfE ?_ | (with_reducible refine U_aug ?_; with_reducible refine S_Aug ?_) | (with_reducible refine U_name ?_; with_reducible refine N_x ?_) | with_reducible refine T_nat ?_ | (with_reducible refine U_call ?_; with_reducible refine Q_call (by assumption) ?_) | with_reducible refine T_Tuple ?_ | (with_reducible refine U_meth "append" ?_; with_reducible refine M_append ?_) | (with_reducible refine U_bc1 ?_; with_reducible refine B_Compare ?_) | (with_reducible refine U_acons ?_; with_reducible refine A_cons ?_) | with_reducible refine A_nil ?_ | with_reducible refine Bin_iaddn ?_ | (with_reducible refine U_raw "list.append" ?_; with_reducible refine Ap_appendL ?_ (by (first | assumption | (first|lia -abstractProof|omega) | (simp only [List.flatten_append,List.flatten_cons,List.flatten_nil,List.append_nil,List.length_append,List.length_cons,List.length_nil,cut_length,List.length_take,List.length_drop,List.length_map]; (first|lia -abstractProof|omega)) | (simp; (first|lia -abstractProof|omega))))) | (with_reducible refine U_asg ?_; with_reducible refine A_x ?_) | (with_reducible refine U_sto ?_; with_reducible refine Sto_x ?_) | (with_reducible refine U_ex2 ?_; with_reducible refine ⟨_,_,rfl,last_at,?_⟩) | with_reducible refine size_and (by simp only [List.length_cons,List.length_nil]; (first|lia -abstractProof|omega)) ?_ | (with_reducible refine U_fn 39 ?_; with_reducible refine Ap_is (Calls.lift ends_call (by (first|lia -abstractProof|omega))) ?_))
    refine Cmp_inS (ys := ends) LstAt.lst (strsOf_map _) ?_
    repeat' (first | (with_reducible refine U_as1 ?_; with_reducible refine S_Assign ?_) | (with_reducible refine U_aug ?_; with_reducible refine S_Aug ?_) | with_reducible refine T_nil ?_ | with_reducible refine T_nat ?_ | with_reducible refine ite_in (fun _ => ?_) (fun _ => ?_) | with_reducible refine Bin_iaddn ?_ | with_reducible refine FK_next ?_ | (with_reducible refine U_asg ?_; with_reducible refine A_x ?_) | (with_reducible refine U_sto ?_; with_reducible refine Sto_x ?_))
    · rename_i q
      have e1 : posL ((rest.map nsg).take (i + 1)) = ((posL ((rest.map nsg).take i)).1 + 1,1) := by rw [posL_succ hi,posC,if_pos ((sgn_end hm).mp q)]
      exact ⟨_,by rw [e1,places7_succ]⟩
    · rename_i q
      have e1 : posL ((rest.map nsg).take (i + 1)) = ((posL ((rest.map nsg).take i)).1,(posL ((rest.map nsg).take i)).2 + 1) := by rw [posL_succ hi,posC,if_neg (fun h => by rw [(sgn_end hm).mpr h] at q; cases q)]
      exact ⟨_,by rw [e1,places7_succ]⟩
  · rintro st ⟨pv,rfl⟩
    rw [List.length_map]
    repeat' (first | with_reducible refine S_Return ?_ | (with_reducible refine U_name ?_; with_reducible refine N_x ?_))
    exact ⟨_,_,_,rfl,rfl,Nat.le_refl _,last_at,belowL_map (fun _ => rfl) _,rfl⟩
theorem read7_call {css : List Nat} {o : List (Nat × Nat × List Nat)} {r : Nat} {hp : List AObj} (hr : hp[r]? = some (.list (o.map (tokOf css)))) (hz : o.length ≤ 10000) (ho : ∀ x ∈ o,1 ≤ x.2.1 ∧ x.2.1 ≤ css.length ∧ x.1 ≤ 3) : Calls C 3 (.fn 48) [.own r] hp fun v hp' => v = .lst ((o.map (rowOf7 css)).map rowW) ∧ hp' = hp := by
  refine Calls.mono (Calls.settle (Q := fun xs => xs = (o.map (rowOf7 css)).map rowW) ?_) (fun v hp' h => by obtain ⟨h,xs,rfl,rfl⟩ := h; exact ⟨rfl,h⟩)
  refine call_intro (xs := [oS "nodes"]) (vars0 := [(oS "nodes",V.own r),(oS "row",V.undef),(oS "node",V.undef),(oS "value",V.undef)]) (gl0 := []) (d := 2) rfl ?_ (by rfl) (by rfl) (by rfl) ?_
  · (intro dV doc pm cdv ct an vals hl h0 _ s _; have hq := h0 rfl; subst hq; obtain ⟨a,rfl⟩ := len1 hl; exact ⟨[],.of_eq (by kernel_rfl),.inl ⟨rfl,rfl⟩⟩)
  intro e he hg
  repeat' (first | (with_reducible refine U_as1 ?_; with_reducible refine S_Assign ?_) | with_reducible refine T_ListN ?_ | with_reducible refine A_nil ?_ | (with_reducible refine U_asg ?_; with_reducible refine A_x ?_) | (with_reducible refine U_new ?_; with_reducible refine NewL_i ?_))
  refine S_For ?_
  repeat' (first | (with_reducible refine U_name ?_; with_reducible refine N_x ?_))
  refine ⟨_,_,itv_own (low_at hr),fun i st => ∃ pv qv,st = ⟨[(oS "nodes",V.own r),(oS "row",V.own hp.length),(oS "node",pv),(oS "value",qv)],hp ++ [AObj.list (((o.take i).map (rowOf7 css)).map rowW)]⟩,⟨_,_,rfl⟩,?_,?_,?_⟩
  · rintro i st ⟨pv,qv,rfl⟩; exact low_at hr
  · rintro i x st hx ⟨pv,qv,rfl⟩
    rw [List.getElem?_map] at hx
    obtain ⟨⟨k,left,w⟩,hy,rfl⟩ := Option.map_eq_some_iff.mp hx
    obtain ⟨h1,h2,h3⟩ := ho _ (List.mem_of_getElem? hy)
    obtain ⟨p1,p2⟩ := place_tok h2
    have st1 : ∀ y,rowW (rowOf7 css (k,left,w)) = y → (((o.take i).map (rowOf7 css)).map rowW) ++ [y] = ((o.take (i + 1)).map (rowOf7 css)).map rowW := by
      rintro y rfl
      rw [List.take_add_one,hy,List.map_append,List.map_append]; rfl
    have hb : (((o.take i).map (rowOf7 css)).map rowW).length ≤ 16777216 := by
      rw [List.length_map,List.length_map,List.length_take]; (first|lia -abstractProof|omega)
    have hs : k = 0 ∨ k = 1 ∨ k = 2 ∨ k = 3 := by dsimp only at h3; (first|lia -abstractProof|omega)
    unfold tokOf strTok badStrE eofStrE errTok
    dsimp only at p1 p2 ⊢
    rw [p1,p2]
    rcases hs with rfl | rfl | rfl | rfl
    · rw [if_pos rfl]
      repeat' (first | (with_reducible refine U_as1 ?_; with_reducible refine S_Assign ?_) | (with_reducible refine U_exp ?_; with_reducible refine S_Expr ?_) | with_reducible refine S_IfE ?_ | with_reducible refine S_If ?_ | with_reducible refine T_nil ?_ | (with_reducible refine U_name ?_; with_reducible refine N_x ?_) | (with_reducible refine U_str ?_; with_reducible refine T_lit ?_) | with_reducible refine T_Tuple ?_ | (with_reducible refine U_meth "append" ?_; with_reducible refine M_append ?_) | (with_reducible refine U_att "type" ?_; refine T_AttrType ?_) | (with_reducible refine U_att _ ?_; refine T_AttrSlot ?_) | (with_reducible refine U_bc1 ?_; with_reducible refine B_Compare ?_) | with_reducible refine B_or ?_ | with_reducible refine ite_tt ?_ | (with_reducible refine U_acons ?_; with_reducible refine A_cons ?_) | with_reducible refine A_nil ?_ | with_reducible refine Cmp_eqs ?_ | (with_reducible refine U_raw "list.append" ?_; with_reducible refine Ap_appendL ?_ (by (first | assumption | (first|lia -abstractProof|omega) | (simp only [List.flatten_append,List.flatten_cons,List.flatten_nil,List.append_nil,List.length_append,List.length_cons,List.length_nil,cut_length,List.length_take,List.length_drop,List.length_map]; (first|lia -abstractProof|omega)) | (simp; (first|lia -abstractProof|omega))))) | with_reducible refine K_next ?_ | with_reducible refine FK_next ?_ | (with_reducible refine U_asg ?_; with_reducible refine A_x ?_) | (with_reducible refine U_ex2 ?_; with_reducible refine ⟨_,_,rfl,last_at,?_⟩) | with_reducible refine size_and (by simp only [List.length_cons,List.length_nil]; (first|lia -abstractProof|omega)) ?_ | (with_reducible refine U_ex4 ?_; first | refine ⟨_,_,0,_,rfl,rfl,rfl,rfl,?_⟩ | refine ⟨_,_,1,_,rfl,rfl,rfl,rfl,?_⟩ | refine ⟨_,_,2,_,rfl,rfl,rfl,rfl,?_⟩ | refine ⟨_,_,3,_,rfl,rfl,rfl,rfl,?_⟩) | with_reducible refine ite_lt (by decide) ?_ | with_reducible refine ite_lf (by decide) ?_ | (with_reducible refine U_ex2 ?_; refine ⟨_,_,rfl,by decide,?_⟩; first | rw [ty16] | rw [ty11] | rw [ty9]))
      exact ⟨_,_,by rw [← st1 _ rfl]; rfl⟩
    · rw [if_neg (by simp),if_pos rfl]
      repeat' (first | (with_reducible refine U_as1 ?_; with_reducible refine S_Assign ?_) | (with_reducible refine U_exp ?_; with_reducible refine S_Expr ?_) | with_reducible refine S_If ?_ | with_reducible refine T_nil ?_ | (with_reducible refine U_name ?_; with_reducible refine N_x ?_) | (with_reducible refine U_str ?_; with_reducible refine T_lit ?_) | with_reducible refine T_Tuple ?_ | (with_reducible refine U_meth "append" ?_; with_reducible refine M_append ?_) | (with_reducible refine U_att "type" ?_; refine T_AttrType ?_) | (with_reducible refine U_att _ ?_; refine T_AttrSlot ?_) | (with_reducible refine U_bc1 ?_; with_reducible refine B_Compare ?_) | (with_reducible refine U_acons ?_; with_reducible refine A_cons ?_) | with_reducible refine A_nil ?_ | with_reducible refine Cmp_eqs ?_ | (with_reducible refine U_raw "list.append" ?_; with_reducible refine Ap_appendL ?_ (by (first | assumption | (first|lia -abstractProof|omega) | (simp only [List.flatten_append,List.flatten_cons,List.flatten_nil,List.append_nil,List.length_append,List.length_cons,List.length_nil,cut_length,List.length_take,List.length_drop,List.length_map]; (first|lia -abstractProof|omega)) | (simp; (first|lia -abstractProof|omega))))) | with_reducible refine K_next ?_ | with_reducible refine FK_next ?_ | (with_reducible refine U_asg ?_; with_reducible refine A_x ?_) | (with_reducible refine U_ex2 ?_; with_reducible refine ⟨_,_,rfl,last_at,?_⟩) | with_reducible refine size_and (by simp only [List.length_cons,List.length_nil]; (first|lia -abstractProof|omega)) ?_ | (with_reducible refine U_ex4 ?_; first | refine ⟨_,_,0,_,rfl,rfl,rfl,rfl,?_⟩ | refine ⟨_,_,1,_,rfl,rfl,rfl,rfl,?_⟩ | refine ⟨_,_,2,_,rfl,rfl,rfl,rfl,?_⟩ | refine ⟨_,_,3,_,rfl,rfl,rfl,rfl,?_⟩) | with_reducible refine ite_lt (by decide) ?_ | (with_reducible refine U_ex2 ?_; refine ⟨_,_,rfl,by decide,?_⟩; first | rw [ty16] | rw [ty11] | rw [ty9]))
      exact ⟨_,_,by rw [← st1 _ rfl]; rfl⟩
    · rw [if_neg (by simp),if_neg (by simp),if_pos rfl]
      repeat' (first | (with_reducible refine U_as1 ?_; with_reducible refine S_Assign ?_) | (with_reducible refine U_exp ?_; with_reducible refine S_Expr ?_) | with_reducible refine S_If ?_ | with_reducible refine T_nil ?_ | (with_reducible refine U_name ?_; with_reducible refine N_x ?_) | (with_reducible refine U_str ?_; with_reducible refine T_lit ?_) | with_reducible refine T_Tuple ?_ | (with_reducible refine U_meth "append" ?_; with_reducible refine M_append ?_) | (with_reducible refine U_att "type" ?_; refine T_AttrType ?_) | (with_reducible refine U_att _ ?_; refine T_AttrSlot ?_) | (with_reducible refine U_bc1 ?_; with_reducible refine B_Compare ?_) | (with_reducible refine U_acons ?_; with_reducible refine A_cons ?_) | with_reducible refine A_nil ?_ | with_reducible refine Cmp_eqs ?_ | (with_reducible refine U_raw "list.append" ?_; with_reducible refine Ap_appendL ?_ (by (first | assumption | (first|lia -abstractProof|omega) | (simp only [List.flatten_append,List.flatten_cons,List.flatten_nil,List.append_nil,List.length_append,List.length_cons,List.length_nil,cut_length,List.length_take,List.length_drop,List.length_map]; (first|lia -abstractProof|omega)) | (simp; (first|lia -abstractProof|omega))))) | with_reducible refine K_next ?_ | with_reducible refine FK_next ?_ | (with_reducible refine U_asg ?_; with_reducible refine A_x ?_) | (with_reducible refine U_ex2 ?_; with_reducible refine ⟨_,_,rfl,last_at,?_⟩) | with_reducible refine size_and (by simp only [List.length_cons,List.length_nil]; (first|lia -abstractProof|omega)) ?_ | (with_reducible refine U_ex4 ?_; first | refine ⟨_,_,0,_,rfl,rfl,rfl,rfl,?_⟩ | refine ⟨_,_,1,_,rfl,rfl,rfl,rfl,?_⟩ | refine ⟨_,_,2,_,rfl,rfl,rfl,rfl,?_⟩ | refine ⟨_,_,3,_,rfl,rfl,rfl,rfl,?_⟩) | with_reducible refine ite_lt (by decide) ?_ | (with_reducible refine U_ex2 ?_; refine ⟨_,_,rfl,by decide,?_⟩; first | rw [ty16] | rw [ty11] | rw [ty9]))
      exact ⟨_,_,by rw [← st1 _ rfl]; rfl⟩
    · rw [if_neg (by simp),if_neg (by simp),if_neg (by simp)]
      repeat' (first | (with_reducible refine U_as1 ?_; with_reducible refine S_Assign ?_) | (with_reducible refine U_exp ?_; with_reducible refine S_Expr ?_) | with_reducible refine S_IfE ?_ | with_reducible refine S_If ?_ | with_reducible refine T_nil ?_ | (with_reducible refine U_name ?_; with_reducible refine N_x ?_) | (with_reducible refine U_str ?_; with_reducible refine T_lit ?_) | with_reducible refine T_Tuple ?_ | (with_reducible refine U_meth "append" ?_; with_reducible refine M_append ?_) | (with_reducible refine U_att "type" ?_; refine T_AttrType ?_) | (with_reducible refine U_att _ ?_; refine T_AttrSlot ?_) | (with_reducible refine U_bc1 ?_; with_reducible refine B_Compare ?_) | with_reducible refine B_or ?_ | with_reducible refine ite_tt ?_ | (with_reducible refine U_acons ?_; with_reducible refine A_cons ?_) | with_reducible refine A_nil ?_ | with_reducible refine Cmp_eqs ?_ | (with_reducible refine U_raw "list.append" ?_; with_reducible refine Ap_appendL ?_ (by (first | assumption | (first|lia -abstractProof|omega) | (simp only [List.flatten_append,List.flatten_cons,List.flatten_nil,List.append_nil,List.length_append,List.length_cons,List.length_nil,cut_length,List.length_take,List.length_drop,List.length_map]; (first|lia -abstractProof|omega)) | (simp; (first|lia -abstractProof|omega))))) | with_reducible refine K_next ?_ | with_reducible refine FK_next ?_ | (with_reducible refine U_asg ?_; with_reducible refine A_x ?_) | (with_reducible refine U_ex2 ?_; with_reducible refine ⟨_,_,rfl,last_at,?_⟩) | with_reducible refine size_and (by simp only [List.length_cons,List.length_nil]; (first|lia -abstractProof|omega)) ?_ | (with_reducible refine U_ex4 ?_; first | refine ⟨_,_,0,_,rfl,rfl,rfl,rfl,?_⟩ | refine ⟨_,_,1,_,rfl,rfl,rfl,rfl,?_⟩ | refine ⟨_,_,2,_,rfl,rfl,rfl,rfl,?_⟩ | refine ⟨_,_,3,_,rfl,rfl,rfl,rfl,?_⟩) | with_reducible refine ite_lt (by decide) ?_ | with_reducible refine ite_lf (by decide) ?_ | (with_reducible refine U_ex2 ?_; refine ⟨_,_,rfl,by decide,?_⟩; first | rw [ty16] | rw [ty11] | rw [ty9]))
      exact ⟨_,_,by rw [← st1 _ rfl]; rfl⟩
  · rintro st ⟨pv,qv,rfl⟩
    rw [List.length_map,List.take_length]
    repeat' (first | with_reducible refine S_Return ?_ | (with_reducible refine U_name ?_; with_reducible refine N_x ?_))
    exact ⟨_,_,_,rfl,rfl,Nat.le_refl _,last_at,belowL_map (fun _ => rfl) _,rfl⟩
end
end
section
set_option maxRecDepth 20000
set_option maxHeartbeats 4000000
section
variable {C : Cx}
theorem Bin_modh {C : Cx} {d : Nat} {e : Env} {st : St} {i : Int} {j m : Nat} {Q : V → St → Prop} (h : i.fmod (j : Int) = (m : Int)) (hj : (j : Int) ≠ 0) (q : Q (.int (m : Int)) st) : Bin C d e (binaryOp .Mod) (.int i) (.int (j : Int)) st Q := Bin_mod hj (by rw [h]; exact q)
noncomputable def Fx (C : Cx) (k5 k6 kp : Nat) (tp : List Int) (H : List AObj) : Prop := H[k5]? = some (.tab (C.tc 5)) ∧ H[k6]? = some (.tab (C.tc 6)) ∧ H[kp]? = some (.list (tp.map V.int))
theorem Fx.app {C : Cx} {k5 k6 kp : Nat} {tp : List Int} {H r : List AObj} (h : Fx C k5 k6 kp tp H) : Fx C k5 k6 kp tp (H ++ r) := ⟨low_at h.1,low_at h.2.1,low_at h.2.2⟩
theorem Cmp_eqLD {C : Cx} {d : Nat} {e : Env} {st : St} {v w : V} {xs : List V} {Q : Bool → St → Prop} (hv : LstAt st.hp v xs) (hw : LstAt st.hp w xs) (hd : isD.isDs xs = true) (hp : (PyData.list (toD.toDs xs)).depth ≤ 64) (h : Q true st) : Cmp C d e .Eq v w st Q := Cmp_of h (by
  intro A kp B σ s va vb R hA hS hr hr' q
  obtain ⟨as,r1⟩ := hv.reads hS.g hr hd
  obtain ⟨bs,r2⟩ := hw.reads hS.g hr' hd
  have hl : (PyData.list (toD.toDs xs)).canLay0 = true := by rw [PyData.canLay0]; exact isDs_lay hd
  refine eq_dataH r1 r2 ?_ ?_ (by have := hA.2.2; show A.units + 64 < 9900; (first|lia -abstractProof|omega)) (by rw [PySem.SeqAt.eqv_refl _ hl]; exact q)
  all_goals (unfold PySem.SeqAt.shaped; rw [hl,Bool.true_and]; exact decide_eq_true hp))
theorem rows_D : ∀ (l : List Row7),(∀ x ∈ l,Ch x.1 ∧ Ch x.2.2) → isD.isDs (l.map rowW) = true
  | [],_ => rfl
  | x :: l,h => by
    have hc : ∀ {w : List Nat},Ch w → isD (.str w) = true := fun q => List.all_eq_true.mpr fun c hc => decide_eq_true (q c hc)
    obtain ⟨h1,h2⟩ := h x (List.mem_cons_self ..)
    rw [List.map_cons,isD.isDs,rows_D l fun y hy => h y (List.mem_cons_of_mem _ hy),Bool.and_true]
    unfold rowW
    simp only [isD,isD.isDs,Bool.and_true]
    rw [Bool.and_eq_true]
    exact ⟨hc h1,hc h2⟩
theorem rows_dep : ∀ (l : List Row7),PyData.depthAll (toD.toDs (l.map rowW)) ≤ 2
  | [] => Nat.zero_le _
  | x :: l => by
    have h := rows_dep l
    rw [List.map_cons,toD.toDs,PyData.depthAll]
    have : (toD (rowW x)).depth = 2 := by
      unfold rowW
      simp [toD,toD.toDs,PyData.depth,PyData.depthAll]
    (first|lia -abstractProof|omega)
theorem kind7_ch (k : Nat) : Ch (kind7 k) := by
  have h1 : ∀ c ∈ strS,c < 1114112 := by decide
  have h2 : ∀ c ∈ wsS,c < 1114112 := by decide
  have h3 : ∀ c ∈ errS7,c < 1114112 := by decide
  unfold kind7; split; exact h1; split; exact h2; exact h3
theorem word7_ch {k : Nat} {v : List Nat} (h : Ch v) : Ch (word7 k v) := by
  have h1 : ∀ c ∈ badS,c < 1114112 := by decide
  have h2 : ∀ c ∈ eofS,c < 1114112 := by decide
  unfold word7; split; exact h1; split; exact h2; exact h
theorem places_at {R : List (List Nat)} {left : Nat} (h1 : 1 ≤ left) (h2 : left ≤ R.length) : at_ (places7 R) (R.length - left) = place7 (R.map nsg) left := by
  unfold places7 place7
  rw [List.length_map]
  exact at_eq (by rw [List.getElem?_map,List.getElem?_range (by (first|lia -abstractProof|omega))]; rfl)
theorem law7_call {ns : List Int} {hp : List AObj} {k5 k6 : Nat} (hns : ns.length ≤ 63) (hk : C.tk ≤ 1) (t5 : hp[k5]? = some (.tab (C.tc 5))) (t6 : hp[k6]? = some (.tab (C.tc 6))) : Calls C 300 (.fn 49) [.lst (ns.map V.int)] hp fun v hp' => v = .bool true ∧ hp'[k5]? = some (.tab (C.tc 5)) ∧ hp'[k6]? = some (.tab (C.tc 6)) := by
  refine call_intro (xs := [oS "script"]) (vars0 := [(oS "script",V.lst (ns.map V.int)),(oS "tape",V.undef),(oS "quote",V.undef),(oS "close",V.undef),(oS "rest",V.undef),(oS "fault",V.undef),(oS "told",V.undef),(oS "value",V.undef),(oS "n",V.undef),(oS "way",V.undef),(oS "word",V.undef),(oS "signs",V.undef),(oS "places",V.undef),(oS "meant",V.undef)]) (gl0 := [(oS "_law_ENDS",((.fn 39) : V)),(oS "_law_PLAIN",((.fn 42) : V)),(oS "_law_ESCAPED",((.fn 43) : V)),(oS "_law_hex",((.fn 45) : V)),(oS "_law_line_end",((.fn 44) : V)),(oS "_law_entries",((.fn 46) : V)),(oS "len",((.raw (.builtin "len")) : V)),(oS "_law_places",((.fn 47) : V)),(oS "_law_read",((.fn 48) : V)),(oS "parse_component_value_list",((.fn 30) : V))]) (d := 299) rfl ?_ (by rfl) (by rfl) (by rfl) ?_
  · (intro dV doc pm cdv ct an vals hl h0 _ s _; have hq := h0 rfl; subst hq; obtain ⟨a,rfl⟩ := len1 hl; exact ⟨[],.of_eq (by kernel_rfl),.inl ⟨rfl,rfl⟩⟩)
  intro e he hg
  have ht1 : 1 ≤ (tape7 ns).length := by unfold tape7; cases ns with | nil => simp | cons a l => simp
  have ht2 : (tape7 ns).length ≤ 20 := by unfold tape7; split <;> simp; (first|lia -abstractProof|omega)
  refine S2_Assign (k := 1) hk (T2.mono (Q := fun v st => v = V.own hp.length ∧ st = ⟨[(oS "script",V.lst (ns.map V.int)),(oS "tape",V.undef),(oS "quote",V.undef),(oS "close",V.undef),(oS "rest",V.undef),(oS "fault",V.undef),(oS "told",V.undef),(oS "value",V.undef),(oS "n",V.undef),(oS "way",V.undef),(oS "word",V.undef),(oS "signs",V.undef),(oS "places",V.undef),(oS "meant",V.undef)],hp ++ [AObj.list ((tape7 ns).map V.int)]⟩) (T2_IfExp ?_) ?_)
  · repeat' (first | (with_reducible refine U_name ?_; with_reducible refine N_x ?_) | with_reducible refine B_val ?_)
    refine Truth_lst (by (first | exact LstAt.lst | exact LstAt.own (by (with_reducible first | assumption | exact last_at | exact mid_at | exact mid_at2 | exact low_at (by assumption) | exact low_at (low_at (by assumption)) | exact low_at (low_at (low_at (by assumption))))))) (by (first | assumption | (first|lia -abstractProof|omega) | (simp only [List.flatten_append,List.flatten_cons,List.flatten_nil,List.append_nil,List.length_append,List.length_cons,List.length_nil,cut_length,List.length_take,List.length_drop,List.length_map]; (first|lia -abstractProof|omega)) | (simp; (first|lia -abstractProof|omega)))) ?_
    by_cases q : ns.isEmpty = true
    · rw [if_neg (by cases ns with | nil => decide | cons a l => cases q)]
      exact T2_List1 (T2_int ⟨rfl,by rw [tape7,if_pos q]; rfl⟩)
    · rw [if_pos (by cases ns with | nil => exact absurd rfl q | cons a l => rfl)]
      refine T2_SliceLst ?_
      repeat' (first | (with_reducible refine U_name ?_; with_reducible refine N_x ?_))
      refine P_none (P2_some (T2_int ⟨_,rfl,_,LstAt.lst,by (first | assumption | (first|lia -abstractProof|omega) | (simp only [List.flatten_append,List.flatten_cons,List.flatten_nil,List.append_nil,List.length_append,List.length_cons,List.length_nil,cut_length,List.length_take,List.length_drop,List.length_map]; (first|lia -abstractProof|omega)) | (simp; (first|lia -abstractProof|omega))),rfl,?_⟩))
      rw [tape7,if_neg q]
      rw [show slc (ns.map V.int) none (some (20 : Int)) = (ns.take 20).map V.int from slc_take]
  replace hg := GL.at (k := 1) hg
  rintro _ _ ⟨rfl,rfl⟩
  generalize hT : tape7 ns = tp at ht1 ht2 ⊢
  generalize hA : at_ tp 0 = a
  have ha : (tp.map V.int)[0]? = some (V.int a) := by rw [← hA]; exact get_at (by (first|lia -abstractProof|omega))
  have F : Fx (C.at 1) k5 k6 hp.length tp (hp ++ [AObj.list (tp.map V.int)]) := ⟨low_at t5,low_at t6,last_at⟩
  generalize hp ++ [AObj.list (tp.map V.int)] = H at F ⊢
  generalize hp.length = kp at F ⊢
  have hkp : H[kp]? = some (.list (tp.map V.int)) := F.2.2
  refine A_x ?_
  refine S_Assign ?_
  refine T.mono (Q := fun v st => v = V.str [(first7 a).quote] ∧ st = ⟨[(oS "script",V.lst (ns.map V.int)),(oS "tape",V.own kp),(oS "quote",V.undef),(oS "close",V.undef),(oS "rest",V.undef),(oS "fault",V.undef),(oS "told",V.undef),(oS "value",V.undef),(oS "n",V.undef),(oS "way",V.undef),(oS "word",V.undef),(oS "signs",V.undef),(oS "places",V.undef),(oS "meant",V.undef)],H⟩) (T_IfExp ?_) ?_
  · repeat' (first | (with_reducible refine U_name ?_; with_reducible refine N_x ?_) | with_reducible refine T_nat ?_ | with_reducible refine T_BinOp ?_ | (with_reducible refine U_sub ?_; with_reducible refine T_Sub ?_) | with_reducible refine B_val ?_ | (with_reducible refine U_iat ?_; with_reducible refine Item_at (by (first | exact LstAt.lst | exact LstAt.own (by (with_reducible first | assumption | exact last_at | exact mid_at | exact mid_at2 | exact low_at (by assumption) | exact low_at (low_at (by assumption)) | exact low_at (low_at (low_at (by assumption))))))) (by (first | assumption | exact get_at (by first | assumption | (first|lia -abstractProof|omega)) | rfl)) (by (first | assumption | (first|lia -abstractProof|omega) | (simp only [List.flatten_append,List.flatten_cons,List.flatten_nil,List.append_nil,List.length_append,List.length_cons,List.length_nil,cut_length,List.length_take,List.length_drop,List.length_map]; (first|lia -abstractProof|omega)) | (simp; (first|lia -abstractProof|omega)))) ?_))
    obtain ⟨m1,m2⟩ := fmod_nat (i := a) (n := 2) (by decide)
    refine Bin_mod (by decide) ?_
    rw [m1]
    have m1 : a.fmod 2 = ((a.fmod 2).toNat : Nat) := m1
    have e1 : (first7 a).quote = if (a.fmod 2).toNat = 0 then 34 else 39 := by
      unfold first7; dsimp only
      split <;> split <;> first | rfl | (first|lia -abstractProof|omega)
    refine Truth_nat ?_
    refine ite_ne0 (fun q => ?_) (fun q => ?_)
    · repeat' (first | (with_reducible refine U_str ?_; with_reducible refine T_lit ?_))
      exact ⟨by rw [e1,if_neg (show ¬ (a.fmod 2).toNat = 0 from q)],rfl⟩
    · repeat' (first | (with_reducible refine U_str ?_; with_reducible refine T_lit ?_))
      exact ⟨by rw [e1,if_pos (show (a.fmod 2).toNat = 0 from q)],rfl⟩
  rintro _ _ ⟨rfl,rfl⟩
  refine A_x ?_
  refine S_Assign ?_
  repeat' (first | (with_reducible refine U_name ?_; with_reducible refine N_x ?_) | with_reducible refine T_nat ?_ | with_reducible refine T_BinOp ?_ | (with_reducible refine U_sub ?_; with_reducible refine T_Sub ?_) | (with_reducible refine U_iat ?_; with_reducible refine Item_at (by (first | exact LstAt.lst | exact LstAt.own (by (with_reducible first | assumption | exact last_at | exact mid_at | exact mid_at2 | exact low_at (by assumption) | exact low_at (low_at (by assumption)) | exact low_at (low_at (low_at (by assumption))))))) (by (first | assumption | exact get_at (by first | assumption | (first|lia -abstractProof|omega)) | rfl)) (by (first | assumption | (first|lia -abstractProof|omega) | (simp only [List.flatten_append,List.flatten_cons,List.flatten_nil,List.append_nil,List.length_append,List.length_cons,List.length_nil,cut_length,List.length_take,List.length_drop,List.length_map]; (first|lia -abstractProof|omega)) | (simp; (first|lia -abstractProof|omega)))) ?_))
  refine Bin_fdiv (by decide) (by decide) ?_
  repeat' (first | with_reducible refine T_nat ?_)
  refine Bin_mod (by decide) ?_
  obtain ⟨c1,c2⟩ := fmod_nat (i := a.fdiv ((2 : Nat) : Int)) (n := 4) (by decide)
  rw [c1]
  generalize hc : ((a.fdiv ((2 : Nat) : Int)).fmod ((4 : Nat) : Int)).toNat = c at c2 ⊢
  have hc : ((a.fdiv 2).fmod 4).toNat = c := hc
  have hcs : c = 0 ∨ c = 1 ∨ c = 2 ∨ c = 3 := by (first|lia -abstractProof|omega)
  have fr : (first7 a).rest = at_ [[[(first7 a).quote]],[endOf (a.fdiv 8)],[],[[92]]] c := by rw [← hc]; rfl
  have ff : (first7 a).fault = at_ [0,1,2,2] c := by rw [← hc]; rfl
  have ft : (first7 a).told = if c = 1 then [(3,1,[10])] else [] := by rw [← hc]; rfl
  refine A_x ?_
  refine S_Assign ?_
  refine T.mono (Q := fun v st => ∃ k H,v = V.own k ∧ st = ⟨[(oS "script",V.lst (ns.map V.int)),(oS "tape",V.own kp),(oS "quote",V.str [(first7 a).quote]),(oS "close",V.int (c : Nat)),(oS "rest",V.undef),(oS "fault",V.undef),(oS "told",V.undef),(oS "value",V.undef),(oS "n",V.undef),(oS "way",V.undef),(oS "word",V.undef),(oS "signs",V.undef),(oS "places",V.undef),(oS "meant",V.undef)],H⟩ ∧ Fx (C.at 1) k5 k6 kp tp H ∧ H[k]? = some (.list ((first7 a).rest.map V.str))) ?_ ?_
  · repeat' (first | (with_reducible refine U_name ?_; with_reducible refine N_x ?_) | with_reducible refine T_nat ?_ | with_reducible refine T_BinOp ?_ | (with_reducible refine U_call ?_; with_reducible refine Q_call (by assumption) ?_) | (with_reducible refine U_sub ?_; with_reducible refine T_Sub ?_) | with_reducible refine T_ListN ?_ | (with_reducible refine U_acons ?_; with_reducible refine A_cons ?_) | with_reducible refine A_nil ?_ | (with_reducible refine U_new ?_; with_reducible refine NewL_i ?_) | (with_reducible refine U_iat ?_; with_reducible refine Item_at (by (first | exact LstAt.lst | exact LstAt.own (by (with_reducible first | assumption | exact last_at | exact mid_at | exact mid_at2 | exact low_at (by assumption) | exact low_at (low_at (by assumption)) | exact low_at (low_at (low_at (by assumption))))))) (by (first | assumption | exact get_at (by first | assumption | (first|lia -abstractProof|omega)) | rfl)) (by (first | assumption | (first|lia -abstractProof|omega) | (simp only [List.flatten_append,List.flatten_cons,List.flatten_nil,List.append_nil,List.length_append,List.length_cons,List.length_nil,cut_length,List.length_take,List.length_drop,List.length_map]; (first|lia -abstractProof|omega)) | (simp; (first|lia -abstractProof|omega)))) ?_) | (with_reducible refine U_fn 39 ?_; with_reducible refine Ap_is (Calls.lift ends_call (by (first|lia -abstractProof|omega))) ?_))
    refine Bin_fdiv (by decide) (by decide) ?_
    repeat' (first | with_reducible refine T_nat ?_)
    refine Bin_mod (by decide) ?_
    obtain ⟨d1,d2⟩ := fmod_nat (i := a.fdiv ((8 : Nat) : Int)) (n := 4) (by decide)
    rw [d1]
    refine Item_at LstAt.lst (get_at d2) (by decide) ?_
    rw [show at_ ends ((a.fdiv ((8 : Nat) : Int)).fmod ((4 : Nat) : Int)).toNat = endOf (a.fdiv 8) from rfl]
    repeat' (first | (with_reducible refine U_name ?_; with_reducible refine N_x ?_) | (with_reducible refine U_str ?_; with_reducible refine T_lit ?_) | with_reducible refine T_ListN ?_ | (with_reducible refine U_acons ?_; with_reducible refine A_cons ?_) | with_reducible refine A_nil ?_ | (with_reducible refine U_new ?_; with_reducible refine NewL_i ?_))
    rcases hcs with rfl | rfl | rfl | rfl
    · refine Item_at (LstAt.own last_at) rfl (by simp) ?_
      exact ⟨_,_,rfl,rfl,F.app.app.app.app.app,by rw [fr]; exact low_at (low_at (low_at (low_at last_at)))⟩
    · refine Item_at (LstAt.own last_at) rfl (by simp) ?_
      exact ⟨_,_,rfl,rfl,F.app.app.app.app.app,by rw [fr]; exact low_at (low_at (low_at last_at))⟩
    · refine Item_at (LstAt.own last_at) rfl (by simp) ?_
      exact ⟨_,_,rfl,rfl,F.app.app.app.app.app,by rw [fr]; exact low_at (low_at last_at)⟩
    · refine Item_at (LstAt.own last_at) rfl (by simp) ?_
      exact ⟨_,_,rfl,rfl,F.app.app.app.app.app,by rw [fr]; exact low_at last_at⟩
  clear F hkp H
  rintro _ _ ⟨kr,H,rfl,rfl,F,hkr⟩
  refine A_x ?_
  refine S_Assign ?_
  refine T.mono (Q := fun v st => ∃ H,v = V.str (faultS (first7 a).fault) ∧ st = ⟨[(oS "script",V.lst (ns.map V.int)),(oS "tape",V.own kp),(oS "quote",V.str [(first7 a).quote]),(oS "close",V.int (c : Nat)),(oS "rest",V.own kr),(oS "fault",V.undef),(oS "told",V.undef),(oS "value",V.undef),(oS "n",V.undef),(oS "way",V.undef),(oS "word",V.undef),(oS "signs",V.undef),(oS "places",V.undef),(oS "meant",V.undef)],H⟩ ∧ Fx (C.at 1) k5 k6 kp tp H ∧ H[kr]? = some (.list ((first7 a).rest.map V.str))) ?_ ?_
  · repeat' (first | (with_reducible refine U_name ?_; with_reducible refine N_x ?_) | (with_reducible refine U_str ?_; with_reducible refine T_lit ?_) | (with_reducible refine U_sub ?_; with_reducible refine T_Sub ?_) | with_reducible refine T_ListN ?_ | (with_reducible refine U_acons ?_; with_reducible refine A_cons ?_) | with_reducible refine A_nil ?_ | (with_reducible refine U_new ?_; with_reducible refine NewL_i ?_))
    refine Item_at (xs := [V.str [],V.str badS,V.str eofS,V.str eofS]) (x := V.str (faultS (first7 a).fault)) (LstAt.own last_at) (by rw [ff]; rcases hcs with rfl | rfl | rfl | rfl <;> rfl) (by simp) ?_
    exact ⟨_,rfl,rfl,F.app,low_at hkr⟩
  clear F hkr H
  rintro _ _ ⟨H,rfl,rfl,F,hkr⟩
  refine A_x ?_
  refine S_Assign ?_
  refine T.mono (Q := fun v st => ∃ k H,v = V.own k ∧ st = ⟨[(oS "script",V.lst (ns.map V.int)),(oS "tape",V.own kp),(oS "quote",V.str [(first7 a).quote]),(oS "close",V.int (c : Nat)),(oS "rest",V.own kr),(oS "fault",V.str (faultS (first7 a).fault)),(oS "told",V.undef),(oS "value",V.undef),(oS "n",V.undef),(oS "way",V.undef),(oS "word",V.undef),(oS "signs",V.undef),(oS "places",V.undef),(oS "meant",V.undef)],H⟩ ∧ Fx (C.at 1) k5 k6 kp tp H ∧ H[kr]? = some (.list ((first7 a).rest.map V.str)) ∧ H[k]? = some (.list ((first7 a).told.map toldV))) (T_IfExp ?_) ?_
  · repeat' (first | (with_reducible refine U_name ?_; with_reducible refine N_x ?_) | with_reducible refine T_nat ?_ | (with_reducible refine U_str ?_; with_reducible refine T_lit ?_) | with_reducible refine T_Tuple ?_ | with_reducible refine T_ListN ?_ | (with_reducible refine U_bc1 ?_; with_reducible refine B_Compare ?_) | with_reducible refine ite_beq (fun _ => ?_) (fun _ => ?_) | (with_reducible refine U_acons ?_; with_reducible refine A_cons ?_) | with_reducible refine A_nil ?_ | with_reducible refine Cmp_eqn ?_ | (with_reducible refine U_new ?_; with_reducible refine NewL_i ?_) | with_reducible refine size_and (by simp only [List.length_cons,List.length_nil]; (first|lia -abstractProof|omega)) ?_)
    · rename_i q
      exact ⟨_,_,rfl,rfl,F.app,low_at hkr,by rw [ft,if_pos q]; exact last_at⟩
    · rename_i q
      exact ⟨_,_,rfl,rfl,F.app,low_at hkr,by rw [ft,if_neg q]; exact last_at⟩
  clear F hkr H
  rintro _ _ ⟨kt,H,rfl,rfl,F,hkr,hkt⟩
  refine A_x ?_
  repeat' (first | (with_reducible refine U_as1 ?_; with_reducible refine S_Assign ?_) | (with_reducible refine U_str ?_; with_reducible refine T_lit ?_) | (with_reducible refine U_asg ?_; with_reducible refine A_x ?_))
  have hp0 : put_at tp 0 = first7 a := by unfold put_at; rw [hA]; rfl
  rw [← hp0] at hkr hkt ⊢
  refine S_For ?_
  repeat' (first | (with_reducible refine U_name ?_; with_reducible refine N_x ?_))
  refine ⟨_,_,itv_own F.2.2,fun i st => ∃ kr kt v1 v2 v3 v4 H,st = ⟨[(oS "script",V.lst (ns.map V.int)),(oS "tape",V.own kp),(oS "quote",V.str [(put_at tp i).quote]),(oS "close",V.int (c : Nat)),(oS "rest",V.own kr),(oS "fault",V.str (faultS (put_at tp i).fault)),(oS "told",V.own kt),(oS "value",V.str (put_at tp i).value),(oS "n",v1),(oS "way",v2),(oS "word",v3),(oS "signs",v4),(oS "places",V.undef),(oS "meant",V.undef)],H⟩ ∧ Fx (C.at 1) k5 k6 kp tp H ∧ H[kr]? = some (.list ((put_at tp i).rest.map V.str)) ∧ H[kt]? = some (.list ((put_at tp i).told.map toldV)),⟨kr,kt,V.undef,V.undef,V.undef,V.undef,H,rfl,F,hkr,hkt⟩,?_,?_,?_⟩
  · rintro i st ⟨_,_,_,_,_,_,H,rfl,F,_,_⟩; exact F.2.2
  · clear F hkr hkt H kr kt
    rintro i x st hx ⟨kr,kt,v1,v2,v3,v4,H,rfl,F,hkr,hkt⟩
    have hi : i < tp.length := by have := (List.getElem?_eq_some_iff.mp hx).1; simpa using this
    rw [get_at hi] at hx
    cases hx
    have I7 := put_at_in tp i
    have O7 := put_at_size tp i (by (first|lia -abstractProof|omega))
    have FN := put_at_fine tp i (by (first|lia -abstractProof|omega))
    have hx' := put_at_succ hi
    generalize put_at tp i = x at *
    generalize at_ tp i = n at *
    have hxl : x.rest.length ≤ 1000 := by have := O7.rl; (first|lia -abstractProof|omega)
    have hxv : x.value.length ≤ 1000 := by have := O7.vl; (first|lia -abstractProof|omega)
    have hxt : x.told.length ≤ 1000 := by have := O7.tl; (first|lia -abstractProof|omega)
    repeat' (first | (with_reducible refine U_as1 ?_; with_reducible refine S_Assign ?_) | (with_reducible refine U_name ?_; with_reducible refine N_x ?_) | with_reducible refine T_nat ?_ | with_reducible refine T_BinOp ?_ | (with_reducible refine U_asg ?_; with_reducible refine A_x ?_))
    refine Bin_fdiv (by decide) (by decide) ?_
    rw [show n.fdiv ((5 : Nat) : Int) = n.fdiv 5 from rfl]
    obtain ⟨m1,m2⟩ := fmod_nat (i := n) (n := 5) (by decide)
    generalize hm : (n.fmod ((5 : Nat) : Int)).toNat = m at m1 m2
    have m1' : n.fmod 5 = (m : Int) := m1
    generalize hw : n.fdiv 5 = w at *
    obtain ⟨w1,w2⟩ := fmod_nat (i := w) (n := 16) (by decide)
    repeat' (first | (with_reducible refine U_as1 ?_; with_reducible refine S_Assign ?_) | with_reducible refine S_IfE ?_ | (with_reducible refine U_name ?_; with_reducible refine N_x ?_) | with_reducible refine T_nat ?_ | (with_reducible refine U_str ?_; with_reducible refine T_lit ?_) | with_reducible refine T_BinOp ?_ | (with_reducible refine U_call ?_; with_reducible refine Q_call (by assumption) ?_) | (with_reducible refine U_sub ?_; with_reducible refine T_Sub ?_) | with_reducible refine T_ListN ?_ | (with_reducible refine U_bc1 ?_; with_reducible refine B_Compare ?_) | with_reducible refine ite_beq (fun _ => ?_) (fun _ => ?_) | (with_reducible refine U_acons ?_; with_reducible refine A_cons ?_) | with_reducible refine A_nil ?_ | with_reducible refine Cmp_eqn ?_ | (with_reducible refine U_addo ?_; with_reducible refine Bin_addLL (by (first | exact LstAt.lst | exact LstAt.own (by (with_reducible first | assumption | exact last_at | exact mid_at | exact mid_at2 | exact low_at (by assumption) | exact low_at (low_at (by assumption)) | exact low_at (low_at (low_at (by assumption))))))) (by (first | exact LstAt.lst | exact LstAt.own (by (with_reducible first | assumption | exact last_at | exact mid_at | exact mid_at2 | exact low_at (by assumption) | exact low_at (low_at (by assumption)) | exact low_at (low_at (low_at (by assumption))))))) (by (first | assumption | (first|lia -abstractProof|omega) | (simp only [List.flatten_append,List.flatten_cons,List.flatten_nil,List.append_nil,List.length_append,List.length_cons,List.length_nil,cut_length,List.length_take,List.length_drop,List.length_map]; (first|lia -abstractProof|omega)) | (simp; (first|lia -abstractProof|omega)))) ?_) | (with_reducible refine U_raw "len" ?_; with_reducible refine Ap_len (by (first | exact LstAt.lst | exact LstAt.own (by (with_reducible first | assumption | exact last_at | exact mid_at | exact mid_at2 | exact low_at (by assumption) | exact low_at (low_at (by assumption)) | exact low_at (low_at (low_at (by assumption))))))) (by (first | assumption | (first|lia -abstractProof|omega) | (simp only [List.flatten_append,List.flatten_cons,List.flatten_nil,List.append_nil,List.length_append,List.length_cons,List.length_nil,cut_length,List.length_take,List.length_drop,List.length_map]; (first|lia -abstractProof|omega)) | (simp; (first|lia -abstractProof|omega)))) ?_) | (with_reducible refine U_asg ?_; with_reducible refine A_x ?_) | (with_reducible refine U_new ?_; with_reducible refine NewL_i ?_) | (with_reducible refine U_fn 42 ?_; with_reducible refine Ap_is (Calls.lift plainT_call (by (first|lia -abstractProof|omega))) ?_) | (with_reducible refine U_fn 43 ?_; with_reducible refine Ap_is (Calls.lift escT_call (by (first|lia -abstractProof|omega))) ?_) | with_reducible refine Bin_modh (by assumption) (by decide) ?_)
    · rename_i q
      have E := hx'
      unfold put7 at E
      dsimp only at E
      rw [hw,if_pos (by rw [m1',q]; rfl)] at E
      refine Item_at LstAt.lst (get_at w2) (by decide) ?_
      rw [show at_ plainT (w.fmod ((16 : Nat) : Int)).toNat = at_ plainT (w.fmod 16).toNat from rfl]
      have pz : (at_ plainT (w.fmod 16).toNat).length ≤ 4 := by
        have h2 : ∀ e ∈ plainT,e.length ≤ 4 := by decide
        exact h2 _ (at_mem w2)
      generalize at_ plainT (w.fmod 16).toNat = p at E pz ⊢
      refine A_x ?_
      refine S_J (fun st => st = ⟨[(oS "script",V.lst (ns.map V.int)),(oS "tape",V.own kp),(oS "quote",V.str [x.quote]),(oS "close",V.int (c : Nat)),(oS "rest",V.own kr),(oS "fault",V.str (faultS x.fault)),(oS "told",V.own kt),(oS "value",V.str x.value),(oS "n",V.int n),(oS "way",V.int w),(oS "word",V.str (if p = [x.quote] then [34] else p)),(oS "signs",v4),(oS "places",V.undef),(oS "meant",V.undef)],H⟩) (T_If ?_) ?_
      · repeat' (first | (with_reducible refine U_as1 ?_; with_reducible refine S_Assign ?_) | with_reducible refine T_nil ?_ | (with_reducible refine U_name ?_; with_reducible refine N_x ?_) | (with_reducible refine U_str ?_; with_reducible refine T_lit ?_) | (with_reducible refine U_bc1 ?_; with_reducible refine B_Compare ?_) | with_reducible refine ite_in (fun _ => ?_) (fun _ => ?_) | with_reducible refine Cmp_eqs ?_ | with_reducible refine J_next ?_ | (with_reducible refine U_asg ?_; with_reducible refine A_x ?_))
        · rename_i q2
          show _ = _
          rw [if_pos (by simpa using q2)]
        · rename_i q2
          show _ = _
          rw [if_neg (by simpa using q2)]
      rintro _ rfl
      have pz : (if p = [x.quote] then [34] else p : List Nat).length ≤ 4 := by split; exact (by decide); exact pz
      generalize (if p = [x.quote] then [34] else p : List Nat) = p at E pz ⊢
      repeat' (first | (with_reducible refine U_as1 ?_; with_reducible refine S_Assign ?_) | with_reducible refine T_BinOp ?_)
      refine T_ListComp (vars₀ := [(oS ".0",V.undef),(oS "sign",V.undef)]) (.loc (.loc .nil)) ?_ (by rfl) (by intro _; rfl)
      repeat' (first | (with_reducible refine U_name ?_; with_reducible refine N_x ?_))
      refine ⟨Nat,p,(fun c => V.str [c]),(fun c => some (V.str [c])),_,[(oS ".0",V.undef),(oS "sign",V.undef)],[],itv_str,trivial,by (first|lia -abstractProof|omega),.loc (.loc .nil),by rfl,?_,?_⟩
      · intro e' he' hg' c hc
        unfold CT
        dsimp only
        repeat' (first | (with_reducible refine U_name ?_; with_reducible refine N_x ?_) | with_reducible refine B_tests0 ?_ | with_reducible refine ite_tt ?_ | (with_reducible refine U_asg ?_; with_reducible refine A_x ?_))
        exact ⟨rfl,CEnd_i⟩
      dsimp only
      rw [show (p.filterMap fun c => some (V.str [c])) = (p.map fun c => [c]).map V.str from by rw [fm_map,List.map_map]; rfl]
      repeat' (first | (with_reducible refine U_as1 ?_; with_reducible refine S_Assign ?_) | with_reducible refine T_nil ?_ | (with_reducible refine U_name ?_; with_reducible refine N_x ?_) | (with_reducible refine U_str ?_; with_reducible refine T_lit ?_) | with_reducible refine T_BinOp ?_ | with_reducible refine T_IfExp ?_ | (with_reducible refine U_bc1 ?_; with_reducible refine B_Compare ?_) | with_reducible refine ite_in (fun _ => ?_) (fun _ => ?_) | with_reducible refine Cmp_eqs ?_ | (with_reducible refine Bin_adds ?_ ?_; (first | assumption | (first|lia -abstractProof|omega) | (simp only [List.flatten_append,List.flatten_cons,List.flatten_nil,List.append_nil,List.length_append,List.length_cons,List.length_nil,cut_length,List.length_take,List.length_drop,List.length_map]; (first|lia -abstractProof|omega)) | (simp; (first|lia -abstractProof|omega)))) | (with_reducible refine U_addo ?_; with_reducible refine Bin_addLL (by (first | exact LstAt.lst | exact LstAt.own (by (with_reducible first | assumption | exact last_at | exact mid_at | exact mid_at2 | exact low_at (by assumption) | exact low_at (low_at (by assumption)) | exact low_at (low_at (low_at (by assumption))))))) (by (first | exact LstAt.lst | exact LstAt.own (by (with_reducible first | assumption | exact last_at | exact mid_at | exact mid_at2 | exact low_at (by assumption) | exact low_at (low_at (by assumption)) | exact low_at (low_at (low_at (by assumption))))))) (by (first | assumption | (first|lia -abstractProof|omega) | (simp only [List.flatten_append,List.flatten_cons,List.flatten_nil,List.append_nil,List.length_append,List.length_cons,List.length_nil,cut_length,List.length_take,List.length_drop,List.length_map]; (first|lia -abstractProof|omega)) | (simp; (first|lia -abstractProof|omega)))) ?_) | with_reducible refine FK_next ?_ | (with_reducible refine U_asg ?_; with_reducible refine A_x ?_))
      · rename_i q2
        have q2 : p = [0] := by simpa using q2
        rw [E,if_pos q2]
        exact ⟨_,_,_,_,_,_,_,rfl,F.app.app,by rw [List.map_append]; exact last_at,low_at (low_at hkt)⟩
      · rename_i q2
        have q2 : ¬ p = [0] := by simpa using q2
        rw [E,if_neg q2]
        exact ⟨_,_,_,_,_,_,_,rfl,F.app.app,by rw [List.map_append]; exact last_at,low_at (low_at hkt)⟩
    · rename_i q0 q
      have E := hx'
      unfold put7 at E
      dsimp only at E
      rw [hw,if_neg (by rw [m1',q]; decide),if_pos (by rw [m1',q]; rfl)] at E
      refine Item_at (x := V.str [at_ escT (w.fmod 16).toNat]) LstAt.lst (get_at (f := fun c => V.str [c]) w2) (by decide) ?_
      generalize at_ escT (w.fmod 16).toNat = p at E ⊢
      repeat' (first | (with_reducible refine U_as1 ?_; with_reducible refine S_Assign ?_) | with_reducible refine T_nil ?_ | (with_reducible refine U_name ?_; with_reducible refine N_x ?_) | (with_reducible refine U_str ?_; with_reducible refine T_lit ?_) | with_reducible refine T_BinOp ?_ | with_reducible refine T_IfExp ?_ | with_reducible refine T_ListN ?_ | (with_reducible refine U_bc1 ?_; with_reducible refine B_Compare ?_) | with_reducible refine ite_beq (fun _ => ?_) (fun _ => ?_) | (with_reducible refine U_acons ?_; with_reducible refine A_cons ?_) | with_reducible refine A_nil ?_ | with_reducible refine Cmp_eq1 ?_ | (with_reducible refine Bin_adds ?_ ?_; (first | assumption | (first|lia -abstractProof|omega) | (simp only [List.flatten_append,List.flatten_cons,List.flatten_nil,List.append_nil,List.length_append,List.length_cons,List.length_nil,cut_length,List.length_take,List.length_drop,List.length_map]; (first|lia -abstractProof|omega)) | (simp; (first|lia -abstractProof|omega)))) | (with_reducible refine U_addo ?_; with_reducible refine Bin_addLL (by (first | exact LstAt.lst | exact LstAt.own (by (with_reducible first | assumption | exact last_at | exact mid_at | exact mid_at2 | exact low_at (by assumption) | exact low_at (low_at (by assumption)) | exact low_at (low_at (low_at (by assumption))))))) (by (first | exact LstAt.lst | exact LstAt.own (by (with_reducible first | assumption | exact last_at | exact mid_at | exact mid_at2 | exact low_at (by assumption) | exact low_at (low_at (by assumption)) | exact low_at (low_at (low_at (by assumption))))))) (by (first | assumption | (first|lia -abstractProof|omega) | (simp only [List.flatten_append,List.flatten_cons,List.flatten_nil,List.append_nil,List.length_append,List.length_cons,List.length_nil,cut_length,List.length_take,List.length_drop,List.length_map]; (first|lia -abstractProof|omega)) | (simp; (first|lia -abstractProof|omega)))) ?_) | with_reducible refine FK_next ?_ | (with_reducible refine U_asg ?_; with_reducible refine A_x ?_) | (with_reducible refine U_new ?_; with_reducible refine NewL_i ?_))
      · rename_i q2
        have q2 : p = 0 := by simpa using q2
        rw [E,nch,if_pos q2]
        exact ⟨_,_,_,_,_,_,_,rfl,F.app.app,last_at,low_at (low_at hkt)⟩
      · rename_i q2
        have q2 : ¬ p = 0 := by simpa using q2
        rw [E,nch,if_neg q2]
        exact ⟨_,_,_,_,_,_,_,rfl,F.app.app,last_at,low_at (low_at hkt)⟩
    · rename_i q0 q1 q
      have E := hx'
      unfold put7 at E
      dsimp only at E
      rw [hw,if_neg (by rw [m1',q]; decide),if_neg (by rw [m1',q]; decide),if_pos (by rw [m1',q]; rfl)] at E
      refine Ap_Calls (Calls.mono (Calls.lift (lawHex_call hkr hxl FN) (by (first|lia -abstractProof|omega))) ?_)
      rintro _ _ ⟨k,junk,rfl,rfl,hk'⟩
      have hz := (hexs_ok w x.rest).2
      repeat' (first | (with_reducible refine U_as1 ?_; with_reducible refine S_Assign ?_) | with_reducible refine T_nil ?_ | (with_reducible refine U_name ?_; with_reducible refine N_x ?_) | with_reducible refine T_BinOp ?_ | (with_reducible refine Bin_adds ?_ ?_; (first | assumption | (first|lia -abstractProof|omega) | (simp only [List.flatten_append,List.flatten_cons,List.flatten_nil,List.append_nil,List.length_append,List.length_cons,List.length_nil,cut_length,List.length_take,List.length_drop,List.length_map]; (first|lia -abstractProof|omega)) | (simp; (first|lia -abstractProof|omega)))) | (with_reducible refine U_addo ?_; with_reducible refine Bin_addLL (by (first | exact LstAt.lst | exact LstAt.own (by (with_reducible first | assumption | exact last_at | exact mid_at | exact mid_at2 | exact low_at (by assumption) | exact low_at (low_at (by assumption)) | exact low_at (low_at (low_at (by assumption))))))) (by (first | exact LstAt.lst | exact LstAt.own (by (with_reducible first | assumption | exact last_at | exact mid_at | exact mid_at2 | exact low_at (by assumption) | exact low_at (low_at (by assumption)) | exact low_at (low_at (low_at (by assumption))))))) (by (first | assumption | (first|lia -abstractProof|omega) | (simp only [List.flatten_append,List.flatten_cons,List.flatten_nil,List.append_nil,List.length_append,List.length_cons,List.length_nil,cut_length,List.length_take,List.length_drop,List.length_map]; (first|lia -abstractProof|omega)) | (simp; (first|lia -abstractProof|omega)))) ?_) | with_reducible refine FK_next ?_ | (with_reducible refine U_asg ?_; with_reducible refine A_x ?_) | (with_reducible refine U_atup ?_; with_reducible refine Asg_Tuple ?_) | with_reducible refine AsgL_cons ?_ | with_reducible refine AsgL_nil ?_)
      rw [E]
      exact ⟨_,_,_,_,_,_,_,rfl,F.app.app,by rw [List.map_append]; exact last_at,low_at (low_at hkt)⟩
    · rename_i q0 q1 q2 q
      have E := hx'
      unfold put7 at E
      dsimp only at E
      rw [hw,if_neg (by rw [m1',q]; decide),if_neg (by rw [m1',q]; decide),if_neg (by rw [m1',q]; decide),if_pos (by rw [m1',q]; rfl)] at E
      refine Ap_is (Calls.lift (lineEnd_call hkr hxl FN) (by (first|lia -abstractProof|omega))) ?_
      repeat' (first | with_reducible refine T_nil ?_ | (with_reducible refine U_name ?_; with_reducible refine N_x ?_) | with_reducible refine A_nil ?_ | (with_reducible refine U_addo ?_; with_reducible refine Bin_addLL (by (first | exact LstAt.lst | exact LstAt.own (by (with_reducible first | assumption | exact last_at | exact mid_at | exact mid_at2 | exact low_at (by assumption) | exact low_at (low_at (by assumption)) | exact low_at (low_at (low_at (by assumption))))))) (by (first | exact LstAt.lst | exact LstAt.own (by (with_reducible first | assumption | exact last_at | exact mid_at | exact mid_at2 | exact low_at (by assumption) | exact low_at (low_at (by assumption)) | exact low_at (low_at (low_at (by assumption))))))) (by (first | assumption | (first|lia -abstractProof|omega) | (simp only [List.flatten_append,List.flatten_cons,List.flatten_nil,List.append_nil,List.length_append,List.length_cons,List.length_nil,cut_length,List.length_take,List.length_drop,List.length_map]; (first|lia -abstractProof|omega)) | (simp; (first|lia -abstractProof|omega)))) ?_) | with_reducible refine FK_next ?_ | (with_reducible refine U_asg ?_; with_reducible refine A_x ?_) | (with_reducible refine U_new ?_; with_reducible refine NewL_i ?_))
      rw [E]
      exact ⟨_,_,_,_,_,_,_,rfl,F.app.app,last_at,low_at (low_at hkt)⟩
    · rename_i q0 q1 q2 q3
      have q : m = 4 := by (first|lia -abstractProof|omega)
      have E := hx'
      unfold put7 at E
      dsimp only at E
      rw [hw,if_neg (by rw [m1',q]; decide),if_neg (by rw [m1',q]; decide),if_neg (by rw [m1',q]; decide),if_neg (by rw [m1',q]; decide)] at E
      rw [show ([V.str [x.quote]] ++ List.map V.str x.rest).length = ([x.quote] :: x.rest).length from by simp]
      refine Ap_is (Calls.lift (entries_call I7.f) (by (first|lia -abstractProof|omega))) ?_
      repeat' (first | (with_reducible refine U_name ?_; with_reducible refine N_x ?_))
      have ez := (entry_ok (f := x.fault) (left := ([x.quote] :: x.rest).length) O7.v).2
      refine Bin_addL (xs := (entry x.fault ([x.quote] :: x.rest).length x.value).map toldV) (ys := x.told.map toldV) LstAt.lst (LstAt.own (low_at (low_at hkt))) (by rw [List.length_map,List.length_map]; (first|lia -abstractProof|omega)) ?_
      refine A_x ?_
      have F := F.app (r := [AObj.list [V.str [x.quote]]]) |>.app (r := [AObj.list ([V.str [x.quote]] ++ List.map V.str x.rest)]) |>.app (r := [AObj.list (List.map toldV (entry x.fault ([x.quote] :: x.rest).length x.value) ++ List.map toldV x.told)])
      have hr1 : (H ++ [AObj.list [V.str [x.quote]]] ++ [AObj.list ([V.str [x.quote]] ++ List.map V.str x.rest)] ++ [AObj.list (List.map toldV (entry x.fault ([x.quote] :: x.rest).length x.value) ++ List.map toldV x.told)])[(H ++ [AObj.list [V.str [x.quote]]]).length]? = some (.list (([x.quote] :: x.rest).map V.str)) := low_at last_at
      have ht1 : (H ++ [AObj.list [V.str [x.quote]]] ++ [AObj.list ([V.str [x.quote]] ++ List.map V.str x.rest)] ++ [AObj.list (List.map toldV (entry x.fault ([x.quote] :: x.rest).length x.value) ++ List.map toldV x.told)])[(H ++ [AObj.list [V.str [x.quote]]] ++ [AObj.list ([V.str [x.quote]] ++ List.map V.str x.rest)]).length]? = some (.list ((entry x.fault ([x.quote] :: x.rest).length x.value ++ x.told).map toldV)) := by rw [List.map_append]; exact last_at
      generalize (H ++ [AObj.list [V.str [x.quote]]] ++ [AObj.list ([V.str [x.quote]] ++ List.map V.str x.rest)] ++ [AObj.list (List.map toldV (entry x.fault ([x.quote] :: x.rest).length x.value) ++ List.map toldV x.told)]) = H1 at F hr1 ht1 ⊢
      generalize (H ++ [AObj.list [V.str [x.quote]]] ++ [AObj.list ([V.str [x.quote]] ++ List.map V.str x.rest)]).length = kt1 at ht1 ⊢
      generalize (H ++ [AObj.list [V.str [x.quote]]]).length = kr1 at hr1 ⊢
      have rz : ([x.quote] :: x.rest).length ≤ 1000 := by have := O7.rl; rw [List.length_cons]; (first|lia -abstractProof|omega)
      have tz : (entry x.fault ([x.quote] :: x.rest).length x.value ++ x.told).length ≤ 1000 := by have := O7.tl; rw [List.length_append]; (first|lia -abstractProof|omega)
      generalize entry x.fault ([x.quote] :: x.rest).length x.value ++ x.told = told1 at E ht1 tz ⊢
      refine S_Assign (T_lit ?_)
      refine A_x ?_
      refine S_Assign ?_
      refine T.mono (Q := fun v st => v = V.str [if w.fmod 2 = 0 then 34 else 39] ∧ st = ⟨[(oS "script",V.lst (ns.map V.int)),(oS "tape",V.own kp),(oS "quote",V.str [x.quote]),(oS "close",V.int (c : Nat)),(oS "rest",V.own kr1),(oS "fault",V.str (faultS x.fault)),(oS "told",V.own kt1),(oS "value",V.str []),(oS "n",V.int n),(oS "way",V.int w),(oS "word",v3),(oS "signs",v4),(oS "places",V.undef),(oS "meant",V.undef)],H1⟩) (T_IfExp ?_) ?_
      · obtain ⟨m3,m4⟩ := fmod_nat (i := w) (n := 2) (by decide)
        have m3' : w.fmod 2 = ((w.fmod ((2 : Nat) : Int)).toNat : Nat) := m3
        repeat' (first | (with_reducible refine U_name ?_; with_reducible refine N_x ?_) | with_reducible refine T_nat ?_ | (with_reducible refine U_str ?_; with_reducible refine T_lit ?_) | with_reducible refine T_BinOp ?_ | with_reducible refine B_val ?_ | with_reducible refine ite_ne0 (fun _ => ?_) (fun _ => ?_) | with_reducible refine Truth_nat ?_ | with_reducible refine Bin_modh (by assumption) (by decide) ?_)
        · rename_i q
          exact ⟨by rw [if_neg (by (first|lia -abstractProof|omega))],rfl⟩
        · rename_i q
          exact ⟨by rw [if_pos (by (first|lia -abstractProof|omega))],rfl⟩
      rintro _ _ ⟨rfl,rfl⟩
      generalize (if w.fmod 2 = 0 then 34 else 39 : Nat) = q' at E ⊢
      refine A_x ?_
      obtain ⟨m5,m6⟩ := fmod_nat (i := w.fdiv ((2 : Nat) : Int)) (n := 2) (by decide)
      have m5' : (w.fdiv 2).fmod 2 = (((w.fdiv ((2 : Nat) : Int)).fmod ((2 : Nat) : Int)).toNat : Nat) := m5
      repeat' (first | with_reducible refine S_IfE ?_ | (with_reducible refine U_name ?_; with_reducible refine N_x ?_) | with_reducible refine T_nat ?_ | with_reducible refine T_BinOp ?_ | with_reducible refine B_val ?_)
      refine Bin_fdiv (by decide) (by decide) ?_
      repeat' (first | (with_reducible refine U_as1 ?_; with_reducible refine S_Assign ?_) | with_reducible refine T_nil ?_ | (with_reducible refine U_name ?_; with_reducible refine N_x ?_) | with_reducible refine T_nat ?_ | (with_reducible refine U_str ?_; with_reducible refine T_lit ?_) | with_reducible refine T_BinOp ?_ | (with_reducible refine U_call ?_; with_reducible refine Q_call (by assumption) ?_) | (with_reducible refine U_sub ?_; with_reducible refine T_Sub ?_) | with_reducible refine T_ListN ?_ | with_reducible refine ite_ne0 (fun _ => ?_) (fun _ => ?_) | (with_reducible refine U_acons ?_; with_reducible refine A_cons ?_) | with_reducible refine A_nil ?_ | (with_reducible refine U_addo ?_; with_reducible refine Bin_addLL (by (first | exact LstAt.lst | exact LstAt.own (by (with_reducible first | assumption | exact last_at | exact mid_at | exact mid_at2 | exact low_at (by assumption) | exact low_at (low_at (by assumption)) | exact low_at (low_at (low_at (by assumption))))))) (by (first | exact LstAt.lst | exact LstAt.own (by (with_reducible first | assumption | exact last_at | exact mid_at | exact mid_at2 | exact low_at (by assumption) | exact low_at (low_at (by assumption)) | exact low_at (low_at (low_at (by assumption))))))) (by (first | assumption | (first|lia -abstractProof|omega) | (simp only [List.flatten_append,List.flatten_cons,List.flatten_nil,List.append_nil,List.length_append,List.length_cons,List.length_nil,cut_length,List.length_take,List.length_drop,List.length_map]; (first|lia -abstractProof|omega)) | (simp; (first|lia -abstractProof|omega)))) ?_) | with_reducible refine FK_next ?_ | (with_reducible refine U_asg ?_; with_reducible refine A_x ?_) | (with_reducible refine U_new ?_; with_reducible refine NewL_i ?_) | with_reducible refine Truth_nat ?_ | (with_reducible refine U_fn 39 ?_; with_reducible refine Ap_is (Calls.lift ends_call (by (first|lia -abstractProof|omega))) ?_) | with_reducible refine Bin_modh (by assumption) (by decide) ?_)
      · rename_i q4
        rw [if_neg (by (first|lia -abstractProof|omega))] at E
        refine Bin_fdiv (by decide) (by decide) ?_
        obtain ⟨d1,d2⟩ := fmod_nat (i := w.fdiv ((4 : Nat) : Int)) (n := 4) (by decide)
        repeat' (first | with_reducible refine T_nat ?_ | with_reducible refine Bin_modh (by assumption) (by decide) ?_)
        refine Item_at LstAt.lst (get_at d2) (by decide) ?_
        rw [show at_ ends ((w.fdiv ((4 : Nat) : Int)).fmod ((4 : Nat) : Int)).toNat = endOf (w.fdiv 4) from rfl]
        repeat' (first | (with_reducible refine U_as1 ?_; with_reducible refine S_Assign ?_) | with_reducible refine T_nil ?_ | (with_reducible refine U_name ?_; with_reducible refine N_x ?_) | (with_reducible refine U_str ?_; with_reducible refine T_lit ?_) | with_reducible refine T_BinOp ?_ | (with_reducible refine U_call ?_; with_reducible refine Q_call (by assumption) ?_) | with_reducible refine T_Tuple ?_ | with_reducible refine T_ListN ?_ | (with_reducible refine U_acons ?_; with_reducible refine A_cons ?_) | with_reducible refine A_nil ?_ | (with_reducible refine U_addo ?_; with_reducible refine Bin_addLL (by (first | exact LstAt.lst | exact LstAt.own (by (with_reducible first | assumption | exact last_at | exact mid_at | exact mid_at2 | exact low_at (by assumption) | exact low_at (low_at (by assumption)) | exact low_at (low_at (low_at (by assumption))))))) (by (first | exact LstAt.lst | exact LstAt.own (by (with_reducible first | assumption | exact last_at | exact mid_at | exact mid_at2 | exact low_at (by assumption) | exact low_at (low_at (by assumption)) | exact low_at (low_at (low_at (by assumption))))))) (by (first | assumption | (first|lia -abstractProof|omega) | (simp only [List.flatten_append,List.flatten_cons,List.flatten_nil,List.append_nil,List.length_append,List.length_cons,List.length_nil,cut_length,List.length_take,List.length_drop,List.length_map]; (first|lia -abstractProof|omega)) | (simp; (first|lia -abstractProof|omega)))) ?_) | (with_reducible refine U_raw "len" ?_; with_reducible refine Ap_len (by (first | exact LstAt.lst | exact LstAt.own (by (with_reducible first | assumption | exact last_at | exact mid_at | exact mid_at2 | exact low_at (by assumption) | exact low_at (low_at (by assumption)) | exact low_at (low_at (low_at (by assumption))))))) (by (first | assumption | (first|lia -abstractProof|omega) | (simp only [List.flatten_append,List.flatten_cons,List.flatten_nil,List.append_nil,List.length_append,List.length_cons,List.length_nil,cut_length,List.length_take,List.length_drop,List.length_map]; (first|lia -abstractProof|omega)) | (simp; (first|lia -abstractProof|omega)))) ?_) | with_reducible refine FK_next ?_ | (with_reducible refine U_asg ?_; with_reducible refine A_x ?_) | (with_reducible refine U_new ?_; with_reducible refine NewL_i ?_) | with_reducible refine size_and (by simp only [List.length_cons,List.length_nil]; (first|lia -abstractProof|omega)) ?_)
        rw [show ([V.str (endOf (w.fdiv 4))] ++ List.map V.str ([x.quote] :: x.rest)).length = ([x.quote] :: x.rest).length + 1 from by simp]
        rw [E]
        exact ⟨_,_,_,_,_,_,_,rfl,F.app.app.app.app,low_at (low_at last_at),last_at⟩
      · rename_i q4
        rw [if_pos (by (first|lia -abstractProof|omega))] at E
        rw [E]
        exact ⟨_,_,_,_,_,_,_,rfl,F.app.app,last_at,low_at (low_at ht1)⟩
  · clear F hkr hkt H kr kt
    rintro st ⟨kr,kt,v1,v2,v3,v4,H,rfl,F,hkr,hkt⟩
    rw [List.length_map] at hkr hkt ⊢
    have I7 := put_at_in tp tp.length
    have O7 := put_at_size tp tp.length (Nat.le_refl _)
    have FN := put_at_fine tp tp.length (Nat.le_refl _)
    have r7 := read7 ns
    have e7 : put_all ns = put_at tp tp.length := by unfold put_all put_at; rw [hT,List.take_length]
    unfold told7 rest7 at r7
    rw [e7] at r7
    generalize put_at tp tp.length = x at *
    have hxl : x.rest.length ≤ 161 := by have := O7.rl; (first|lia -abstractProof|omega)
    have hxt : x.told.length ≤ 61 := by have := O7.tl; (first|lia -abstractProof|omega)
    repeat' (first | (with_reducible refine U_as1 ?_; with_reducible refine S_Assign ?_) | (with_reducible refine U_name ?_; with_reducible refine N_x ?_) | with_reducible refine T_BinOp ?_ | (with_reducible refine U_call ?_; with_reducible refine Q_call (by assumption) ?_) | with_reducible refine T_ListN ?_ | (with_reducible refine U_acons ?_; with_reducible refine A_cons ?_) | with_reducible refine A_nil ?_ | (with_reducible refine U_addo ?_; with_reducible refine Bin_addLL (by (first | exact LstAt.lst | exact LstAt.own (by (with_reducible first | assumption | exact last_at | exact mid_at | exact mid_at2 | exact low_at (by assumption) | exact low_at (low_at (by assumption)) | exact low_at (low_at (low_at (by assumption))))))) (by (first | exact LstAt.lst | exact LstAt.own (by (with_reducible first | assumption | exact last_at | exact mid_at | exact mid_at2 | exact low_at (by assumption) | exact low_at (low_at (by assumption)) | exact low_at (low_at (low_at (by assumption))))))) (by (first | assumption | (first|lia -abstractProof|omega) | (simp only [List.flatten_append,List.flatten_cons,List.flatten_nil,List.append_nil,List.length_append,List.length_cons,List.length_nil,cut_length,List.length_take,List.length_drop,List.length_map]; (first|lia -abstractProof|omega)) | (simp; (first|lia -abstractProof|omega)))) ?_) | (with_reducible refine U_raw "len" ?_; with_reducible refine Ap_len (by (first | exact LstAt.lst | exact LstAt.own (by (with_reducible first | assumption | exact last_at | exact mid_at | exact mid_at2 | exact low_at (by assumption) | exact low_at (low_at (by assumption)) | exact low_at (low_at (low_at (by assumption))))))) (by (first | assumption | (first|lia -abstractProof|omega) | (simp only [List.flatten_append,List.flatten_cons,List.flatten_nil,List.append_nil,List.length_append,List.length_cons,List.length_nil,cut_length,List.length_take,List.length_drop,List.length_map]; (first|lia -abstractProof|omega)) | (simp; (first|lia -abstractProof|omega)))) ?_) | (with_reducible refine U_asg ?_; with_reducible refine A_x ?_) | (with_reducible refine U_new ?_; with_reducible refine NewL_i ?_))
    rw [show ([V.str [x.quote]] ++ List.map V.str x.rest).length = ([x.quote] :: x.rest).length from by simp]
    refine Ap_is (Calls.lift (entries_call I7.f) (by (first|lia -abstractProof|omega))) ?_
    repeat' (first | (with_reducible refine U_name ?_; with_reducible refine N_x ?_))
    have ez := entry_ok (f := x.fault) (left := ([x.quote] :: x.rest).length) O7.v
    refine Bin_addL (xs := (entry x.fault ([x.quote] :: x.rest).length x.value).map toldV) (ys := x.told.map toldV) LstAt.lst (LstAt.own (low_at (low_at hkt))) (by rw [List.length_map,List.length_map]; (first|lia -abstractProof|omega)) ?_
    refine A_x ?_
    have F := F.app (r := [AObj.list [V.str [x.quote]]]) |>.app (r := [AObj.list ([V.str [x.quote]] ++ List.map V.str x.rest)]) |>.app (r := [AObj.list (List.map toldV (entry x.fault ([x.quote] :: x.rest).length x.value) ++ List.map toldV x.told)])
    have hr1 : (H ++ [AObj.list [V.str [x.quote]]] ++ [AObj.list ([V.str [x.quote]] ++ List.map V.str x.rest)] ++ [AObj.list (List.map toldV (entry x.fault ([x.quote] :: x.rest).length x.value) ++ List.map toldV x.told)])[(H ++ [AObj.list [V.str [x.quote]]]).length]? = some (.list (([x.quote] :: x.rest).map V.str)) := low_at last_at
    have ht1 : (H ++ [AObj.list [V.str [x.quote]]] ++ [AObj.list ([V.str [x.quote]] ++ List.map V.str x.rest)] ++ [AObj.list (List.map toldV (entry x.fault ([x.quote] :: x.rest).length x.value) ++ List.map toldV x.told)])[(H ++ [AObj.list [V.str [x.quote]]] ++ [AObj.list ([V.str [x.quote]] ++ List.map V.str x.rest)]).length]? = some (.list ((entry x.fault ([x.quote] :: x.rest).length x.value ++ x.told).map toldV)) := by rw [List.map_append]; exact last_at
    generalize (H ++ [AObj.list [V.str [x.quote]]] ++ [AObj.list ([V.str [x.quote]] ++ List.map V.str x.rest)] ++ [AObj.list (List.map toldV (entry x.fault ([x.quote] :: x.rest).length x.value) ++ List.map toldV x.told)]) = H1 at F hr1 ht1 ⊢
    generalize (H ++ [AObj.list [V.str [x.quote]]] ++ [AObj.list ([V.str [x.quote]] ++ List.map V.str x.rest)]).length = kt1 at ht1 ⊢
    generalize (H ++ [AObj.list [V.str [x.quote]]]).length = kr1 at hr1 ⊢
    have rz : ([x.quote] :: x.rest).length ≤ 162 := by rw [List.length_cons]; (first|lia -abstractProof|omega)
    have dt : ∀ y ∈ entry x.fault ([x.quote] :: x.rest).length x.value ++ x.told,Ch y.2.2 := mem2 ez.1 O7.t
    generalize entry x.fault ([x.quote] :: x.rest).length x.value ++ x.told = Td at r7 ht1 dt ⊢
    generalize [x.quote] :: x.rest = R at r7 hr1 rz ⊢
    obtain ⟨rd,sd⟩ := r7
    have sg := sd.all
    have css : nrm R.flatten = R.map nsg := nrm_side sd
    have tl := told_len rd
    rw [List.length_map] at tl
    refine S_Assign ?_
    repeat' (first | (with_reducible refine U_name ?_; with_reducible refine N_x ?_) | (with_reducible refine U_call ?_; with_reducible refine Q_call (by assumption) ?_) | (with_reducible refine U_acons ?_; with_reducible refine A_cons ?_) | with_reducible refine A_nil ?_)
    refine Ap_is (Calls.lift (places7_call hr1 (by (first|lia -abstractProof|omega)) sg) (by (first|lia -abstractProof|omega))) ?_
    refine A_x ?_
    have pl := places7_len R
    have tn : Td.length ≤ 1000 := by (first|lia -abstractProof|omega)
    refine S_AssignC (vars₀ := [(oS ".0",V.undef),(oS "kind",V.undef),(oS "left",V.undef),(oS "word",V.undef),(oS "places",V.lst (List.map placeW (places7 R))),(oS "rest",V.own kr1)]) (.loc (.loc (.loc (.loc (.glo (.fre (.there (.there (.there (.there (.there (.there (.there (.there (.there (.there (.there (.there .here)))))))))))) (by unfold Env.kindOf; rw [he]; rfl) (.fre (.there (.there (.there (.there .here)))) (by unfold Env.kindOf; rw [he]; rfl) .nil))))))) ?_ (swap_sc he (by rfl)) (by rfl) (by intro _; rfl)
    repeat' (first | (with_reducible refine U_name ?_; with_reducible refine N_x ?_))
    refine ⟨_,Td,toldV,(fun y => some (rowW (rowOf7 (R.map nsg) y))),_,[(oS ".0",V.undef),(oS "kind",V.undef),(oS "left",V.undef),(oS "word",V.undef),(oS "places",V.lst (List.map placeW (places7 R))),(oS "rest",V.own kr1)],[(oS "len",(.raw (.builtin "len") : V))],itv_own ht1,ht1,by (first|lia -abstractProof|omega),.loc (.loc (.loc (.loc (.glo (.fre (.there (.there (.there (.there (.there (.there (.there (.there (.there (.there (.there (.there .here)))))))))))) (by unfold Env.kindOf; rw [he]; rfl) (.fre (.there (.there (.there (.there .here)))) (by unfold Env.kindOf; rw [he]; rfl) .nil)))))),by rfl,?_,?_⟩
    · rintro e' he' hg' ⟨k,left,word⟩ hy
      obtain ⟨l1,l2,l3⟩ := tl.2 _ hy
      have l1 : 1 ≤ left := l1
      have l2 : left ≤ R.length := l2
      unfold CT toldV
      dsimp only
      repeat' (first | (with_reducible refine U_name ?_; with_reducible refine N_x ?_) | with_reducible refine T_BinOp ?_ | (with_reducible refine U_call ?_; with_reducible refine Q_call (by assumption) ?_) | (with_reducible refine U_sub ?_; with_reducible refine T_Sub ?_) | with_reducible refine T_Tuple ?_ | with_reducible refine B_tests0 ?_ | with_reducible refine ite_tt ?_ | (with_reducible refine U_acons ?_; with_reducible refine A_cons ?_) | with_reducible refine A_nil ?_ | with_reducible refine Bin_sub ?_ | (with_reducible refine U_raw "len" ?_; with_reducible refine Ap_lenM (by (first | exact LstAt.lst | exact LstAt.own (by (with_reducible first | assumption | exact last_at | exact mid_at | exact mid_at2 | exact low_at (by assumption) | exact low_at (low_at (by assumption)) | exact low_at (low_at (low_at (by assumption))))))) (by (first | assumption | (first|lia -abstractProof|omega) | (simp only [List.flatten_append,List.flatten_cons,List.flatten_nil,List.append_nil,List.length_append,List.length_cons,List.length_nil,cut_length,List.length_take,List.length_drop,List.length_map]; (first|lia -abstractProof|omega)) | (simp; (first|lia -abstractProof|omega)))) ?_) | (with_reducible refine U_asg ?_; with_reducible refine A_x ?_) | (with_reducible refine U_atup ?_; with_reducible refine Asg_Tuple ?_) | with_reducible refine AsgL_cons ?_ | with_reducible refine AsgL_nil ?_)
      rw [← Int.natCast_sub l2]
      refine Item_at (xs := (places7 R).map placeW) LstAt.lst (get_at (by (first|lia -abstractProof|omega))) (by rw [List.length_map]; (first|lia -abstractProof|omega)) ?_
      rw [places_at l1 l2]
      repeat' (first | (with_reducible refine U_name ?_; with_reducible refine N_x ?_) | (with_reducible refine U_acons ?_; with_reducible refine A_cons ?_) | with_reducible refine A_nil ?_ | with_reducible refine size_and (by simp only [List.length_cons,List.length_nil]; (first|lia -abstractProof|omega)) ?_)
      exact ⟨rfl,CEnd_i⟩
    dsimp only
    rw [show Td.filterMap (fun y => some (rowW (rowOf7 (R.map nsg) y))) = (Td.map (rowOf7 (R.map nsg))).map rowW from by rw [fm_map,List.map_map]; rfl]
    repeat' (first | with_reducible refine S_Return ?_ | (with_reducible refine U_name ?_; with_reducible refine N_x ?_) | (with_reducible refine U_str ?_; with_reducible refine T_lit ?_) | (with_reducible refine U_call ?_; with_reducible refine Q_call (by assumption) ?_) | (with_reducible refine U_cmp ?_; with_reducible refine T_Compare ?_) | (with_reducible refine U_meth "join" ?_; with_reducible refine M_join ?_) | (with_reducible refine U_acons ?_; with_reducible refine A_cons ?_) | with_reducible refine A_nil ?_ | (with_reducible refine U_asg ?_; with_reducible refine A_x ?_) | (with_reducible refine U_ex1 ?_; with_reducible refine ⟨_,rfl,?_⟩))
    have hr2 : (H1 ++ [AObj.list ((Td.map (rowOf7 (R.map nsg))).map rowW)])[kr1]? = some (.list (R.map V.str)) := low_at hr1
    have F2 := F.app (r := [AObj.list ((Td.map (rowOf7 (R.map nsg))).map rowW)])
    have hm2 : (H1 ++ [AObj.list ((Td.map (rowOf7 (R.map nsg))).map rowW)])[H1.length]? = some (.list ((Td.map (rowOf7 (R.map nsg))).map rowW)) := last_at
    generalize H1 ++ [AObj.list ((Td.map (rowOf7 (R.map nsg))).map rowW)] = H2 at hr2 F2 hm2 ⊢
    generalize H1.length = km at hm2 ⊢
    have hfl := flat2 sg
    refine Ap_join_own hr2 (strsOf_map R) (by (first|lia -abstractProof|omega)) ?_
    repeat' (first | with_reducible refine A_nil ?_)
    have hR := told_R7 rd []
    rw [List.nil_append,List.length_nil,← css] at hR
    refine Ap_Calls (Calls.mono (Calls.lift (pcvl7_call (by (first|lia -abstractProof|omega)) (Nat.le_refl 1) F2.1 hR (by rw [List.length_map]; (first|lia -abstractProof|omega))) (by (first|lia -abstractProof|omega))) ?_)
    rintro _ _ ⟨rfl,rfl⟩
    repeat' (first | with_reducible refine A_nil ?_)
    refine Ap_is (Calls.lift (read7_call (css := nrm R.flatten) (o := Td) (mid_at (hp := H2)) (by (first|lia -abstractProof|omega)) (by rw [css,List.length_map]; exact tl.2)) (by (first|lia -abstractProof|omega))) ?_
    repeat' (first | (with_reducible refine U_name ?_; with_reducible refine N_x ?_))
    rw [css]
    refine Cmp_eqLD LstAt.lst (LstAt.own (low_at hm2)) (rows_D _ fun y hy => ?_) (by have := rows_dep (Td.map (rowOf7 (R.map nsg))); rw [PyData.depth]; (first|lia -abstractProof|omega)) ?_
    · obtain ⟨z,hz,rfl⟩ := List.mem_map.mp hy
      exact ⟨kind7_ch _,word7_ch (dt z hz)⟩
    repeat' fail
    exact ⟨rfl,low_at F2.1,low_at F2.2.1⟩
end
end
section
set_option maxRecDepth 100000
set_option maxHeartbeats 8000000
section
variable {w : World} {mg mb : Str → Option Value}
theorem rel_ints {C : Cx} {B : Base} {σ : List Addr} {P : Params} {h : Heap} : ∀ {vs : List Value} {ns : List Int},WellAll P h vs (ns.map WData.int) → RelL C B σ (ns.map V.int) vs
  | _,[],h => by cases h; rfl
  | _,n :: ns,h => by
    cases h with
    | cons h1 h2 => cases h1 with
      | int i t => exact ⟨_,_,rfl,⟨t,rfl⟩,rel_ints h2⟩
theorem ofPy_ints (ns : List Int) : ofPys (ns.map PyData.int) = ns.map WData.int := by
  rw [ofPys_eq,List.map_map]
  exact List.map_congr_left fun n _ => by rw [Function.comp,ofPy]
theorem start_G {C : Cx} {s₁ : Shared} (hok : C.Ok) (hb : C.b0 = cutB s₁.heap) (hos : C.os = s₁.os) (htk : C.tk = 0) (c5 : s₁.heap.IsCode 33 29 #[]) (c6 : s₁.heap.IsCode 40 36 #[]) (t5 : s₁.heap.TableAt 33 29 #[]) (t6 : s₁.heap.TableAt 40 36 #[]) (hg : s₁.gens = #[]) :
    G C (fun _ => none) (cutB s₁.heap) [29,36] [.tab 33,.tab 40] s₁ where
  ok := hok
  bh := cutB_sub
  b0 := by rw [hb]; exact Sub.refl _
  kh := fun a o q => by cases q
  len := rfl
  own := fun j b ao h1 h2 h3 => by
    have hn : cutB s₁.heap 29 = none := if_pos (.inl rfl)
    have hn' : cutB s₁.heap 36 = none := if_pos (.inr rfl)
    obtain ⟨⟨o5,v5,g5,_⟩,b5⟩ := id t5
    obtain ⟨⟨o6,v6,g6,_⟩,b6⟩ := id t6
    rcases j with _ | _ | j
    · simp only [List.getElem?_cons_zero,Option.some.injEq] at h1 h2
      subst h1; subst h2
      exact ⟨rfl,hn,⟨_,b5⟩,⟨o5,(cutB_ne (by decide) (by decide)).trans g5⟩,_,c5,t5⟩
    · simp only [Nat.zero_add,List.getElem?_cons_succ,List.getElem?_cons_zero,Option.some.injEq] at h1 h2
      subst h1; subst h2
      exact ⟨rfl,hn',⟨_,b6⟩,⟨o6,(cutB_ne (by decide) (by decide)).trans g6⟩,_,c6,t6⟩
    · simp at h1
  inj := fun j k b aj ak h1 h2 h3 h4 _ _ => by
    rcases j with _ | _ | j <;> rcases k with _ | _ | k
    · rfl
    · simp only [List.getElem?_cons_zero,Nat.zero_add,List.getElem?_cons_succ,Option.some.injEq] at h1 h2; exact absurd (h1.trans h2.symm) (by decide)
    · simp at h2
    · simp only [List.getElem?_cons_zero,Nat.zero_add,List.getElem?_cons_succ,Option.some.injEq] at h1 h2; exact absurd (h1.trans h2.symm) (by decide)
    · rfl
    · simp at h2
    · simp at h1
    · simp at h1
    · simp at h1
  gens := .of_eq hg
  os := hos.symm
  tk := by rw [htk]; exact Nat.zero_le _
theorem start_arg {C : Cx} {h : Heap} {P : Params} {a : Addr} {ns : List Int} (t5 : h.TableAt 33 29 #[]) (t6 : h.TableAt 40 36 #[]) (hw : Well P h (.ref a) (ofPy (.list (ns.map PyData.int)))) : Rel C (cutB h) [29,36] (.lst (ns.map V.int)) (.ref a) := by
  rw [ofPy,ofPy_ints] at hw
  cases hw with
  | list h1 h2 =>
    simp only [Rel]
    refine ⟨a,_,_,rfl,(cutB_ne (fun q => ?_) (fun q => ?_)).trans h1,by simpa using rel_ints h2⟩
    · have := t5.2; rw [← q,h1] at this; cases this
    · have := t6.2; rw [← q,h1] at this; cases this
theorem end_old {C : Cx} {s₁ s' : Shared} {B' : Base} {σ' : List Addr} {hp' : List AObj} (t5 : s₁.heap.TableAt 33 29 #[]) (t6 : s₁.heap.TableAt 40 36 #[]) (h1 : Sub (cutB s₁.heap) B') (h2 : [29,36] <+: σ') (h3 : G C (fun _ => none) B' σ' hp' s') (h5 : hp'[0]? = some (.tab 33)) (h6 : hp'[1]? = some (.tab 40)) : OldK s₁.heap s'.heap := by
  obtain ⟨σ₂,rfl⟩ := h2
  obtain ⟨_,_,_,_,p5,_,q5⟩ := h3.own 0 29 _ rfl h5 trivial
  obtain ⟨_,_,_,_,p6,_,q6⟩ := h3.own 1 36 _ rfl h6 trivial
  have keep : ∀ c o,c ≠ 29 → c ≠ 36 → s₁.heap.get? c = some o → s'.heap.get? c = some o := fun c o z1 z2 e => h3.bh c o (h1 c o ((cutB_ne z1 z2).trans e))
  refine ⟨fun c o e => ?_,fun c o e => ?_⟩
  · by_cases z1 : c = 29
    · subst z1
      have e := Option.some.inj (t5.2.symm.trans e)
      subst e
      exact .inr (.inl ⟨t5.isCodeTable,rfl,#[],p5,rfl,by rw [q5.2]; simp⟩)
    by_cases z2 : c = 36
    · subst z2
      have e := Option.some.inj (t6.2.symm.trans e)
      subst e
      exact .inr (.inl ⟨t6.isCodeTable,rfl,#[],p6,rfl,by rw [q6.2]; simp⟩)
    exact .inl (keep c o z1 z2 e)
  · by_cases z1 : c = 29
    · exact ⟨_,z1 ▸ q5.2⟩
    by_cases z2 : c = 36
    · exact ⟨_,z2 ▸ q6.2⟩
    exact ⟨_,keep c o z1 z2 e⟩
theorem fin_law {C : Cx} {s₁ : Shared} {a f : Addr} {i : Nat} {ns : List Int} (hok : C.Ok) (hb : C.b0 = cutB s₁.heap) (hos : C.os = s₁.os) (htk : C.tk = 0)
    (c5 : s₁.heap.IsCode 33 29 #[]) (c6 : s₁.heap.IsCode 40 36 #[]) (t5 : s₁.heap.TableAt 33 29 #[]) (t6 : s₁.heap.TableAt 40 36 #[])
    (hw : Well C.w.params s₁.heap (.ref a) (ofPy (.list (ns.map PyData.int)))) (hg : s₁.gens = #[]) (hf : IsFn C i f)
    (hlaw : Calls C 300 (.fn i) [.lst (ns.map V.int)] [.tab 33,.tab 40] fun v hp' => v = .bool true ∧ hp'[0]? = some (.tab 33) ∧ hp'[1]? = some (.tab 40)) :
    codeAny (model P C.w) callerA (.call (.ref f) ⟨[.ref a],[]⟩) (fun r s' => r = .ok (.ret (.bool true)) ∧ OldK s₁.heap s'.heap ∧ s'.os = s₁.os ∧ AllBare s'.gens) s₁ := by
  have ra : RelL C (cutB s₁.heap) [29,36] [.lst (ns.map V.int)] [.ref a] := ⟨.ref a,[],rfl,start_arg t5 t6 hw,rfl⟩
  have hA : AOk 300 callerA := ⟨rfl,by decide,by decide⟩
  refine codeAny_mono (hlaw callerA (fun _ => none) (cutB s₁.heap) [29,36] s₁ (.ref f) [.ref a] hA (start_G hok hb hos htk c5 c6 t5 t6 hg) ⟨f,rfl,hf⟩ ra) fun r s' hr => ?_
  obtain ⟨v,B',σ',b,hp',rfl,h1,h2,h3,h4,rfl,h5,h6⟩ := hr
  have h4 : v = .bool true := h4
  subst h4
  exact ⟨rfl,end_old t5 t6 h1 h2 h3 h5 h6,h3.os.trans hos,h3.gens⟩
theorem more_of {h : Heap} {K : Frag} (H : HeadOk w mg mb h K) : tabB K 34 33 29 = true ∧ tabB K 41 40 36 = true ∧ mg "serialize_string_value" = some (.ref 34) ∧ mg "serialize_url" = some (.ref 41) ∧ mg "law" = some (.ref 746) := by
  have q := (facts_of H).2.2.2.2.2.2.2
  unfold moreB at q
  obtain ⟨h1,q⟩ := Bool.and_eq_true_iff.mp q
  obtain ⟨h2,q⟩ := Bool.and_eq_true_iff.mp q
  obtain ⟨h3,q⟩ := Bool.and_eq_true_iff.mp q
  obtain ⟨h4,h5⟩ := Bool.and_eq_true_iff.mp q
  exact ⟨h1,h2,(mg_of H _).trans (eq_of_beq h3),(mg_of H _).trans (eq_of_beq h4),(mg_of H _).trans (eq_of_beq h5)⟩
theorem rec_mem {n : Str} (h : ((recsOf hQ).find? fun d => d.name == n).isSome = true) : ∃ d ∈ recsOf hQ,d.name = n := by
  obtain ⟨d,hd⟩ := Option.isSome_iff_exists.mp h
  exact ⟨d,List.mem_of_find?_eq_some hd,by simpa using List.find?_some hd⟩
theorem rec5 : ((recsOf hQ).find? fun d => d.name == oS "serialize_string_value").isSome = true := by kernel_rfl
theorem rec6 : ((recsOf hQ).find? fun d => d.name == oS "serialize_url").isSome = true := by kernel_rfl
theorem tab_of {h : Heap} {K : Frag} {loose : List Str} {mean : ExcName → Option Value} {n : Str} {f c t : Nat} (T : Top hQ loose mean mg mb h) (KX : K.In h) (hr : ((recsOf hQ).find? fun d => d.name == n).isSome = true) (hm : mg n = some (.ref f)) (hc : tabB K f c t = true) : h.IsCode c t #[] ∧ h.TableAt c t #[] := by
  obtain ⟨d,hd,hn⟩ := rec_mem hr
  obtain ⟨a,o,fd,c',P',h1,h2,h3,h4,h5,h6⟩ := T.tab d hd
  rw [hn,hm] at h1; cases h1
  unfold tabB at hc
  split at hc
  · rename_i e1 e2
    have z1 := KX _ _ e1
    have z2 := KX _ _ e2
    rw [h2] at z1; cases z1
    cases h3
    obtain ⟨q1,q2⟩ := Bool.and_eq_true_iff.mp hc
    have q1 := eq_of_beq q1
    have q2 := eq_of_beq q2
    rw [h4] at q1; cases q1
    obtain ⟨⟨o',vs',r1,r2,r3,r4⟩,r5⟩ := id h6
    rw [z2] at r1; cases r1
    cases r3
    rw [r4] at q2; cases q2
    exact ⟨h5,h6⟩
  · cases hc
theorem head_law {s₁ : Shared} {fa a i : Nat} {ns : List Int} {K : Frag} {loose : List Str} {mean : ExcName → Option Value} (T : Top hQ loose mean mg mb s₁.heap) (S : Seen w s₁.heap K) (hmg : mg "law" = some (.ref fa))
    (hw : Well w.params s₁.heap (.ref a) (ofPy (.list (ns.map PyData.int)))) (hg : s₁.gens = #[]) (hi : (i,746) ∈ fnT)
    (hlaw : Calls (mkC w mg mb s₁.heap s₁.os K) 300 (.fn i) [.lst (ns.map V.int)] [.tab 33,.tab 40] fun v hp' => v = .bool true ∧ hp'[0]? = some (.tab 33) ∧ hp'[1]? = some (.tab 40)) :
    codeAny (model P w) callerA (.call (.ref fa) ⟨[.ref a],[]⟩) (fun r s' => r = .ok (.ret (.bool true)) ∧ OldK s₁.heap s'.heap ∧ s'.os = s₁.os ∧ AllBare s'.gens) s₁ := by
  have H : HeadOk w mg mb s₁.heap K := ⟨S,T.g,T.b,T.nolimit,T.builtins,T.bmain⟩
  obtain ⟨g1,g2,m5,m6,ml⟩ := more_of H
  rw [ml] at hmg
  have hf : 746 = fa := by injection hmg with h; injection h
  subst hf
  obtain ⟨c5,t5⟩ := tab_of T S.kin rec5 m5 g1
  obtain ⟨c6,t6⟩ := tab_of T S.kin rec6 m6 g2
  exact fin_law (C := mkC w mg mb s₁.heap s₁.os K) (cx_ok H) rfl rfl rfl c5 c6 t5 t6 hw hg (fn_of H hi) hlaw
theorem good {c : ClaimW} {cl : Str → Option Addr} {mean : ExcName → Option Value} {args : List WData} {s₁ s' : Shared} {r : Result} (h1 : ∀ cls,c.raises args cls = false) (h2 : c.post args (.bool true) args = true)
    (h : r = .ok (.ret (.bool true)) ∧ OldK s₁.heap s'.heap ∧ s'.os = s₁.os ∧ AllBare s'.gens) : GoodWG c cl mean args s₁ r s' := by
  obtain ⟨rfl,h3,h4,h5⟩ := h
  exact ⟨.inl ⟨.bool true,.bool true,[],rfl,h1,.bool true,h2,fun _ => ⟨List.nodup_nil,fun a ha => by cases ha⟩⟩,h3,h4,h5⟩
end
end
section
set_option maxRecDepth 100000
set_option maxHeartbeats 0
theorem h_left : LeftO PW hQ hLoose hX hObs hVal 14698 := left_of 14000 (by decide) fun w os => by
  have r : PySem.W.segRunT treeTable PW w 11 (some (Value.ref 6)) 1 14000 (hStart w.params os) (piecesOf (behindTheImports PW) hEnv hCode hPos [hFrame]) = some (Flow.next,hStateE w.params os,hCode,hLast) := by
    rw [PySem.W.Fast.te10110043849684766642,PySem.W.Fast.te14364793385576792824]
    exact congrFun (hrun_all w) os
  have l2 : openSeen hQ hLoose (importedModules PW.main.body) hX true (hStateE w.params os).abs = openGood hQ hLoose := by
    rw [PySem.W.Fast.te4187177175401517315]
    exact congrFun (looks2' w) os
  rw [r]
  show some (Flow.next,hCode,hLooks w (hStateE w.params os).abs,openSeen hQ hLoose (importedModules PW.main.body) hX true (hStateE w.params os).abs,hObs (hStateE w.params os).abs) = _
  rw [l2,congrFun (looks1 w) os,congrFun (looks3 w) os]
noncomputable def hRec : DefRec := match defOf hQ (oS "law") with | some x => x.1 | none => ⟨Str.empty,default,[],default,default⟩
noncomputable def hKw : List (Str × PySem.Expr) := match defOf hQ (oS "law") with | some x => x.2 | none => []
theorem said1 : PySem.Challenge.rw_qv0003_07.wellSaid = true := by
  rw [PySem.W.Fast.te9446332074065402090]; kernel_rfl
theorem h_def : defOf hQ ORW.name = some (hRec,hKw) := by kernel_rfl
theorem h_thedef : ORW.prog.theDef ORW.name = some (hRec.params,hRec.body,hRec.scope) := by kernel_rfl
theorem h_kw : kwWritten? hRec.params.kwonlyargs hRec.params.kw_defaults = some hKw := by kernel_rfl
theorem h_wr : (!ORW.writes || List.isEmpty ORW.records) = true := by kernel_rfl
theorem h_ok : (chainsOk hQ && opensWell ORW.prog && (frees ORW.toRowW && ORW.within.isEmpty)) = true := by kernel_rfl
theorem h_bare : ORW.prog.bare := ⟨rfl,rfl,rfl,rfl,rfl,by decide +kernel⟩
theorem h_prom : ORW.toRowW.promised := ⟨[.list []],by decide +kernel,by decide +kernel⟩
theorem h_name : hRec.name = oS "law" := by kernel_rfl
end
section
set_option maxRecDepth 100000
set_option maxHeartbeats 8000000
theorem h_walk : WalkO hQ hLoose (fun _ _ => True) hSays ORW.toRowW hRec hKw fun f vs => PySem.call f vs := by
  w_strict (
    intro w s₀ s₁ mg mb G Y fa o pm cd doc dV kV ho hd hcd hD hmg hg args vals as hpre hlay hrd hwl hlo
    obtain ⟨K,S⟩ := Y
    refine Ground.open G ?_
    intro T B D TE TW
    clear G B D TE TW ho hd hcd hD
    rw [h_name] at hmg
    wrow_args hpre hlay hrd hwl hlo
    all_goals (first | refine callC_kw (enter_call ?_) | refine enter_call ?_ | refine callC_kw (enter_callW ?_) | refine enter_callW ?_ | w_how)
    refine codeAny_mono (head_law (i := 49) T S hmg (by assumption) hg (by decide) (law7_call (by (first|lia -abstractProof|omega)) (Nat.zero_le _) rfl rfl)) fun r s' q => good (fun _ => rfl) (by kernel_rfl) q)
end
end
end TC
theorem PySem.Challenge.cw_qv0003_07_holds : PySem.Challenge.rw_qv0003_07.Holds := by
  exact holds_law TC.said1 fun said => holds_open TC.h_left TC.hOf TC.hKeeps (fun _ _ => trivial) (fun _ _ _ _ _ => trivial) TC.h_def TC.h_thedef TC.h_kw (fun s e => recFacts_of e) TC.h_wr said TC.h_ok TC.h_bare TC.h_prom TC.h_walk
